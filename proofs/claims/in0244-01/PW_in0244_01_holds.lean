import PyProof.Rows.All
import Wide.All
import OpenK.AllK
import Wide.FinOn
import Lean
import PySem.Challenge.RW_in0244_01
open PySem PySem.W PyProof.Rows
set_option Elab.async false
set_option maxRecDepth 100000
set_option linter.unusedVariables false

section
set_option maxHeartbeats 8000000
namespace Mine
open PySem PySem.Calls PyProof.Rows PyProof.V PySem.Spec
/-- the function object that the i-th statement of the text makes -/
def fnObj (i : Nat) (m : String) (t c : Nat) : Obj := match PySem.Challenge.pw_in0244_01.main.body[i]? with
  | some (.FunctionDef n ps b _ _ _ sc _ _ _) => { cls := .type "function", data := .func { name := n, qualname := n, params := ps, body := .stmts b, scope := sc, globals := 3, closure := [], defaults := .none, kwdefaults := .none, pyModule := .str (.ofString m) t, code := .ref c } }
  | _ => { cls := .none }
def ent (P : Params) (x : String) (t : Nat) (v : Value) : DictEntry := { hash := PyData.keyHash P (.ofString x), key := .str (.ofString x) t, val := v }
def codeObj (n : String) (t line ac r x : Nat) (own : Bool) : Obj := { cls := .type "code", data := .fields #[.str (.ofString n) t, .str (.ofString n) (t + 1), .str (.ofString "/claim/cut.py") (t + 2), .int line 0, .int ac 0, .int 0 0, .int 0 0, .int 3 0, .ref r, .bool true, .int 276 0, .ref (r + 1), .none, bif own then .ref (r + 2) else .none, bif own then .ref (r + 3) else .none, .ref (bif own then r + 4 else r + 2), .int x 0, .int line 0, .str (.ofString "/claim/cut.py") (x + 1)] }
def esc (c t : Nat) (x : String) : DictEntry := { hash := c, key := .int c t, val := .str (.ofString x) (t + 4) }
def heapK : Params → Frag := fun P =>
  (nat_lit 3, { cls := .type "dict", data := .dict #[ent P "__name__" 165 (.str (.ofString "law_in0244_01") 576), ent P "__doc__" 166 (.none), ent P "__package__" 167 (.none), ent P "__loader__" 168 (.builtin "__main__.__loader__#opaque"), ent P "__spec__" 169 (.none), ent P "__annotations__" 170 (.ref 6), ent P "__builtins__" 171 (.ref 4), ent P "__file__" 173 (.str (.ofString "/claim/cut.py") 172), ent P "__cached__" 174 (.none), ent P "_sre" 275 (.ref 12), ent P "_twin_re_1" 321 (.ref 36), ent P "translate" 330 (.ref 43), ent P "_special_chars_map" 478 (.ref 45), ent P "escape" 485 (.ref 55), ent P "_translate" 506 (.ref 62), ent P "_join_translated_parts" 519 (.ref 69), ent P "heappush" 529 (.ref 76), ent P "heapreplace" 538 (.ref 83), ent P "_siftdown" 550 (.ref 90), ent P "_siftup" 563 (.ref 97), ent P "Int2AP" 575 (.ref 104), ent P "_law_takes" 589 (.ref 111), ent P "_law_tried" 601 (.ref 118), ent P "_law_least" 607 (.ref 123), ent P "_law_arches" 613 (.ref 128), ent P "_law_rank" 623 (.ref 135), ent P "law" 629 (.ref 140)] 27 }) ::
  (nat_lit 35, { cls := .type "tuple", data := .seq #[.int 14 0, .int 14 0, .int 4 0, .int 1 0, .int 1 0, .int 9 0, .int 0 0, .int 64 0, .int 0 0, .int 1342177280 0, .int 0 0, .int 0 0, .int 0 0, .int 0 0, .int 0 0, .int 17 0, .int 0 0, .int 13 0, .int 11 0, .int 9 0, .int 0 0, .int 64 0, .int 0 0, .int 1342177280 0, .int 0 0, .int 0 0, .int 0 0, .int 0 0, .int 0 0, .int 17 0, .int 1 0, .int 1 0] }) ::
  (nat_lit 36, { cls := .type "re.Pattern", data := .fields #[.str (.ofString "([&~|])") 285, .int 32 320, .int 1 0, .none, .none, .ref 35, .int 0 0] }) ::
  (nat_lit 42, codeObj "translate" 322 4 1 37 328 true) ::
  (nat_lit 43, fnObj 3 "cpy313.fnmatch" 282 42) ::
  (nat_lit 45, { cls := .type "dict", data := .dict #[esc 40 334 "\\(", esc 41 340 "\\)", esc 91 346 "\\[", esc 93 352 "\\]", esc 123 358 "\\{", esc 125 364 "\\}", esc 63 370 "\\?", esc 42 376 "\\*", esc 43 382 "\\+", esc 45 388 "\\-", esc 124 394 "\\|", esc 94 400 "\\^", esc 36 406 "\\$", esc 92 412 "\\\\", esc 46 418 "\\.", esc 38 424 "\\&", esc 126 430 "\\~", esc 35 436 "\\#", esc 32 442 "\\ ", esc 9 448 "\\\t", esc 10 454 "\\\n", esc 13 460 "\\\x0d", esc 11 466 "\\\x0b", esc 12 472 "\\\x0c"] 24 }) ::
  (nat_lit 54, codeObj "escape" 479 10 1 49 483 true) ::
  (nat_lit 55, fnObj 6 "re" 331 54) ::
  (nat_lit 61, codeObj "_translate" 488 17 3 56 504 true) ::
  (nat_lit 62, fnObj 8 "cpy313.fnmatch" 486 61) ::
  (nat_lit 68, codeObj "_join_translated_parts" 507 79 2 63 517 true) ::
  (nat_lit 69, fnObj 9 "cpy313.fnmatch" 486 68) ::
  (nat_lit 75, codeObj "heappush" 522 107 2 70 527 true) ::
  (nat_lit 76, fnObj 11 "cpy313.heapq" 520 75) ::
  (nat_lit 82, codeObj "heapreplace" 530 110 2 77 536 true) ::
  (nat_lit 83, fnObj 12 "cpy313.heapq" 520 82) ::
  (nat_lit 89, codeObj "_siftdown" 539 115 3 84 548 true) ::
  (nat_lit 90, fnObj 13 "cpy313.heapq" 520 89) ::
  (nat_lit 96, codeObj "_siftup" 551 126 2 91 561 true) ::
  (nat_lit 97, fnObj 14 "cpy313.heapq" 520 96) ::
  (nat_lit 103, codeObj "Int2AP" 566 141 1 98 573 true) ::
  (nat_lit 104, fnObj 16 "cpy313.imaplib" 564 103) ::
  (nat_lit 110, codeObj "_law_takes" 578 150 2 105 587 true) ::
  (nat_lit 111, fnObj 18 "law_in0244_01" 576 110) ::
  (nat_lit 117, codeObj "_law_tried" 590 159 3 112 599 true) ::
  (nat_lit 118, fnObj 19 "law_in0244_01" 576 117) ::
  (nat_lit 122, codeObj "_law_least" 602 166 3 119 605 false) ::
  (nat_lit 123, fnObj 20 "law_in0244_01" 576 122) ::
  (nat_lit 127, codeObj "_law_arches" 608 173 3 124 611 false) ::
  (nat_lit 128, fnObj 21 "law_in0244_01" 576 127) ::
  (nat_lit 134, codeObj "_law_rank" 614 180 2 129 621 true) ::
  (nat_lit 135, fnObj 22 "law_in0244_01" 576 134) ::
  (nat_lit 139, codeObj "law" 624 186 1 136 627 false) ::
  (nat_lit 140, fnObj 23 "law_in0244_01" 576 139) ::
  []
def view : Program := { PySem.Challenge.pw_in0244_01 with main := { PySem.Challenge.pw_in0244_01.main with body := [0, 2, 3, 5, 6, 8, 9, 11, 12, 13, 14, 16, 18, 19, 20, 21, 22, 23].filterMap fun i => PySem.Challenge.pw_in0244_01.main.body[i]? } }
abbrev addrs : List Addr := [3, 35, 36, 42, 43, 45, 54, 55, 61, 62, 68, 69, 75, 76, 82, 83, 89, 90, 96, 97, 103, 104, 110, 111, 117, 118, 122, 123, 127, 128, 134, 135, 139, 140]
theorem addrs_ok (P : Params) : addrs = (heapK P).map (·.1) := by kernel_rfl
abbrev hook : Hook := kHook heapK addrs addrs_ok

end Mine
end

namespace Mine
def Uses (_ : OpenLaw) (_ : Params → Frag) : Prop := True
theorem uses : Uses PySem.Challenge.rw_in0244_01 heapK := by
  k_fill
  exact True.intro
end Mine

section
set_option maxHeartbeats 8000000
namespace Mine
open PySem PySem.Calls PyProof.Rows PyProof.V PySem.Spec
abbrev rowO : OpenRow := PySem.Challenge.rw_in0244_01.row
abbrev loose2 : List Str := [Str.ofString "_twin_re_1", Str.ofString "_special_chars_map"]
abbrev Xt2 (s : Shared) : Bool := xlAt view [] s && recOk (RowW.records rowO.toRowW) s
/-- what the head asks of the walk -/
abbrev Need (P : Prop) : Prop := ∀ {d : DefRec} {kwd : List (Str × PySem.Expr)}, defOf view rowO.name = some (d, kwd) → rowO.prog.theDef rowO.name = some (d.params, d.body, d.scope) → kwWritten? d.params.kwonlyargs d.params.kw_defaults = some kwd →
  WalkO view loose2 (XL view []) (kHook heapK addrs addrs_ok).says rowO.toRowW d kwd (fun f vs => PySem.call f vs) → P
end Mine
end

section
set_option maxHeartbeats 8000000
namespace Mine
open PySem PySem.Calls PyProof.Rows PyProof.V PySem.Spec

section
variable {M : Model} {A : Around} {E : Value → Shared → Prop} {hp : Heap} {gn : Array GenState} {dr : Drawn} {o : OsState} {t₀ : Nat} {h₀ : Heap} {L a : Addr} {m : PySem.Str → Option Value} {s : Shared} {cn : PySem.Str} {cs : Scope} {ccd : Value} {cl : List (PySem.Str × Addr)} {x : PySem.Str} {v : Value} {news : List (Addr × Obj)} {Q : Unit → Shared → Prop}
theorem let_env {b : List Stmt} {env : Env} {Q : Flow → Shared → Prop} (k : let e' := env; let A' := A.deeper e'; wpAny M A' (execs b e') Q E s) : wpAny M (A.deeper env) (execs b env) Q E s := k
theorem my_store (F : Fr h₀ L hp m) (N : News h₀ L hp news)
    (h : ∀ h' tk, let m' := fun y => if y = x then some v else m y; Fr h₀ L h' m' → News h₀ L h' news → Q () ⟨h', gn, dr, tk, o⟩)
    (hk : cs.kind = .function := by rfl) (hx : (envX cn cs L a ccd cl).kindOf x = some .local := by rfl) : wpAny M A (storeName (envX cn cs L a ccd cl) x v) Q E ⟨hp, gn, dr, t₀, o⟩ :=
  storeX_L F N (fun h' F' N' => h h' _ F' N') hk hx
end

/-- a call that turns one list of ints: news' head is the list -/
abbrev LClaim (prog : Program) (w : World) (K : Frag) (p : Program) (loose : List PySem.Str) (mean : ExcName → Option Value) (mg mb : PySem.Str → Option Value) (f : Addr) (d : Nat) (news : List (Addr × Obj)) (l : Addr) (vs : List Value) (nn : Nat) (ns : List Int) (pre : Prop) (args : List Value) (ns' : List Int) (R : Value → Prop) : Prop :=
  ∀ (dp un : Nat) (gd : Option (List Code)) (cn : PySem.Str) (cs : Scope) (a : Addr) (ccd : Value) (cl : List (PySem.Str × Addr)) (outer : List Env) (A₀ : Around) (base h₀ : Heap) (L : Addr) (m : PySem.Str → Option Value) (s : Shared) (Q E : Value → Shared → Prop),
    Below A₀ base outer h₀ → Fr h₀ L s.heap m → K.In h₀ → News h₀ L s.heap ((l, listOf vs.toArray nn) :: news) → (∀ p ∈ news, p.1 ≠ l) → IntsAre vs ns → Top p loose mean mg mb h₀ → cs.kind = .function →
    pre → dp + d < recursionLimit → un + 8 * d < cLine →
    (∀ (v : Value) (vs' : List Value) (nn' : Nat) (h' : Heap) (tk' : Nat), R v → IntsAre vs' ns' → Fr h₀ L h' m → News h₀ L h' ((l, listOf vs'.toArray nn') :: news) → Q v { s with heap := h', toks := tk' }) →
      wpAny (model prog w) (ktrTop dp un gd cn cs L a ccd cl outer) (call (.ref f) args) Q E s

section
variable {prog : Program} {w : World} {K : Frag} {p : Program} {loose : List PySem.Str} {mean : ExcName → Option Value} {mg mb : PySem.Str → Option Value} {f : Addr} {d : Nat} {news : List (Addr × Obj)} {l : Addr} {vs : List Value} {nn : Nat} {ns : List Int} {pre : Prop} {args : List Value} {ns' : List Int} {R : Value → Prop}
  {dp un : Nat} {gd : Option (List Code)} {cn : PySem.Str} {cs : Scope} {a : Addr} {ccd : Value} {cl : List (PySem.Str × Addr)} {outer : List Env} {A₀ : Around} {base h₀ : Heap} {L : Addr} {m : PySem.Str → Option Value} {s : Shared} {Q E : Value → Shared → Prop}
theorem lc_use (B : Below A₀ base outer h₀) (F : Fr h₀ L s.heap m) (X : K.In h₀) (N : News h₀ L s.heap ((l, listOf vs.toArray nn) :: news)) (hne : ∀ p ∈ news, p.1 ≠ l) (hi : IntsAre vs ns) (T : Top p loose mean mg mb h₀) (hk : cs.kind = .function)
    (C : LClaim prog w K p loose mean mg mb f d news l vs nn ns pre args ns' R) (hp : pre) (hd : dp + d < recursionLimit) (hu : un + 8 * d < cLine)
    (ret : ∀ (v : Value) (vs' : List Value) (nn' : Nat) (h' : Heap) (tk' : Nat), R v → IntsAre vs' ns' → Fr h₀ L h' m → News h₀ L h' ((l, listOf vs'.toArray nn') :: news) → Q v { s with heap := h', toks := tk' }) :
    wpAny (model prog w) (ktrTop dp un gd cn cs L a ccd cl outer) (call (.ref f) args) Q E s := C _ _ _ _ _ _ _ _ _ _ _ _ _ _ _ _ _ B F X N hne hi T hk hp hd hu ret
end

/-- a call that may make objects (tl) -/
abbrev NClaim (prog : Program) (w : World) (K : Frag) (p : Program) (loose : List PySem.Str) (mean : ExcName → Option Value) (mg mb : PySem.Str → Option Value) (f : Addr) (d : Nat) (news : List (Addr × Obj)) (pre : Prop) (args : List Value) (R : Value → List (Addr × Obj) → Prop) : Prop :=
  ∀ (dp un : Nat) (gd : Option (List Code)) (cn : PySem.Str) (cs : Scope) (a : Addr) (ccd : Value) (cl : List (PySem.Str × Addr)) (outer : List Env) (A₀ : Around) (base h₀ : Heap) (L : Addr) (m : PySem.Str → Option Value) (s : Shared) (Q E : Value → Shared → Prop),
    Below A₀ base outer h₀ → Fr h₀ L s.heap m → K.In h₀ → News h₀ L s.heap news → Top p loose mean mg mb h₀ → cs.kind = .function →
    pre → dp + d < recursionLimit → un + 8 * d < cLine →
    (∀ (v : Value) (tl : List (Addr × Obj)) (h' : Heap) (tk' : Nat), R v tl → Fr h₀ L h' m → News h₀ L h' (tl ++ news) → (∀ q ∈ tl, ∀ p ∈ news, p.1 < q.1) → Q v { s with heap := h', toks := tk' }) →
      wpAny (model prog w) (ktrTop dp un gd cn cs L a ccd cl outer) (call (.ref f) args) Q E s
section
variable {prog : Program} {w : World} {K : Frag} {p : Program} {loose : List PySem.Str} {mean : ExcName → Option Value} {mg mb : PySem.Str → Option Value} {f : Addr} {d : Nat} {news : List (Addr × Obj)} {pre : Prop} {args : List Value} {R : Value → List (Addr × Obj) → Prop}
  {dp un : Nat} {gd : Option (List Code)} {cn : PySem.Str} {cs : Scope} {a : Addr} {ccd : Value} {cl : List (PySem.Str × Addr)} {outer : List Env} {A₀ : Around} {base h₀ : Heap} {L : Addr} {m : PySem.Str → Option Value} {s : Shared} {Q E : Value → Shared → Prop}
theorem nc_use (B : Below A₀ base outer h₀) (F : Fr h₀ L s.heap m) (X : K.In h₀) (N : News h₀ L s.heap news) (T : Top p loose mean mg mb h₀) (hk : cs.kind = .function)
    (C : NClaim prog w K p loose mean mg mb f d news pre args R) (hp : pre) (hd : dp + d < recursionLimit) (hu : un + 8 * d < cLine)
    (ret : ∀ (v : Value) (tl : List (Addr × Obj)) (h' : Heap) (tk' : Nat), R v tl → Fr h₀ L h' m → News h₀ L h' (tl ++ news) → (∀ q ∈ tl, ∀ p ∈ news, p.1 < q.1) → Q v { s with heap := h', toks := tk' }) :
    wpAny (model prog w) (ktrTop dp un gd cn cs L a ccd cl outer) (call (.ref f) args) Q E s := C _ _ _ _ _ _ _ _ _ _ _ _ _ _ _ _ _ B F X N T hk hp hd hu ret
theorem cb_use {vs : List Value} {R : Tok → Value} (B : Below A₀ base outer h₀) (F : Fr h₀ L s.heap m) (X : K.In h₀) (N : News h₀ L s.heap news) (T : Top p loose mean mg mb h₀) (hk : cs.kind = .function)
    (C : CbClaim prog w K p loose mean mg mb f news [] pre vs R) (hp : pre) (hd : dp + 1 < recursionLimit) (hu : un + 8 < cLine)
    (ret : ∀ (t : Tok) (h' : Heap) (tk' : Nat), Fr h₀ L h' m → News h₀ L h' news → Q (R t) { s with heap := h', toks := tk' }) :
    wpAny (model prog w) (ktrTop dp un gd cn cs L a ccd cl outer) (call (.ref f) vs) Q E s := C _ _ _ _ _ _ _ _ _ _ _ _ _ _ _ _ _ B F X N T hk hp hd hu ret
end

/-- sift an item down the heap's road to the root -/
def sdGo (x : Int) (start : Nat) (pos : Nat) (ns : List Int) : List Int :=
  if h : start < pos then (if x < ns.getD ((pos - 1) / 2) 0 then sdGo x start ((pos - 1) / 2) (ns.set pos (ns.getD ((pos - 1) / 2) 0)) else ns.set pos x) else ns.set pos x
termination_by pos
decreasing_by omega
end Mine
end

section
set_option maxHeartbeats 8000000
namespace Mine
open PySem PySem.Calls PyProof.Rows PyProof.V PySem.Spec
/-- the letters of a number to the base 16, 'A' for 0 -/
def apL (n : Nat) : List UInt8 := if h : n = 0 then [] else apL (n / 16) ++ [UInt8.ofNat (65 + n % 16)]
termination_by n
decreasing_by omega

section
variable {prog : Program} {w : World} {A : Around} {E : Value → Shared → Prop} {s : Shared} {value slice : PySem.Expr} {b : Array UInt8} {t : Tok} {h₀ : Heap} {L : Addr} {m : PySem.Str → Option Value} {news : List (Addr × Obj)} {l u : Value} {lo hi : Option Int} {Q : Value → Shared → Prop}
theorem bslice_K (hF : Fr h₀ L s.heap m) (hN : News h₀ L s.heap news) (hl : IsPart l lo) (hu : IsPart u hi) (hz : b.size ≤ sizeLine)
    (h : ∀ h' t' k, Fr h₀ L h' m → News h₀ L h' news → Q (.bytes (KBy.picked b lo hi) t') { s with heap := h', toks := k })
    (hs : subscripted slice false (.bytes b t) (.ref s.heap.objs.size) = operate [.ref s.heap.objs.size, .bytes b t] (getItem (.bytes b t) (.ref s.heap.objs.size)) := by with_unfolding_all rfl)
    (ht : ∀ r, letTemporaryGo value (.bytes b t) r = pure () := by intro _; with_unfolding_all rfl) :
    wpAny (model prog w) A (subscriptTail value slice (.bytes b t) (.ref s.heap.objs.size)) Q E { s with heap := s.heap.push { cls := .type "slice", data := .fields #[l, u, .none] } } :=
  tail_of_ItemOn ⟨"bytes", _, FB.slot_bytes_getitem.lookup, typeIs_bytes _ _ _, getItem_meets (typeIs_bytes _ _ _) (by decide) FB.slot_bytes_getitem FB.entry_bytes_getitem (FB.args_bytes_getitem_2 _ _) (KBc.meets_slice2 b t _ hl hu)
    ⟨Heap.IsSliceOf.new _ _ _ _, Nat.le_trans (KBc.size_picked_le b lo hi) hz, fun t' k => h _ _ _ (hF.push _) (News.pushKeep hN _)⟩⟩ hs ht
end


theorem apL_zero : apL 0 = [] := by unfold apL; simp
theorem apL_pos {n : Nat} (h : n ≠ 0) : apL n = apL (n / 16) ++ [UInt8.ofNat (65 + n % 16)] := by
  rw [apL]; simp [h]
theorem apL_len : ∀ (k n : Nat), n < 16 ^ k → (apL n).length ≤ k
  | 0, n, h => by
    have : n = 0 := by simpa using h
    subst this; rw [apL_zero]; exact Nat.le_refl _
  | k + 1, n, h => by
    by_cases h0 : n = 0
    · subst h0; rw [apL_zero]; exact Nat.zero_le _
    · rw [apL_pos h0, List.length_append]
      have := apL_len k (n / 16) (by rw [Nat.pow_succ] at h; omega)
      simp only [List.length_cons, List.length_nil]; omega
theorem ap_pick : ∀ k : Fin 16, KBy.picked #[65, 66, 67, 68, 69, 70, 71, 72, 73, 74, 75, 76, 77, 78, 79, 80] (some (k.val : Int)) (some ((k.val : Int) + 1)) = #[UInt8.ofNat (65 + k.val)] := by decide +kernel
theorem ap_pick' (n : Int) (h : 0 ≤ n) : KBy.picked #[65, 66, 67, 68, 69, 70, 71, 72, 73, 74, 75, 76, 77, 78, 79, 80] (some (n.fmod 16)) (some (n.fmod 16 + 1)) = #[UInt8.ofNat (65 + n.toNat % 16)] := by
  have e : n.fmod 16 = ((n.toNat % 16 : Nat) : Int) := by
    rw [Int.fmod_eq_emod_of_nonneg _ (by decide)]; omega
  rw [e]
  exact ap_pick ⟨n.toNat % 16, Nat.mod_lt _ (by decide)⟩
def ApInv (n0 n : Int) (v : Array UInt8) : Prop := 0 ≤ n ∧ n0 < 16 ^ 7 ∧ apL n.toNat ++ v.toList = apL n0.toNat ∧ v.size ≤ 7
theorem ap_start (n : Int) (h : n.natAbs < 16 ^ 7) : ApInv (if n < 0 then -n else n) (if n < 0 then -n else n) #[] := by
  refine ⟨?_, ?_, by simp, by simp⟩ <;> split <;> omega
theorem ap_turn {n0 n : Int} {v : Array UInt8} (I : ApInv n0 n v) (hn : n ≠ 0) :
    ApInv n0 (n.fdiv 16) (KBy.picked #[65, 66, 67, 68, 69, 70, 71, 72, 73, 74, 75, 76, 77, 78, 79, 80] (some (n.fmod 16)) (some (n.fmod 16 + 1)) ++ v) := by
  obtain ⟨h0, h1, e, hs⟩ := I
  have ed : n.fdiv 16 = ((n.toNat / 16 : Nat) : Int) := by
    rw [Int.fdiv_eq_ediv_of_nonneg _ (by decide)]; omega
  have key : apL (n.fdiv 16).toNat ++ (KBy.picked #[65, 66, 67, 68, 69, 70, 71, 72, 73, 74, 75, 76, 77, 78, 79, 80] (some (n.fmod 16)) (some (n.fmod 16 + 1)) ++ v).toList = apL n0.toNat := by
    rw [ap_pick' n h0, ed, Int.toNat_natCast, ← e, apL_pos (n := n.toNat) (by omega)]
    simp
  refine ⟨by rw [ed]; omega, h1, key, ?_⟩
  have := congrArg List.length key
  rw [List.length_append] at this
  have l := apL_len 7 n0.toNat (by omega)
  rw [← Array.length_toList]
  omega
theorem ap_size {n0 n : Int} {v : Array UInt8} (I : ApInv n0 n v) (b : Array UInt8) (lo hi : Option Int) (hb : b.size ≤ 16) : (KBy.picked b lo hi).size + v.size ≤ 16777216 := by
  have := KBc.size_picked_le b lo hi
  have := I.2.2.2
  omega
theorem ap_less {n0 n : Int} {v : Array UInt8} (I : ApInv n0 n v) (hn : n ≠ 0) : (n.fdiv 16).toNat < n.toNat := by
  have h0 := I.1
  rw [Int.fdiv_eq_ediv_of_nonneg _ (by decide)]; omega
theorem ap_end {n0 n : Int} {v : Array UInt8} (I : ApInv n0 n v) (hn : n = 0) : v = (apL n0.toNat).toArray := by
  have e := I.2.2.1
  subst hn
  apply Array.ext'
  rw [← e]
  show v.toList = _
  rw [show (0 : Int).toNat = 0 from rfl, apL_zero, List.nil_append]
theorem abs_toNat (n : Int) : (if n < 0 then -n else n).toNat = n.natAbs := by split <;> omega
theorem ret_eq {Q : Value → Shared → Prop} {s : Shared} {v v' : Value} (h : Q v s) (e : v' = v) : Q v' s := e ▸ h
local macro_rules | `(tactic| walk_at "eval Name") => `(tactic| (k_here; (with_reducible rename Fr _ _ _ _ => kF); with_unfolding_all refine guard_global (by rfl) ?_; k_dflt (refine' name_B kF ?k1 ?k2 ?k3 ?k4 ?k5 ?_; (case k1 => k_asm); (case k2 => k_asm); (case k3 => k_is); (case k4 => exact boot_divmod); (case k5 => decide); k_whole)))
local macro_rules | `(tactic| walk_at "subscriptTail") => `(tactic| (k_here; (with_reducible show wpAny _ _ (subscriptTail _ (Expr.Slice _ _ none _) (Value.bytes _ _) (Value.ref _)) _ _ _); (with_reducible rename Fr _ _ _ _ => F'); (with_reducible rename News _ _ _ _ => N'); (refine bslice_K (s := ⟨_, _, _, _, _⟩) F' N' (by constructor) (by constructor) (by decide) ?_); intro _ _ _ _ _))

local macro_rules | `(tactic| walk_at "binaryOp Add bytes bytes") => `(tactic| (k_here; (with_reducible show wpAny _ _ (binaryOp Operator.Add (Value.bytes _ _) (Value.bytes _ _)) _ _ _); (refine KBy.add_bytes (ap_size (by assumption) _ _ _ (by decide)) ?_); intro _ _))

theorem c_ap {prog : Program} {w : World} {p : Program} {loose : List Str} {mean : ExcName → Option Value} {mg mb : Str → Option Value} (news : List (Addr × Obj)) (num : Int) (t : Tok) :
   CbClaim prog w (heapK w.params) p loose mean mg mb 104 news [] (num.natAbs < 16 ^ 7) [.int num t] (fun t => .bytes (apL num.natAbs).toArray t) := by
  dsimp only [CbClaim, CbLists, CbRet]; intros; rename_i hret
  refine wpAny_call ?_
  k_dflt cell_enter
  (k_with "state" => first | exact ap_start _ (by assumption) | exact ap_turn (by assumption) (by assumption))
  (k_with "measure" => exact ap_less (by assumption) (by assumption))
  (k_with "exec While Name cons nil" => k_while_given ["num!"] (fun (n0 : Int) script (n : Int) (v : Array UInt8) => ApInv n0 n v) (fun (n0 : Int) script n v => n.toNat) "num" "val")
  k_steps
  have e := ap_end kInv (by assumption)
  rw [abs_toNat] at e
  subst e
  exact hret _ _ _ (by assumption) (by assumption)
end Mine
end

section
set_option maxHeartbeats 8000000
namespace Mine
open PySem PySem.Calls PyProof.Rows PyProof.V PySem.Spec


def rkN (lower : Int) (n : Nat) : Int := if h : n = 0 then 0 else (if ((n % 16 : Nat) : Int) = lower then 1 else 2) + 2 * rkN lower (n / 16)
termination_by n
decreasing_by omega
theorem rkN_zero (lower : Int) : rkN lower 0 = 0 := by rw [rkN]; simp
theorem rkN_pos {lower : Int} {n : Nat} (h : n ≠ 0) : rkN lower n = (if ((n % 16 : Nat) : Int) = lower then 1 else 2) + 2 * rkN lower (n / 16) := by
  rw [rkN]; simp [h]
theorem fdiv16 {n : Int} (h : 0 ≤ n) : n.fdiv 16 = ((n.toNat / 16 : Nat) : Int) := by
  rw [Int.fdiv_eq_ediv_of_nonneg _ (by decide)]; omega
theorem fmod16 {n : Int} (h : 0 ≤ n) : n.fmod 16 = ((n.toNat % 16 : Nat) : Int) := by
  rw [Int.fmod_eq_emod_of_nonneg _ (by decide)]; omega
def RkInv (n0 lower n rank worth : Int) : Prop := 0 ≤ n ∧ rank + worth * rkN lower n.toNat = rkN lower n0.toNat
theorem rk_start {n lower : Int} (h : 0 ≤ n ∧ n < 16 ^ 6) : RkInv n lower n 0 1 := ⟨h.1, by rw [Int.one_mul, Int.zero_add]⟩
theorem rk_turn {n0 lower n rank worth c : Int} (I : RkInv n0 lower n rank worth) (hn : n ≠ 0) (hc : c = worth * (if n.fmod 16 = lower then 1 else 2)) :
    RkInv n0 lower (n.fdiv 16) (rank + c) (worth * 2) := by
  obtain ⟨h0, e⟩ := I
  have hz : n.toNat ≠ 0 := fun q => hn (by rw [← Int.toNat_of_nonneg h0, q]; rfl)
  rw [fdiv16 h0]
  refine ⟨Int.natCast_nonneg _, ?_⟩
  rw [← e, rkN_pos hz, Int.toNat_natCast, hc, fmod16 h0, Int.mul_add, Int.mul_assoc, Int.add_assoc]
theorem rk_less {n0 lower n rank worth : Int} (I : RkInv n0 lower n rank worth) (hn : n ≠ 0) : (n.fdiv 16).toNat < n.toNat := by
  have h0 := I.1
  rw [Int.fdiv_eq_ediv_of_nonneg _ (by decide)]; omega
theorem rk_end {n0 lower n rank worth : Int} (I : RkInv n0 lower n rank worth) (hn : n = 0) : rank = rkN lower n0.toNat := by
  obtain ⟨_, e⟩ := I
  subst hn
  rw [← e]
  show rank = rank + worth * rkN lower 0
  rw [rkN_zero, Int.mul_zero, Int.add_zero]

local macro_rules | `(tactic| walk_at "storeName") => `(tactic| (k_here; (try dsimp only); k_dflt (refine' my_store ?F ?N ?_ ?a ?b; (case F => k_asm); (case N => k_asm); (case a => rfl); (case b => rfl); k_whole); intro h' tk' kM F' N'; (try k_sweep)))
local macro_rules | `(tactic| walk_at "KswEnd") => `(tactic| ((with_reducible rename Fr _ _ _ _ => kFf); (try dsimp +zetaDelta only at kFf); (try dsimp +zetaDelta only); ksw_close))

theorem c_rank2 {prog : Program} {w : World} {p : Program} {loose : List Str} {mean : ExcName → Option Value} {mg mb : Str → Option Value} (news : List (Addr × Obj)) (num lower : Int) (t u : Tok) :
   CbClaim prog w (heapK w.params) p loose mean mg mb 135 news [] (0 ≤ num ∧ num < 16 ^ 6) [.int num t, .int lower u] (fun t => .int (rkN lower num.toNat) t) := by
  dsimp only [CbClaim, CbLists, CbRet]; intros; rename_i hret
  refine wpAny_call ?_
  k_dflt cell_enter
  refine let_env ?_
  intro env A
  (k_with "state" => first | exact rk_start (by assumption) | exact rk_turn (by assumption) (by assumption) (by rw [if_pos (by assumption), Int.mul_one]) | exact rk_turn (by assumption) (by assumption) (by rw [if_neg (by assumption), Int.mul_comm]))
  (k_with "measure" => exact rk_less (by assumption) (by assumption))
  (k_with "exec While Name cons nil" => k_while_given ["value!", "lower"] (fun (n0 lower : Int) script (n rank worth : Int) => RkInv n0 lower n rank worth) (fun (n0 lower : Int) script n rank worth => n.toNat) "value" "rank" "worth")
  k_steps
  have e := rk_end kInv (by assumption)
  subst e
  exact hret _ _ _ (by assumption) (cb_drop (by assumption) (by kcj_all))
end Mine
end

section
set_option maxHeartbeats 8000000
namespace Mine
open PySem PySem.Calls PyProof.Rows PyProof.V PySem.Spec
local macro_rules | `(tactic| walk_at "storeName") => `(tactic| (k_here; (try dsimp only); k_dflt (refine' my_store ?F ?N ?_ ?a ?b; (case F => k_asm); (case N => k_asm); (case a => rfl); (case b => rfl); k_whole); intro h' tk' kM F' N'; (try k_sweep)))
local macro_rules | `(tactic| walk_at "KswEnd") => `(tactic| ((with_reducible rename Fr _ _ _ _ => kFf); (try dsimp +zetaDelta only at kFf); (try dsimp +zetaDelta only); ksw_close))
local macro_rules | `(tactic| k_all) => `(tactic| assumption)

def SdInv (ns0 : List Int) (x start p0 pos : Int) (ns : List Int) : Prop := 0 ≤ start ∧ 0 ≤ pos ∧ pos < ns.length ∧ ns.length ≤ 1000 ∧ sdGo x start.toNat pos.toNat ns = sdGo x start.toNat p0.toNat ns0

theorem pp_eq {pos : Int} (h : 0 < pos) : (pos - 1).fdiv (2 ^ Int.toNat 1) = (((pos.toNat - 1) / 2 : Nat) : Int) := by
  rw [Int.fdiv_eq_ediv_of_nonneg _ (by decide)]
  show (pos - 1) / 2 = _
  omega
section
variable {ns0 ns : List Int} {x start p0 pos : Int}
theorem sd_c1 (I : SdInv ns0 x start p0 pos ns) : 0 ≤ pos := I.2.1
theorem sd_c2 (I : SdInv ns0 x start p0 pos ns) : pos < ns.length := I.2.2.1
theorem sd_c3 (I : SdInv ns0 x start p0 pos ns) : pos < 2 ^ 63 := by have := I.2.2.1; have := I.2.2.2.1; omega
theorem sd_pp (I : SdInv ns0 x start p0 pos ns) (h : start < pos) : (pos - 1).fdiv (2 ^ Int.toNat 1) = (((pos.toNat - 1) / 2 : Nat) : Int) ∧ ((pos.toNat - 1) / 2 : Nat) < ns.length := by
  have h1 := I.1; have h2 := I.2.2.1
  exact ⟨pp_eq (by omega), by omega⟩
theorem sd_b1 (I : SdInv ns0 x start p0 pos ns) (h : start < pos) : 0 ≤ (pos - 1).fdiv (2 ^ Int.toNat 1) := (sd_pp I h).1 ▸ Int.natCast_nonneg _
theorem sd_b2 (I : SdInv ns0 x start p0 pos ns) (h : start < pos) : (pos - 1).fdiv (2 ^ Int.toNat 1) < ns.length := (sd_pp I h).1 ▸ Int.ofNat_lt.mpr (sd_pp I h).2
theorem sd_b3 (I : SdInv ns0 x start p0 pos ns) (h : start < pos) : (pos - 1).fdiv (2 ^ Int.toNat 1) < 2 ^ 63 := by
  have := sd_b2 I h; have := I.2.2.2.1; omega
theorem sd_start (h : 0 ≤ start ∧ 0 ≤ pos ∧ pos < ns.length ∧ ns.length ≤ 1000) : SdInv ns x start pos pos ns := ⟨h.1, h.2.1, h.2.2.1, h.2.2.2, rfl⟩
theorem lt_toNat (h0 : 0 ≤ start) (h : start < pos) : start.toNat < pos.toNat := (Int.toNat_lt_toNat (Int.lt_of_le_of_lt h0 h)).mpr h
theorem sd_turn (I : SdInv ns0 x start p0 pos ns) (h : start < pos) (hx : x < ns.getD ((pos - 1).fdiv (2 ^ Int.toNat 1)).toNat 0) :
    SdInv ns0 x start p0 ((pos - 1).fdiv (2 ^ Int.toNat 1)) (ns.set pos.toNat (ns.getD ((pos - 1).fdiv (2 ^ Int.toNat 1)).toNat 0)) := by
  obtain ⟨e, hl⟩ := sd_pp I h
  rw [e] at hx ⊢
  obtain ⟨h1, h2, h3, h4, h5⟩ := I
  rw [Int.toNat_natCast] at hx ⊢
  refine ⟨h1, Int.natCast_nonneg _, by rw [List.length_set]; exact Int.ofNat_lt.mpr hl, by rw [List.length_set]; exact h4, ?_⟩
  rw [Int.toNat_natCast, ← h5, sdGo.eq_1 x start.toNat pos.toNat, dif_pos (lt_toNat h1 h), if_pos hx]
theorem sd_less (I : SdInv ns0 x start p0 pos ns) (h : start < pos) : ((pos - 1).fdiv (2 ^ Int.toNat 1)).toNat < pos.toNat := by
  rw [(sd_pp I h).1, Int.toNat_natCast]
  have := lt_toNat I.1 h
  omega
theorem sd_end1 (I : SdInv ns0 x start p0 pos ns) (h : ¬ start < pos) : ns.set pos.toNat x = sdGo x start.toNat p0.toNat ns0 := by
  rw [← I.2.2.2.2, sdGo, dif_neg (fun q => h ((Int.toNat_lt_toNat (by omega)).mp q))]
theorem sd_end2 (I : SdInv ns0 x start p0 pos ns) (h : start < pos) (hx : ¬ x < ns.getD ((pos - 1).fdiv (2 ^ Int.toNat 1)).toNat 0) : ns.set pos.toNat x = sdGo x start.toNat p0.toNat ns0 := by
  rw [(sd_pp I h).1, Int.toNat_natCast] at hx
  rw [← I.2.2.2.2, sdGo, dif_pos (lt_toNat I.1 h), if_neg hx]
end
local macro_rules | `(tactic| ksa_idx) => `(tactic| first | exact sd_b1 (by assumption) (by assumption) | exact sd_b2 (by assumption) (by assumption) | exact sd_b3 (by assumption) (by assumption) | exact sd_c1 (by assumption) | exact sd_c2 (by assumption) | exact sd_c3 (by assumption))

theorem c_sdown {prog : Program} {w : World} {p : Program} {loose : List Str} {mean : ExcName → Option Value} {mg mb : Str → Option Value} (news : List (Addr × Obj)) (l : Addr) (vs : List Value) (nn : Nat) (ns : List Int) (st pos : Int) (t u : Tok) :
   LClaim prog w (heapK w.params) p loose mean mg mb 90 1 news l vs nn ns (0 ≤ st ∧ 0 ≤ pos ∧ pos < ns.length ∧ ns.length ≤ 1000) [.ref l, .int st t, .int pos u] (sdGo (ns.getD pos.toNat 0) st.toNat pos.toNat ns) (fun v => v = .none) := by
  dsimp only [LClaim]; intros; rename_i hret
  refine wpAny_call ?_
  k_dflt cell_enter
  refine let_env ?_
  intro env A
  k_with_none
  (k_with "state" => first | exact sd_start (by assumption) | exact sd_turn (by assumption) (by assumption) (by assumption))
  (k_with "measure" => exact sd_less (by assumption) (by assumption))
  (k_with "exec While Compare cons nil" => k_while_given ["heap!", "newitem", "startpos", "pos!"] (fun (ns0 : List Int) (x start p0 : Int) script (pos : Int) (ns : List Int) => SdInv ns0 x start p0 pos ns) (fun (ns0 : List Int) (x start p0 : Int) script pos ns => pos.toNat) "pos" "heap")
  k_steps
  · exact hret _ _ _ _ _ rfl (Eq.mp (congrArg _ (sd_end2 (by assumption) (by assumption) (by assumption))) (by assumption)) (by assumption) (by assumption)
  · exact hret _ _ _ _ _ rfl (Eq.mp (congrArg _ (sd_end1 (by assumption) (by assumption))) (by assumption)) (by assumption) (by assumption)
end Mine
end

section
set_option maxHeartbeats 8000000
namespace Mine
open PySem PySem.Calls PyProof.Rows PyProof.V PySem.Spec
local macro_rules | `(tactic| walk_at "storeName") => `(tactic| (k_here; (try dsimp only); k_dflt (refine' my_store ?F ?N ?_ ?a ?b; (case F => k_asm); (case N => k_asm); (case a => rfl); (case b => rfl); k_whole); intro h' tk' kM F' N'; (try k_sweep)))
local macro_rules | `(tactic| walk_at "KswEnd") => `(tactic| ((with_reducible rename Fr _ _ _ _ => kFf); (try dsimp +zetaDelta only at kFf); (try dsimp +zetaDelta only); ksw_close))
local macro_rules | `(tactic| k_all) => `(tactic| assumption)

/-- the child that comes up -/
def suKid (pos : Nat) (ns : List Int) : Nat := if 2 * pos + 2 < ns.length ∧ ¬ ns.getD (2 * pos + 1) 0 < ns.getD (2 * pos + 2) 0 then 2 * pos + 2 else 2 * pos + 1
/-- the hole goes down to a leaf -/
def suGo (x : Int) (pos : Nat) (ns : List Int) : List Int :=
  if h : 2 * pos + 1 < ns.length then suGo x (suKid pos ns) (ns.set pos (ns.getD (suKid pos ns) 0)) else sdGo x 0 pos (ns.set pos x)
termination_by ns.length - pos
decreasing_by
  have : pos < suKid pos ns := by unfold suKid; split <;> omega
  rw [List.length_set]; omega

def SuInv (ns0 : List Int) (x : Int) (en pos child : Int) (ns : List Int) : Prop := 0 ≤ pos ∧ pos < ns.length ∧ child = 2 * pos + 1 ∧ ns.length ≤ 1000 ∧ en = ns.length ∧ suGo x pos.toNat ns = suGo x 0 ns0

section
variable {ns0 ns : List Int} {x en pos child : Int}
theorem su_p1 (I : SuInv ns0 x en pos child ns) : 0 ≤ pos := I.1
theorem su_p2 (I : SuInv ns0 x en pos child ns) : pos < ns.length := I.2.1
theorem su_p3 (I : SuInv ns0 x en pos child ns) : pos < 2 ^ 63 := Int.lt_of_lt_of_le I.2.1 (Int.le_trans (Int.ofNat_le.mpr I.2.2.2.1) (by decide))
theorem su_k1 (I : SuInv ns0 x en pos child ns) : 0 ≤ child := by have := I.1; have := I.2.2.1; omega
theorem su_k2 (I : SuInv ns0 x en pos child ns) (h : child < en) : child < ns.length := I.2.2.2.2.1 ▸ h
theorem su_k3 (I : SuInv ns0 x en pos child ns) (h : child < en) : child < 2 ^ 63 := Int.lt_of_lt_of_le (su_k2 I h) (Int.le_trans (Int.ofNat_le.mpr I.2.2.2.1) (by decide))
theorem su_r1 (I : SuInv ns0 x en pos child ns) : 0 ≤ child + 1 := Int.le_trans (su_k1 I) (Int.le_add_of_nonneg_right (by decide))
theorem su_r2 (I : SuInv ns0 x en pos child ns) (h : child + 1 < en) : child + 1 < ns.length := I.2.2.2.2.1 ▸ h
theorem su_r3 (I : SuInv ns0 x en pos child ns) (h : child + 1 < en) : child + 1 < 2 ^ 63 := Int.lt_of_lt_of_le (su_r2 I h) (Int.le_trans (Int.ofNat_le.mpr I.2.2.2.1) (by decide))
theorem su_start (h : 0 < ns.length ∧ ns.length ≤ 1000) : SuInv ns x ns.length 0 (2 * 0 + 1) ns := ⟨by decide, Int.ofNat_lt.mpr h.1, rfl, h.2, rfl, rfl⟩
theorem su_step (I : SuInv ns0 x en pos child ns) (h : child < en) {k : Int} (hk : k.toNat = suKid pos.toNat ns) (h0 : 0 ≤ k) (h1 : k < ns.length) :
    SuInv ns0 x en k (2 * k + 1) (ns.set pos.toNat (ns.getD k.toNat 0)) := by
  obtain ⟨h2, h3, rfl, h5, h6, h7⟩ := I
  refine ⟨h0, by rw [List.length_set]; exact h1, rfl, by rw [List.length_set]; exact h5, by rw [List.length_set]; exact h6, ?_⟩
  rw [← h7, hk, suGo.eq_1 x pos.toNat, dif_pos (by omega)]
theorem su_kid {pos : Int} (h : 0 ≤ pos) : (2 * pos + 1).toNat = 2 * pos.toNat + 1 ∧ (2 * pos + 1 + 1).toNat = 2 * pos.toNat + 2 := by omega
theorem su_right (I : SuInv ns0 x en pos child ns) (h : child < en) (hr : child + 1 < en) (hx : ¬ ns.getD child.toNat 0 < ns.getD (child + 1).toNat 0) :
    SuInv ns0 x en (child + 1) (2 * (child + 1) + 1) (ns.set pos.toNat (ns.getD (child + 1).toNat 0)) := by
  refine su_step I h ?_ (su_r1 I) (su_r2 I hr)
  obtain ⟨h2, h3, rfl, h5, h6, h7⟩ := I
  rw [(su_kid h2).1, (su_kid h2).2] at hx
  rw [(su_kid h2).2, suKid, if_pos ⟨by omega, hx⟩]
theorem su_left (I : SuInv ns0 x en pos child ns) (h : child < en) (hx : ¬ child + 1 < en ∨ ns.getD child.toNat 0 < ns.getD (child + 1).toNat 0) :
    SuInv ns0 x en child (2 * child + 1) (ns.set pos.toNat (ns.getD child.toNat 0)) := by
  refine su_step I h ?_ (su_k1 I) (su_k2 I h)
  obtain ⟨h2, h3, rfl, h5, h6, h7⟩ := I
  rw [(su_kid h2).1, (su_kid h2).2] at hx
  rw [(su_kid h2).1, suKid, if_neg]
  rintro ⟨q1, q2⟩
  exact hx.elim (fun q => q (by omega)) q2
theorem su_less (I : SuInv ns0 x en pos child ns) (h : child < en) {k : Int} (hk : child ≤ k) : (en - k).toNat < (en - pos).toNat := by
  have := I.1; have := I.2.2.1; omega
theorem su_end (I : SuInv ns0 x en pos child ns) (h : ¬ child < en) : sdGo x 0 pos.toNat (ns.set pos.toNat x) = suGo x 0 ns0 := by
  obtain ⟨h2, h3, rfl, h5, h6, h7⟩ := I
  rw [← h7, suGo.eq_1 x pos.toNat, dif_neg (by omega)]
theorem su_call (I : SuInv ns0 x en pos child ns) : (0 : Int) ≤ 0 ∧ 0 ≤ pos ∧ pos < (ns.set pos.toNat x).length ∧ (ns.set pos.toNat x).length ≤ 1000 := by
  rw [List.length_set]; exact ⟨Int.le_refl _, I.1, I.2.1, I.2.2.2.1⟩
theorem su_last (I : SuInv ns0 x en pos child ns) (h : ¬ child < en) : sdGo ((ns.set pos.toNat x).getD pos.toNat 0) (0 : Int).toNat pos.toNat (ns.set pos.toNat x) = suGo x 0 ns0 := by
  have e : (ns.set pos.toNat x).getD pos.toNat 0 = x := by
    have := I.1; have := I.2.1
    rw [List.getD_eq_getElem?_getD, List.getElem?_set_self (by omega)]; rfl
  rw [e]; exact su_end I h
end
local macro_rules | `(tactic| ksa_idx) => `(tactic| first | exact su_r2 (by assumption) (by assumption) | exact su_r3 (by assumption) (by assumption) | exact su_r1 (by assumption) | exact su_k2 (by assumption) (by assumption) | exact su_k3 (by assumption) (by assumption) | exact su_k1 (by assumption) | exact su_p1 (by assumption) | exact su_p2 (by assumption) | exact su_p3 (by assumption))
local macro_rules | `(tactic| walk_at "call ref") => `(tactic| (k_here; (with_reducible show wpAny _ _ (call (Value.ref 90) _) _ _ _); k_dflt (refine' lc_use ?k1 ?k2 ?k3 ?k4 ?k5 ?k6 ?k7 ?kK (c_sdown _ _ _ _ _ _ _ _ _) ?kp ?kd ?ku ?_; (case k1 => k_asm); (case k2 => k_asm); (case k3 => k_asm); (case k4 => k_asm); (case k5 => k_asm); (case k6 => k_asm); (case k7 => k_asm); (case kK => rfl); (case kp => exact su_call (by assumption)); (case kd => ktr_room); (case ku => ktr_units)); intro v9 vs9 nn9 h9 tk9 r9 i9 F9 N9; (try dsimp only); (try k_fold)))

theorem c_sup {prog : Program} {w : World} {p : Program} {loose : List Str} {mean : ExcName → Option Value} {mg mb : Str → Option Value} (news : List (Addr × Obj)) (l : Addr) (vs : List Value) (nn : Nat) (ns : List Int) (u : Tok) :
   LClaim prog w (heapK w.params) p loose mean mg mb 97 2 news l vs nn ns (0 < ns.length ∧ ns.length ≤ 1000) [.ref l, .int 0 u] (suGo (ns.getD 0 0) 0 ns) (fun v => v = .none) := by
  dsimp only [LClaim]; intros; rename_i hret
  refine wpAny_call ?_
  k_dflt cell_enter
  refine let_env ?_
  intro env A
  k_with_none
  (k_with "state" => first | exact su_start (by assumption) | exact su_right (by assumption) (by assumption) (by assumption) (by assumption) | exact su_left (by assumption) (by assumption) (.inl (by assumption)) | exact su_left (by assumption) (by assumption) (.inr (by assumption)))
  (k_with "measure" => exact su_less (by assumption) (by assumption) (by omega))
  (k_with "exec While Compare cons nil" => k_while_given ["heap!", "newitem", "endpos"] (fun (ns0 : List Int) (x en : Int) script (pos child : Int) (ns : List Int) => SuInv ns0 x en pos child ns) (fun (ns0 : List Int) (x en : Int) script pos child ns => (en - pos).toNat) "pos" "childpos" "heap")
  k_steps
  exact hret _ _ _ _ _ rfl (Eq.mp (congrArg _ (su_last (by assumption) (by assumption))) (by assumption)) (by assumption) (by assumption)
end Mine
end

section
set_option maxHeartbeats 8000000
namespace Mine
open PySem PySem.Calls PyProof.Rows PyProof.V PySem.Spec
local macro_rules | `(tactic| walk_at "storeName") => `(tactic| (k_here; (try dsimp only); k_dflt (refine' my_store ?F ?N ?_ ?a ?b; (case F => k_asm); (case N => k_asm); (case a => rfl); (case b => rfl); k_whole); intro h' tk' kM F' N'; (try k_sweep)))
local macro_rules | `(tactic| k_all) => `(tactic| assumption)
theorem one_call {x : Int} {ns : List Int} (h : 0 < ns.length ∧ ns.length ≤ 999) : 0 < (ns.set (0 : Int).toNat x).length ∧ (ns.set (0 : Int).toNat x).length ≤ 1000 := by
  rw [List.length_set]; exact ⟨h.1, Nat.le_succ_of_le h.2⟩
theorem one_last {x : Int} {ns : List Int} (h : 0 < ns.length ∧ ns.length ≤ 999) : suGo ((ns.set (0 : Int).toNat x).getD 0 0) 0 (ns.set (0 : Int).toNat x) = suGo x 0 (ns.set 0 x) := by
  have e : (ns.set (0 : Int).toNat x).getD 0 0 = x := by
    rw [show (0 : Int).toNat = 0 from rfl, List.getD_eq_getElem?_getD, List.getElem?_set_self h.1]; rfl
  rw [e]; rfl
local macro_rules | `(tactic| walk_at "call ref") => `(tactic| (k_here; (with_reducible show wpAny _ _ (call (Value.ref 97) _) _ _ _); k_dflt (refine' lc_use ?k1 ?k2 ?k3 ?k4 ?k5 ?k6 ?k7 ?kK (c_sup _ _ _ _ _ _) ?kp ?kd ?ku ?_; (case k1 => k_asm); (case k2 => k_asm); (case k3 => k_asm); (case k4 => k_asm); (case k5 => k_asm); (case k6 => k_asm); (case k7 => k_asm); (case kK => rfl); (case kp => exact one_call (by assumption)); (case kd => ktr_room); (case ku => ktr_units)); intro v9 vs9 nn9 h9 tk9 r9 i9 F9 N9; (try dsimp only); (try k_fold)))
theorem c_replace {prog : Program} {w : World} {p : Program} {loose : List Str} {mean : ExcName → Option Value} {mg mb : Str → Option Value} (news : List (Addr × Obj)) (l : Addr) (vs : List Value) (nn : Nat) (ns : List Int) (x : Int) (u : Tok) :
   LClaim prog w (heapK w.params) p loose mean mg mb 83 3 news l vs nn ns (0 < ns.length ∧ ns.length ≤ 999) [.ref l, .int x u] (suGo x 0 (ns.set 0 x)) (fun v => ∃ t, v = .int (ns.getD 0 0) t) := by
  dsimp only [LClaim]; intros; rename_i hret
  refine wpAny_call ?_
  k_dflt cell_enter
  refine let_env ?_
  intro env A
  k_with_none
  k_steps
  exact hret _ _ _ _ _ ⟨_, rfl⟩ (Eq.mp (congrArg _ (one_last (by assumption))) (by assumption)) (by assumption) (by assumption)
theorem push_call {x : Int} {ns : List Int} (h : 0 < ns.length ∧ ns.length ≤ 999) : (0 : Int) ≤ 0 ∧ 0 ≤ ((ns.length + 1 : Nat) : Int) - 1 ∧ ((ns.length + 1 : Nat) : Int) - 1 < (ns ++ [x]).length ∧ (ns ++ [x]).length ≤ 1000 := by
  rw [List.length_append]; simp only [List.length_cons, List.length_nil]; omega
theorem push_last {x : Int} {ns : List Int} : sdGo ((ns ++ [x]).getD (((ns.length + 1 : Nat) : Int) - 1).toNat 0) (0 : Int).toNat (((ns.length + 1 : Nat) : Int) - 1).toNat (ns ++ [x]) = sdGo x 0 ns.length (ns ++ [x]) := by
  have e : (((ns.length + 1 : Nat) : Int) - 1).toNat = ns.length := by omega
  rw [e, show (ns ++ [x]).getD ns.length 0 = x from by simp]; rfl
theorem ints_snoc {x : Int} {u : Tok} : ∀ {vs : List Value} {ns : List Int}, IntsAre vs ns → IntsAre (vs ++ [.int x u]) (ns ++ [x])
  | _, _, .nil => .cons x u .nil
  | _, _, .cons i t h => .cons i t (ints_snoc h)
local macro_rules | `(tactic| walk_at "call ref") => `(tactic| (k_here; (with_reducible show wpAny _ _ (call (Value.ref 90) _) _ _ _); k_dflt (refine' lc_use ?k1 ?k2 ?k3 ?k4 ?k5 ?k6 ?k7 ?kK (c_sdown _ _ _ _ _ _ _ _ _) ?kp ?kd ?ku ?_; (case k1 => k_asm); (case k2 => k_asm); (case k3 => k_asm); (case k4 => k_asm); (case k5 => k_asm); (case k6 => exact ints_snoc (by assumption)); (case k7 => k_asm); (case kK => rfl); (case kp => exact push_call (by assumption)); (case kd => ktr_room); (case ku => ktr_units)); intro v9 vs9 nn9 h9 tk9 r9 i9 F9 N9; (try dsimp only); (try k_fold)))
theorem c_push {prog : Program} {w : World} {p : Program} {loose : List Str} {mean : ExcName → Option Value} {mg mb : Str → Option Value} (news : List (Addr × Obj)) (l : Addr) (vs : List Value) (nn : Nat) (ns : List Int) (x : Int) (u : Tok) :
   LClaim prog w (heapK w.params) p loose mean mg mb 76 3 news l vs nn ns (0 < ns.length ∧ ns.length ≤ 999) [.ref l, .int x u] (sdGo x 0 ns.length (ns ++ [x])) (fun v => v = .none) := by
  dsimp only [LClaim]; intros; rename_i hret
  refine wpAny_call ?_
  k_dflt cell_enter
  refine let_env ?_
  intro env A
  k_with_none
  k_steps
  exact hret _ _ _ _ _ rfl (Eq.mp (congrArg _ push_last) (by assumption)) (by assumption) (by assumption)
end Mine
end

section
set_option maxHeartbeats 8000000
namespace Mine
open PySem PySem.Calls PyProof.Rows PyProof.V PySem.Spec
section
open Builtin Builtin.Str
variable {prog : Program} {w : World} {A : Around} {E : Value → Shared → Prop} {s : Shared}
theorem forIn_one {β : Type} (c : Nat) (i : β) (f : Nat → β → Sem (ForInStep β)) : forIn #[c] i f = (f c i >>= fun r => match r with | .done b => pure b | .yield b => pure b) := by
  rw [← Array.forIn_toList]
  show forIn [c] i f = _
  rw [List.forIn_cons]
  rfl
theorem key_look : isSubtype (.type "KeyError") (.type "LookupError") = pure true := by rw [isSubtype_type]; kernel_rfl
theorem tl_keep {c : Nat} {d : Addr} {f : Int → Option Value} {Q : Mapped → Shared → Prop} (hd : (d == sysModules) = false) (hh : A.handled = none) (hm : s.heap.MapOf (intKind prog w) d f) (hf : f (c : Int) = none)
    (h : ∀ h' tk e, Heap.NewExc s.heap h' e "KeyError" → Q .keep { s with heap := h', toks := tk }) : wpAny (model prog w) A (tableLookup (.ref d) c) Q E s := by
  unfold tableLookup
  refine wpAny_bind (wpAny_attempt (wpAny_bind ?_))
  refine wpAny_mkInt ?_
  refine wpAny_getItem_missing_of (knd := intKind prog w) (k := (c : Int)) (f := f) (beq_self_eq_true _) hd hh hm hf ?_
  intro h' e ne
  show wpAny _ _ (isInstance (.ref e) (.type "LookupError") >>= _) _ _ _
  obtain ⟨ob, t, ho, hc, _⟩ := ne.there
  refine wpAny_bind (wpAny_bind (wpAny_typeOf ⟨ob, ho, hc⟩ ?_))
  refine wpAny_of_eq key_look ?_
  exact wpAny_bind (wpAny_rule (wpAny_pure (h _ _ _ ne)))
theorem tr_call {c : Nat} {t : Tok} (hc : c < 128) {d : Addr} {f : Int → Option Value} {Q : Value → Shared → Prop} (hd : (d == sysModules) = false) (hh : A.handled = none) (hm : s.heap.MapOf (intKind prog w) d f) (hf : f (c : Int) = none)
    (h : ∀ h' tk tk' e, Heap.NewExc s.heap h' e "KeyError" → Q (.str ⟨#[c]⟩ tk) { s with heap := h', toks := tk' }) : wpAny (model prog w) A (call (.builtin "str.translate") [.str ⟨#[c]⟩ t, .ref d]) Q E s := by
  refine wpAny_call_entry F.slot_str_translate (typeIs_str _ _ _) F.entry_str_translate ?_ (F.args_str_translate_2 _ _)
  unfold Builtin.«str.translate»
  refine wpAny_bind (wpAny_of_eq (a := (.str ⟨#[c]⟩ t, (⟨#[c]⟩ : Str), .ref d)) rfl ?_)
  have e : (⟨#[c]⟩ : Str).cps.all (fun x => decide (x < 128)) = true := by simp [hc]
  show wpAny _ _ (if ((⟨#[c]⟩ : Str).length == 0) = true then _ else _) _ _ _
  rw [if_neg (show ¬ ((⟨#[c]⟩ : Str).length == 0) = true from Bool.false_ne_true), e]
  refine wpAny_bind ?_
  rw [show (⟨#[c]⟩ : Str).cps = #[c] from rfl, forIn_one]
  refine wpAny_bind ?_
  show wpAny _ _ (tableLookup (.ref d) c >>= _) _ _ _
  refine wpAny_bind (tl_keep hd hh hm hf fun h' tk e ne => ?_)
  show wpAny _ _ (pure (ForInStep.yield ([(⟨#[c]⟩ : Str)], 1, true, [(c, some c)], false))) _ _ _
  refine wpAny_pure ?_
  show wpAny _ _ (pure ([(⟨#[c]⟩ : Str)], 1, true, [(c, some c)], false)) _ _ _
  refine wpAny_pure ?_
  show wpAny _ _ (mkStr (⟨#[c]⟩ : Str) >>= _) _ _ _
  refine wpAny_bind (wpAny_mkStr ?_)
  exact wpAny_pure ⟨_, rfl, h _ _ _ _ ne⟩

def chkMap (es : Array DictEntry) : Bool := es.toList.all fun e => match e.key with
  | .int i _ => e.hash == hashInt i && !(decide (65 ≤ i) && decide (i ≤ 80))
  | _ => false
theorem chars_K {K : Frag} {h : Heap} (X : K.In h) {es : Array DictEntry} {n : Nat} (hl : K.lookup 45 = some ⟨.type "dict", none, .dict es n, #[]⟩) (hk : chkMap es = true) :
    h.MapOf (intKind prog w) 45 (fun k => findBy Value.isInt es k) ∧ ∀ c : Nat, 65 ≤ c → c ≤ 80 → findBy Value.isInt es (c : Int) = none := by
  have key : ∀ e ∈ es, ∃ i t, e.key = .int i t ∧ e.hash = hashInt i ∧ ¬ (65 ≤ i ∧ i ≤ 80) := by
    intro e he
    have := List.all_eq_true.mp hk e (Array.mem_toList_iff.mpr he)
    split at this
    · rename_i i t q
      simp only [Bool.and_eq_true, beq_iff_eq, Bool.not_eq_true', Bool.and_eq_false_iff, decide_eq_false_iff_not] at this
      exact ⟨i, t, q, this.1, fun z => this.2.elim (fun a => a z.1) fun a => a z.2⟩
    · cases this
  refine ⟨⟨_, es, n, X _ _ hl, ⟨rfl, rfl, rfl⟩, rfl, ?_, fun _ => rfl⟩, ?_⟩
  · intro e he
    obtain ⟨i, t, q1, q2, _⟩ := key e he
    exact ⟨i, by rw [q1]; exact beq_self_eq_true _, q2⟩
  · intro c h1 h2
    unfold findBy
    rw [Array.find?_eq_none.mpr]
    · rfl
    · intro e he q
      obtain ⟨i, t, q1, _, q3⟩ := key e he
      rw [q1] at q
      have : i = (c : Int) := by simpa [Value.isInt] using q
      exact q3 (by omega)
theorem gm_translate {x : Str} {t : Tok} {pl : Sem Bool} {Q : Value × List Value → Shared → Prop} (h : Q (.builtin "str.translate", [.str x t]) s) : wpAny (model prog w) A (getMethod (.str x t) "translate" pl) Q E s := by
  with_reducible exact GM.of (.str x t) (typeIs_str _ _ _) F.slot_str_translate F.type_str_translate GM.noRef h
theorem tr_K {c : Nat} {t : Tok} {K : Frag} {h₀ : Heap} {L : Addr} {m : Str → Option Value} {news : List (Addr × Obj)} {Q : Value → Shared → Prop} (F : Fr h₀ L s.heap m) (N : News h₀ L s.heap news) (X : K.In h₀) {es : Array DictEntry} {n : Nat} (hl : K.lookup 45 = some ⟨.type "dict", none, .dict es n, #[]⟩) (hk : chkMap es = true) (hc : 65 ≤ c ∧ c ≤ 80) (hh : A.handled = none)
    (h : ∀ h' tk tk', Fr h₀ L h' m → News h₀ L h' news → Q (.str ⟨#[c]⟩ tk) { s with heap := h', toks := tk' }) : wpAny (model prog w) A (call (.builtin "str.translate") [.str ⟨#[c]⟩ t, .ref 45]) Q E s := by
  obtain ⟨hm, hf⟩ := chars_K (prog := prog) (w := w) (X.keeps F.keep) hl hk
  exact tr_call (by omega) (by decide) hh hm (hf c hc.1 hc.2) fun h' tk tk' e ne => h h' tk tk' (F.keeps ne.keeps) (fun p hp => ⟨ne.keeps _ _ (N p hp).1, (N p hp).2⟩)
end
local macro_rules | `(tactic| walk_at "getMethod str") => `(tactic| refine gm_translate ?_)
local macro_rules | `(tactic| walk_at "call builtin:str.translate") => `(tactic| (k_here; k_dflt (refine' tr_K ?k1 ?k2 ?k3 ?k4 ?k5 ?k6 ?k7 ?_; (case k1 => k_asm); (case k2 => k_asm); (case k3 => k_asm); (case k4 => k_is); (case k5 => rfl); (case k6 => assumption); (case k7 => rfl)); intro h' tk9 tk' F' N'; (try dsimp only)))
theorem c_escape {prog : Program} {w : World} {p : Program} {loose : List Str} {mean : ExcName → Option Value} {mg mb : Str → Option Value} (news : List (Addr × Obj)) (c : Nat) (t : Tok) :
   CbClaim prog w (heapK w.params) p loose mean mg mb 55 news [] (65 ≤ c ∧ c ≤ 80) [.str ⟨#[c]⟩ t] (fun t => .str ⟨#[c]⟩ t) := by
  dsimp only [CbClaim, CbLists, CbRet]; intros; rename_i hret
  refine wpAny_call ?_
  k_dflt cell_enter
  refine let_env ?_
  intro env A
  k_with_none
  k_steps
  exact hret _ _ _ (by assumption) (by assumption)
end Mine
end

section
set_option maxHeartbeats 800000
namespace Mine
open PySem PySem.Calls PyProof.Rows PyProof.V PySem.Spec Builtin Builtin.ObjectAttr
variable {prog : Program} {w : World} {A : Around} {E : Value → Shared → Prop} {s : Shared}
def boundAppend (l : Addr) : Obj := { cls := .type "builtin_function_or_method", data := .fields #[.builtin "list.append", .ref l] }
theorem md_get : typeLookup (.type "method_descriptor") "__get__" = pure (some (.builtin "method_descriptor.__get__")) := by rw [typeLookup_type, builtinLookup_eq_fast]; kernel_rfl
theorem md_set : typeLookup (.type "method_descriptor") "__set__" = pure none := by rw [typeLookup_type, builtinLookup_eq_fast]; kernel_rfl
theorem md_del : typeLookup (.type "method_descriptor") "__delete__" = pure none := by rw [typeLookup_type, builtinLookup_eq_fast]; kernel_rfl
theorem md_stores : takesStores (.builtin "list.append") = pure false := by
  unfold takesStores specialOf
  rw [F.type_list_append]
  show (typeLookup (.type "method_descriptor") "__set__" >>= fun r => _) = _
  rw [md_set]
  show (typeLookup (.type "method_descriptor") "__delete__" >>= fun r => _) = _
  rw [md_del]
  rfl
theorem md_slot : Slot "method_descriptor" "__get__" "method_descriptor.__get__" :=
  .of (owner := "method_descriptor") (n := "__get__") (by rw [typeLookup_type, builtinLookup_eq_fast]; kernel_rfl) (by decide +kernel) (by decide +kernel) (by decide +kernel)
    (by first | exact .inl (by decide +kernel) | exact .inr (by decide +kernel)) (by rw [isSubtype_type]; kernel_rfl)
theorem md_entry : entryFor table "method_descriptor.__get__" = some Builtin.«method_descriptor.__get__» := entryFor_of_tree (by kernel_rfl)
theorem md_args (a b c : Value) : argsOk "method_descriptor.__get__" ⟨[a, b, c], []⟩ := by unfold argsOk; kernel_rfl
theorem run_mdget {l : Addr} {xs : Array Value} {n : Nat} {P : Fin → Shared → Prop} (hx : s.heap.get? l = some (listOf xs n))
    (h : ∀ tk, P (.done (.ret (.ref s.heap.objs.size))) { s with heap := s.heap.push (boundAppend l), toks := tk }) :
    wpAny (model prog w) A (Builtin.«method_descriptor.__get__» ⟨[.builtin "list.append", .ref l, .type "list"], []⟩) P E s := by
  unfold Builtin.«method_descriptor.__get__»
  refine wpAny_bind (wpAny_of_eq (a := (.builtin "list.append", some (.ref l), some (.type "list"))) (by first | rfl | kernel_rfl) ?_)
  show wpAny _ _ (if Manifest.toldItsClass.contains "list.append" = true then _ else _) _ _ _
  rw [if_neg (show ¬ Manifest.toldItsClass.contains "list.append" = true from by decide +kernel)]
  show wpAny _ _ ((_ >>= fun (r : Str × Value) => isInstance (.ref l) r.2 >>= _) >>= fun _ => newFields "builtin_function_or_method" [.builtin "list.append", .ref l] >>= ret) _ _ _
  refine wpAny_bind (wpAny_bind (wpAny_of_eq (a := ((("append" : Str)), Value.type "list")) (by first | rfl | kernel_rfl) ?_))
  refine wpAny_bind (wpAny_bind (wpAny_typeOf ⟨_, hx, rfl⟩ ?_))
  refine wpAny_of_eq (a := true) (by rw [isSubtype_type]; kernel_rfl) ?_
  show wpAny _ _ (pure ()) _ _ _
  refine wpAny_pure (wpAny_bind ?_)
  refine wpAny_newObj_type (wpAny_pure (h _))
theorem run_append {l : Addr} {xs : Array Value} {n : Nat} {t : Tok} {P : Fin → Shared → Prop} (hx : s.heap.get? l = some (listOf xs n))
    (h : ∀ tk, P (.done (.ret (.ref s.heap.objs.size))) { s with heap := s.heap.push (boundAppend l), toks := tk }) :
    wpAny (model prog w) A (Builtin.«object.__getattribute__» ⟨[.ref l, .str "append" t], []⟩) P E s := by
  obtain ⟨hp, g, d, tk, os⟩ := s
  have hT : ∀ tk', (⟨hp, g, d, tk', os⟩ : Shared).TypeIs (.ref l) "list" := fun _ => ⟨_, hx, rfl⟩
  unfold Builtin.«object.__getattribute__»
  repeat (any_goals (first | assumption | exact hT _ | wp_step))
  refine wpAny_of_eq F.slot_list_append.lookup ?_
  dsimp only
  refine wpAny_bind ?_
  unfold getOf specialOf
  refine wpAny_bind (wpAny_of_eq F.type_list_append ?_)
  refine wpAny_of_eq md_get ?_
  unfold dataDescriptor?
  refine wpAny_bind ?_
  dsimp only
  refine wpAny_bind (wpAny_of_eq md_stores ?_)
  show wpAny _ _ (pure none) _ _ _
  refine wpAny_pure ?_
  show wpAny _ _ (ownThenClass _ _ _ _) _ _ _
  unfold ownThenClass
  repeat (any_goals (first | assumption | exact hT _ | wp_step))
  have h2 := run_mdget (prog := prog) (w := w) (A := A.in1) (E := E) (s := ⟨hp, g, d, tk, os⟩) (P := fun fin s' => ∃ v, fin = .done (.ret v) ∧ wpAny (model prog w) A (ret v) P E s') hx fun tk' => ⟨_, rfl, wpAny_pure (h tk')⟩
  refine codeAny_call_builtin md_slot.plain md_entry (md_slot.check _ _ _ _ _ _ _ _ F.type_list_append (md_args _ _ _) (wpAny_mono h2 (fun fin s' h' => ?_) fun _ _ h' => h'))
  obtain ⟨v, rfl, hv⟩ := h'; exact hv
theorem ga_append {h₀ : Heap} {L : Addr} {m : Str → Option Value} {news : List (Addr × Obj)} {l : Addr} {xs : Array Value} {n : Nat} {Q : Value → Shared → Prop} (FF : Fr h₀ L s.heap m) (N : News h₀ L s.heap news) (hm : (l, listOf xs n) ∈ news)
    (h : ∀ b h' tk, Fr h₀ L h' m → News h₀ L h' ((b, boundAppend l) :: news) → (∀ p ∈ news, p.1 < b) → Q (.ref b) { s with heap := h', toks := tk }) : wpAny (model prog w) A (getAttr (.ref l) "append" true) Q E s := by
  have hx := N.get hm
  have key : ∀ tk, Q (.ref s.heap.objs.size) { s with heap := s.heap.push (boundAppend l), toks := tk } := fun tk => h _ _ tk (FF.push _) (N.push FF _) fun p hp => Heap.lt_size (N p hp).1
  obtain ⟨hp, g, d, tk, os⟩ := s
  have hT : ∀ tk', (⟨hp, g, d, tk', os⟩ : Shared).TypeIs (.ref l) "list" := fun _ => ⟨_, hx, rfl⟩
  have f3 := F.slot_list_getattribute.lookup
  have f4 := F.slot_list_getattribute.bind (.ref l)
  unfold getAttr getAttrBy
  repeat (any_goals (first | assumption | exact hT _ | ((with_reducible show wpAny _ _ (call (Value.builtin "list.__getattribute__") _ _) _ _ _); refine wpAny_call_entry F.slot_list_getattribute (hT _) am_entry_list_getattribute (run_append hx fun tk' => ⟨_, rfl, ?_⟩) (F.args_list_getattribute_2 _ _)) | wp_step))
  exact key _
end Mine
end

section
set_option maxHeartbeats 800000
namespace Mine
open PySem PySem.Calls PyProof.Rows PyProof.V PySem.Spec Builtin Builtin.ObjectAttr
variable {prog : Program} {w : World} {A : Around} {E : Value → Shared → Prop} {s : Shared}
theorem sub_list_mod : isSubtype (.type "list") (.type "module") = pure false := by rw [isSubtype_type]; kernel_rfl
theorem sub_list_type : isSubtype (.type "list") (.type "type") = pure false := by rw [isSubtype_type]; kernel_rfl
theorem sig_append : Manifest.signature? "list.append" = some ⟨.oneArg, "list.append", "append", .self, [⟨"object", .posOnly, true⟩]⟩ := by
  first | decide +kernel | kernel_rfl
theorem chk2_append (l : Addr) (v : Value) : Bind.checkArgs "list.append" ⟨.oneArg, "list.append", "append", .self, [⟨"object", .posOnly, true⟩]⟩ ⟨[.ref l, v], []⟩ = pure () := by kernel_rfl
theorem kind_append : builtinKind "list.append" = some .method := by first | decide +kernel | kernel_rfl
theorem chk_append {l : Addr} {xs : Array Value} {n : Nat} {v : Value} {Q : Unit → Shared → Prop} (hx : s.heap.get? l = some (listOf xs n)) (h : Q () s) : wpAny (model prog w) A (checkBoundCall "list.append" ⟨[.ref l, v], []⟩) Q E s := by
  have hT : s.TypeIs (.ref l) "list" := ⟨_, hx, rfl⟩
  unfold checkBoundCall
  rw [sig_append, kind_append]
  show wpAny _ _ (isInstance (.ref l) (.type "module") >>= _) _ _ _
  refine wpAny_bind (wpAny_bind (wpAny_typeOf hT (wpAny_of_eq sub_list_mod ?_)))
  refine wpAny_bind (wpAny_bind ?_)
  refine wpAny_loadPart hx ?_
  refine wpAny_pure ?_
  show wpAny _ _ (typeOf (.ref l) >>= _) _ _ _
  refine wpAny_bind (wpAny_typeOf hT ?_)
  exact wpAny_of_eq (by kernel_rfl) h

theorem callWith_fields {pos : Pos} {u l : Addr} {first : List Value} {args : List (Bool × Sem Value)} {Q : Value → Shared → Prop} (hplain : args.any (·.1) = false)
    (h : wpAny (model prog w) A (evalArgs (.ref u) true args []) (fun x s₁ => s₁.heap.get? u = some (boundAppend l) ∧ wpAny (model prog w) A (call (.ref u) (first ++ x.pos) x.kw) Q E s₁) E s) : wpAny (model prog w) A (callWith pos (.ref u) first args []) Q E s := by
  unfold callWith
  refine wpAny_bind (wpAny_holding (wpAny_mono h (fun x s₁ h₁ => wpAny_bind (wpAny_standAt ?_)) fun _ _ x => x))
  obtain ⟨ho, hcall⟩ := h₁
  simp only [hplain, List.any_nil, Bool.or_false]
  refine wpAny_bind (m := keeperOf (.ref u)) ?_
  unfold keeperOf
  refine wpAny_bind (wpAny_load ho ?_)
  simp only [boundAppend, show (Value.type "builtin_function_or_method" != Value.type "method") = true by decide, show (Value.type "builtin_function_or_method" == Value.type "builtin_function_or_method" || Value.type "builtin_function_or_method" == Value.type "method-wrapper") = true by decide, if_true]
  refine wpAny_pure ?_
  exact wpAny_bind (wpAny_mono hcall (fun r s₂ hr => wpAny_bind (wpAny_holding (wpAny_point (wpAny_pure hr)))) fun _ _ x => x)
theorem callWith_app {h₀ : Heap} {L : Addr} {news : List (Addr × Obj)} {pos : Pos} {u l : Addr} {first : List Value} {env : Env} {e : Expr} {rest : List Expr} {Q : Value → Shared → Prop} (_N : News h₀ L s.heap news) (_hm : (u, boundAppend l) ∈ news)
    (h : wpAny (model prog w) A (spliced (backTo pos (starEach (e :: rest) env))) (fun vs s₁ => s₁.heap.get? u = some (boundAppend l) ∧ wpAny (model prog w) A (call (.ref u) (first ++ vs)) Q E s₁) E s)
    (he : starEach (e :: rest) env = (false, eval e env) :: starEach rest env := by rfl) (hplain : (backTo pos (starEach rest env)).any (·.1) = false := by rfl) :
    wpAny (model prog w) A (callWith pos (.ref u) first (backTo pos (starEach (e :: rest) env)) []) Q E s := by
  rw [he] at h ⊢
  refine callWith_fields (l := l) (by show (false || (backTo pos (starEach rest env)).any (·.1)) = false; rw [hplain]; rfl) ?_
  exact evalArgs_plain h
theorem call_app {h₀ : Heap} {L : Addr} {m : Str → Option Value} {news news' : List (Addr × Obj)} {u l : Addr} {its : Array Value} {n : Nat} {x : Value} {Q : Value → Shared → Prop} (FF : Fr h₀ L s.heap m) (N : News h₀ L s.heap news) (hu : (u, boundAppend l) ∈ news) (hm : (l, listOf its n) ∈ news) (U : Upd l (listOf its n) (listOf (its.push x) (n + 1)) news news')
    (hsz : its.size ≤ sizeLine) (h : ∀ h', Fr h₀ L h' m → News h₀ L h' news' → Q .none { s with heap := h' }) : wpAny (model prog w) A (call (.ref u) [x]) Q E s := by
  have ho := N.get hu
  have hx := N.get hm
  refine wpAny_call (codeAny_of_tree ?_)
  show wpAny _ A.in1 (callAny (.ref u) ⟨[x], []⟩) _ _ s
  simp only [callAny]
  refine wpAny_bind (wpAny_load ho ?_)
  simp only [boundAppend, show (Value.type "builtin_function_or_method" == Value.type "method" || Value.type "builtin_function_or_method" == Value.type "builtin_function_or_method" || Value.type "builtin_function_or_method" == Value.type "method-wrapper") = true by decide, if_true]
  refine KFB.if_so (by decide) ?_
  refine wpAny_bind (chk_append hx ?_)
  refine wpAny_bind (wpAny_pure (wpAny_pure ?_))
  refine ⟨Code.quiet_builtin _ (by decide +kernel), codeAny_builtin PySem.F.entry_list_append ?_⟩
  show wpAny _ _ (updateSeq l (·.push x) >>= fun _ => ret .none) _ _ s
  obtain ⟨pre, post, rfl, rfl, a, b⟩ := U.split
  refine wpAny_bind ?_
  refine wpAny_updateSeq hx rfl (wpAny_pure ?_) 
  have hs : Heap.SameBut l s.heap (s.heap.update l (Obj.mapSeq (·.push x))) := Heap.SameBut.update ..
  have hn : (s.heap.update l (Obj.mapSeq (·.push x))).get? l = some (listOf (its.push x) (n + 1)) := by
    rw [Heap.get?_update_self _ hx (by rw [mapSeq_push]; rfl), mapSeq_push]
  have z := N (l, listOf its n) (List.mem_append.mpr (.inr (.head _)))
  exact h _ (FF.change hs z.2.1 z.2.2) (news_set N a b hs hn)
end Mine
end

section
set_option maxHeartbeats 8000000
namespace Mine
open PySem PySem.Calls PyProof.Rows PyProof.V PySem.Spec

/-- a translated pattern's parts: none is the star -/
def tkStep (acc : List (Option Nat)) (c : Nat) : List (Option Nat) := if c = 42 then (if acc.getLast? = some none then acc else acc ++ [none]) else acc ++ [some c]
def toks (cs : List Nat) : List (Option Nat) := cs.foldl tkStep []
inductive TV (star : Addr) : List Value → List (Option Nat) → Prop
  | nil : TV star [] []
  | star {vs ts} : TV star vs ts → TV star (vs ++ [.ref star]) (ts ++ [none])
  | chr {vs ts} (c : Nat) (t : Tok) : TV star vs ts → TV star (vs ++ [.str ⟨#[c]⟩ t]) (ts ++ [some c])
structure TrInv (star : Addr) (pat : Str) (i : Nat) (vs : List Value) : Prop where
  le : i ≤ pat.cps.size
  vals : TV star vs (toks (pat.cps.toList.take i))
  len : vs.length ≤ i

section
variable {prog : Program} {w : World} {A : Around} {E : Value → Shared → Prop} {s : Shared} {env : Env} {h₀ : Heap} {L : Addr}
/-- a while over an int i, a list of values grown at l by its bound append b -/
theorem wl {test : Expr} {body : List Stmt} {pos : Pos} {m₀ : Str → Option Value} {Q : Flow → Shared → Prop} {news : List (Addr × Obj)} (b l : Addr) (n₀ t₀ : Nat) (I : Nat → List Value → Prop) (N : Nat) (hI : ∀ i vs, I i vs → i ≤ N) (stored : List Str)
    (FF : Fr h₀ L s.heap m₀) (NN : News h₀ L s.heap ((b, boundAppend l) :: (l, listOf #[] n₀) :: news)) (hi : m₀ "i" = some (.int 0 t₀)) (h0 : I 0 [])
    (turn : ∀ (i t : Nat) (vs : List Value) (n : Nat) (u : Str → Option Value) h tk, I i vs → Fr h₀ L h (fun z => if z = "i" then some (.int i t) else if stored.contains z then u z else m₀ z) → News h₀ L h ((b, boundAppend l) :: (l, listOf vs.toArray n) :: news) →
      wpAny (model prog w) A (isTrue test env (eval test env)) (fun bb s₂ => if bb = true then wpAny (model prog w) A (execs body env)
        (KswPost h₀ L s (fun (c : Nat × Nat × List Value × Nat) => (b, boundAppend l) :: (l, listOf c.2.2.1.toArray c.2.2.2) :: news) (fun c => [("i", .int c.1 c.2.1)]) (fun _ => True) stored m₀ (fun c => I c.1 c.2.2.1) (fun c => N - c.1) Q (i, t, vs, n)) E s₂ else Q .next s₂) E { s with heap := h, toks := tk })
    (hE : PassesOwn (model prog w) A env E := by passes_own) :
    wpAny (model prog w) A (exec (.While test body [] pos) env) Q E s := by
  refine ksw_while (σ := Nat × Nat × List Value × Nat) (fun c => (b, boundAppend l) :: (l, listOf c.2.2.1.toArray c.2.2.2) :: news) (fun c => [("i", .int c.1 c.2.1)]) (fun _ => True) stored (fun c => I c.1 c.2.2.1) (fun c => N - c.1) (0, t₀, [], n₀) FF NN trivial ?_ h0 ?_ hE
  · intro p hp
    rw [List.mem_singleton.mp hp]; exact hi
  · intro c u h tk _ hP F' N'
    exact turn c.1 c.2.1 c.2.2.1 c.2.2.2 u h tk hP F' N'
end
theorem tr_size {star : Addr} {pat : Str} {i : Nat} {vs : List Value} (I : TrInv star pat i vs) (h : pat.cps.size ≤ 1000) : vs.length ≤ 1000 := Nat.le_trans I.len (Nat.le_trans I.le h)
theorem tr_le {star : Addr} {pat : Str} {i : Nat} {vs : List Value} (I : TrInv star pat i vs) : (i : Int) ≤ (pat.length : Int) := Int.ofNat_le.mpr I.le
section
variable {prog : Program} {w : World} {A : Around} {E : Value → Shared → Prop} {s : Shared}
theorem item_nat {x : Str} {i : Nat} (h : i < x.cps.size) : Txt.item x (i : Int) = ⟨#[x.cps[i]]⟩ := by
  unfold Txt.item Txt.charAt seqIndex?
  have h1 : ¬ ((i : Int) < 0) := by omega
  have h2 : (i : Int) < (x.length : Int) := Int.ofNat_lt.mpr h
  have h3 : (0 : Int) ≤ (i : Int) := Int.natCast_nonneg i
  simp [h1, h2, h]
theorem sub_chr {value slice : PySem.Expr} {x : Str} {t u : Tok} {i : Nat} {Q : Value → Shared → Prop} (hs : x.cps.size ≤ 1000) (hcs : ∀ c ∈ x.cps.toList, c = 42 ∨ 65 ≤ c ∧ c ≤ 80) (hi : (i : Int) < (x.length : Int))
    (h1 : ∀ t k, x.cps.toList[i]? = some 42 → Q (.str ⟨#[42]⟩ t) { s with toks := k }) (h2 : ∀ c t k, x.cps.toList[i]? = some c → 65 ≤ c ∧ c ≤ 80 → Q (.str ⟨#[c]⟩ t) { s with toks := k })
    (hss : subscripted slice false (.str x t) (.int i u) = operate [.str x t, .int i u] (getItem (.str x t) (.int i u)) := by with_unfolding_all rfl)
    (ht : ∀ r, letTemporaryGo value (.str x t) r = pure () := by intro _; with_unfolding_all rfl) :
    wpAny (model prog w) A (subscriptTail value slice (.str x t) (.int i u)) Q E s := by
  have hi' : i < x.cps.size := Int.ofNat_lt.mp hi
  have hx : x.length ≤ 1000 := hs
  refine item_str (fitsSsize_of (N := 9223372036854775808) (by omega) (by omega) (Int.le_refl _)) (by omega) hi (fun _ => ?_) hss ht
  rw [item_nat hi']
  have e : x.cps.toList[i]? = some x.cps[i] := by simp [hi']
  rcases hcs x.cps[i] (by simp) with q | q
  · rw [q] at e ⊢; exact h1 _ _ e
  · exact h2 _ _ _ e q
def chkLit (x : Str) : Bool := match x.cps.toList with
  | [d] => d < 65 || 80 < d
  | _ => true
theorem eq_chr_no {c : Nat} {x : Str} {t u : Tok} {Q : Value → Shared → Prop} (hc : 65 ≤ c ∧ c ≤ 80) (hx : chkLit x = true) (h : Q (.bool false) s) : wpAny (model prog w) A (compareOp .Eq (.str ⟨#[c]⟩ t) (.str x u)) Q E s := by
  refine PyProof.Rows.eq_str ?_
  have : ((⟨#[c]⟩ : Str) == x) = false := by
    refine beq_eq_false_iff_ne.mpr fun q => ?_
    subst q
    simp [chkLit] at hx
    omega
  rw [this]; exact h
theorem eq_lit {x y : Str} {t u : Tok} {Q : Value → Shared → Prop} (b : Bool) (hb : (x == y) = b) (h : Q (.bool b) s) : wpAny (model prog w) A (compareOp .Eq (.str x t) (.str y u)) Q E s := by
  refine PyProof.Rows.eq_str ?_
  rw [hb]; exact h
theorem truthy_case {l : Addr} {vs : List Value} {n : Nat} {Q : Bool → Shared → Prop} {h₀ : Heap} {L : Addr} {news : List (Addr × Obj)} (N : News h₀ L s.heap news) (hm : (l, listOf vs.toArray n) ∈ news) (hs : vs.length ≤ 1000)
    (h1 : vs = [] → ∀ k, Q false { s with toks := k }) (h2 : vs ≠ [] → ∀ k, Q true { s with toks := k }) : wpAny (model prog w) A (truthy (.ref l)) Q E s := by
  refine wpAny_truthy_list (items := vs.toArray) ⟨_, N.get hm, rfl, n, rfl⟩ (by rw [List.size_toArray]; omega) ?_
  cases vs with
  | nil => exact h1 rfl _
  | cons v r => exact h2 (fun e => nomatch e) _
theorem eq_int_yes {a b : Int} {t u : Tok} {Q : Value → Shared → Prop} (e : a = b) (h : Q (.bool true) s) : wpAny (model prog w) A (compareOp .Eq (.int a t) (.int b u)) Q E s := by
  refine PyProof.Rows.eq_int ?_
  subst e
  simpa using h
theorem tv_len {star : Addr} {vs : List Value} {ts : List (Option Nat)} (h : TV star vs ts) : vs.length = ts.length := by
  induction h with
  | nil => rfl
  | star _ ih => simp [ih]
  | chr _ _ _ ih => simp [ih]
theorem neg_ok (vs : List Value) (x : Value) : -(((vs ++ [x]).toArray.size : Nat) : Int) ≤ -1 := by simp; omega
theorem neg_at (vs : List Value) (x : Value) : (vs ++ [x]).toArray[(-1 + ((vs ++ [x]).toArray.size : Int)).toNat]? = some x := by
  have : (-1 + ((vs ++ [x]).toArray.size : Int)).toNat = vs.length := by simp; omega
  rw [this]; simp
theorem sub_last {value slice : PySem.Expr} {star l : Addr} {vs : List Value} {ts : List (Option Nat)} {n : Nat} {u : Tok} {Q : Value → Shared → Prop} {h₀ : Heap} {L : Addr} {news : List (Addr × Obj)} (N : News h₀ L s.heap news) (hm : (l, listOf vs.toArray n) ∈ news) (hs : vs.length ≤ 1000) (T : TV star vs ts) (hne : vs ≠ [])
    (h1 : ts.getLast? = some none → Q (.ref star) s) (h2 : ∀ c t, ts.getLast? ≠ some none → Q (.str ⟨#[c]⟩ t) s)
    (hss : subscripted slice false (.ref l) (.int (-1) u) = operate [.ref l, .int (-1) u] (getItem (.ref l) (.int (-1) u)) := by with_unfolding_all rfl) :
    wpAny (model prog w) A (subscriptTail value slice (.ref l) (.int (-1) u)) Q E s := by
  have hl : s.heap.IsList l vs.toArray := ⟨_, N.get hm, rfl, n, rfl⟩
  cases T with
  | nil => exact absurd rfl hne
  | star T =>
    refine tail_any hl.typeIs slot_list_getitem.lookup (wpAny_getItem_list_neg hl (by decide) (neg_ok _ _) (by decide) (x := .ref star) (neg_at _ _) (h1 (by simp))) hss
  | chr c t T =>
    refine tail_any hl.typeIs slot_list_getitem.lookup (wpAny_getItem_list_neg hl (by decide) (neg_ok _ _) (by decide) (x := .str ⟨#[c]⟩ t) (neg_at _ _) (h2 c t (by simp))) hss
theorem isnot_same {a : Addr} {Q : Value → Shared → Prop} (h : Q (.bool false) s) : wpAny (model prog w) A (compareOp .IsNot (.ref a) (.ref a)) Q E s :=
  wpAny_bind (wpAny_isSame_ref_self (wpAny_pure h))
end
theorem toks_succ {l : List Nat} {i c : Nat} (h : l[i]? = some c) : toks (l.take (i + 1)) = tkStep (toks (l.take i)) c := by
  rw [List.take_add_one, h, toks, List.foldl_append]; rfl
section
variable {star : Addr} {pat : Str} {i : Nat} {vs : List Value}
theorem tr_lt {c : Nat} (h : pat.cps.toList[i]? = some c) : i + 1 ≤ pat.cps.size := by
  have := (List.getElem?_eq_some_iff.mp h).1
  rwa [Array.length_toList] at this
theorem tr_app (I : TrInv star pat i vs) (h : pat.cps.toList[i]? = some 42) (hl : (toks (pat.cps.toList.take i)).getLast? ≠ some none) : TrInv star pat (i + 1) (vs ++ [.ref star]) :=
  ⟨tr_lt h, by rw [toks_succ h, tkStep, if_pos rfl, if_neg hl]; exact .star I.vals, by rw [List.length_append]; exact Nat.succ_le_succ I.len⟩
theorem tr_end (I : TrInv star pat i vs) (h : ¬ (i : Int) < (pat.length : Int)) : TV star vs (toks pat.cps.toList) := by
  have := I.vals
  rwa [List.take_of_length_le (by rw [Array.length_toList]; exact Nat.le_of_not_lt fun q => h (Int.ofNat_lt.mpr q))] at this
theorem one_ord {l : Addr} {o : Obj} {news : List (Addr × Obj)} (h : ∀ p ∈ news, p.1 < l) : ∀ q ∈ [(l, o)], ∀ p ∈ news, p.1 < q.1 := fun q hq p hp => by
  rw [List.mem_singleton.mp hq]; exact h p hp
theorem tr_nil (I : TrInv star pat i vs) (e : vs = []) : (toks (pat.cps.toList.take i)).getLast? ≠ some none := by
  have := tv_len I.vals
  rw [e] at this
  rw [List.length_eq_zero_iff.mp this.symm]; simp
theorem tr_same (I : TrInv star pat i vs) (h : pat.cps.toList[i]? = some 42) (hl : (toks (pat.cps.toList.take i)).getLast? = some none) : TrInv star pat (i + 1) vs :=
  ⟨tr_lt h, by rw [toks_succ h, tkStep, if_pos rfl, if_pos hl]; exact I.vals, Nat.le_succ_of_le I.len⟩
theorem tr_chr {c : Nat} {t : Tok} (I : TrInv star pat i vs) (h : pat.cps.toList[i]? = some c) (hc : 65 ≤ c ∧ c ≤ 80) : TrInv star pat (i + 1) (vs ++ [.str ⟨#[c]⟩ t]) :=
  ⟨tr_lt h, by rw [toks_succ h, tkStep, if_neg (by omega)]; exact .chr c t I.vals, by rw [List.length_append]; exact Nat.succ_le_succ I.len⟩
end
section
variable {s : Shared} {h₀ : Heap} {L : Addr} {m₀ u : Str → Option Value} {news : List (Addr × Obj)} {b l : Addr} {I : Nat → List Value → Prop} {NN : Nat} {stored : List Str} {h' : Heap} {tk i ti n n' : Nat} {vs vs' : List Value} {v vi x : Value} {t' : Tok}
theorem wl_end (FF : Fr h₀ L h' (fun y => if y = "i" then some (.int ((i : Int) + 1) t') else if y = "c" then some v else if y = "i" then some vi else if stored.contains y then u y else m₀ y))
    (N : News h₀ L h' ((b, boundAppend l) :: (l, listOf vs'.toArray n') :: news)) (hI : I (i + 1) vs') (hN : i + 1 ≤ NN) (hc : stored.contains "c" = true := by rfl) :
    KswEnd h₀ L s (fun (c : Nat × Nat × List Value × Nat) => (b, boundAppend l) :: (l, listOf c.2.2.1.toArray c.2.2.2) :: news) (fun c => [("i", .int c.1 c.2.1)]) (fun _ => True) stored m₀ (fun c => I c.1 c.2.2.1) (fun c => NN - c.1) (i, ti, vs, n) { s with heap := h', toks := tk } := by
  refine ksw_end (i + 1, t', vs', n') FF N (fun _ h => h) trivial ?_ ?_ hI (by show NN - (i + 1) < NN - i; omega)
  · intro p hp
    rw [List.mem_singleton.mp hp]; rfl
  · intro z h2 h3
    have h4 : z ≠ ("i" : Str) := h2 _ (.head _)
    have h5 : z ≠ ("c" : Str) := fun e => by rw [e, hc] at h3; cases h3
    simp only [if_neg h4, if_neg h5, h3, Bool.false_eq_true, if_false]
theorem wl_push (FF : Fr h₀ L h' (fun y => if y = "i" then some (.int ((i : Int) + 1) t') else if y = "c" then some v else if y = "i" then some vi else if stored.contains y then u y else m₀ y))
    (N : News h₀ L h' ((b, boundAppend l) :: (l, listOf (vs.toArray.push x) n') :: news)) (hI : I (i + 1) (vs ++ [x])) (hN : i + 1 ≤ NN) (hc : stored.contains "c" = true := by rfl) :
    KswEnd h₀ L s (fun (c : Nat × Nat × List Value × Nat) => (b, boundAppend l) :: (l, listOf c.2.2.1.toArray c.2.2.2) :: news) (fun c => [("i", .int c.1 c.2.1)]) (fun _ => True) stored m₀ (fun c => I c.1 c.2.2.1) (fun c => NN - c.1) (i, ti, vs, n) { s with heap := h', toks := tk } :=
  wl_end FF (by rw [List.push_toArray] at N; exact N) hI hN hc
end
theorem tr_fit {star : Addr} {pat : Str} {i : Nat} {vs : List Value} (I : TrInv star pat i vs) (h : pat.cps.size ≤ 1000) : vs.toArray.size ≤ sizeLine := by
  rw [List.size_toArray, sizeLine_eq]; exact Nat.le_trans (tr_size I h) (by decide)
theorem news_tail {h₀ h : Heap} {L : Addr} {q : Addr × Obj} {r : List (Addr × Obj)} (N : News h₀ L h (q :: r)) : News h₀ L h r := fun p hp => N p (.tail _ hp)
local macro_rules | `(tactic| walk_at "storeName") => `(tactic| (k_here; (try dsimp only); k_dflt (refine' my_store ?F ?N ?_ ?a ?b; (case F => k_asm); (case N => k_asm); (case a => rfl); (case b => rfl); k_whole); intro h' tk' kM F' N'; (try k_sweep)))
local macro_rules | `(tactic| walk_at "getAttr ref") => `(tactic| (k_here; (with_reducible show wpAny _ _ (getAttr (Value.ref _) (PySem.Str.ofString "append") _) _ _ _); k_dflt (refine' ga_append ?F ?N ?m ?_; (case F => k_asm); (case N => k_asm); (case m => k_mem); k_whole); intro b' h' tk' F' N' l1; (try k_lt l1); (try k_sweep)))
local macro_rules | `(tactic| walk_at "callWith ref") => `(tactic| (k_here; k_dflt (refine' callWith_app ?N ?M ?_; (case N => k_asm); (case M => k_mem); k_whole)))
local macro_rules | `(tactic| walk_at "And") => `(tactic| ((with_reducible show Heap.get? _ _ = some (boundAppend _) ∧ _); k_dflt (refine ⟨News.get (by k_asm) (by k_mem), ?_⟩); (try dsimp only [List.nil_append, List.cons_append])))
local macro_rules | `(tactic| walk_at "call ref") => `(tactic| (k_here; (with_reducible show wpAny _ _ (call (Value.ref _) [_]) _ _ _); k_dflt (refine' call_app ?F ?N ?u ?m ?U ?z ?_; (case F => k_asm); (case N => k_asm); (case u => k_mem); (case m => k_mem); (case U => k_upd); (case z => exact tr_fit (by assumption) (by assumption)); k_whole); intro h' F' N'; (try k_sweep)))
local macro_rules | `(tactic| k_all) => `(tactic| assumption)
theorem short_fit {x : Str} (h : x.cps.size ≤ 1000) : ¬ (x.length : Int) ≥ 2 ^ 63 := by
  have : x.length ≤ 1000 := h
  omega
local macro_rules | `(tactic| walk_at "call builtin:len") => `(tactic| ((with_reducible show wpAny _ _ (call (Value.builtin "len") [Value.str _ _]) _ _ _); refine len_str (short_fit (by assumption)) ?_))
local macro_rules | `(tactic| walk_at "subscriptTail Name Name str int") => `(tactic| (refine sub_chr (by assumption) (by assumption) (by assumption) ?_ ?_))
local macro_rules | `(tactic| walk_at "compareOp Eq str str") => `(tactic| first | (with_reducible refine eq_chr_no (by assumption) ?hx ?_; (case hx => with_unfolding_all rfl)) | (refine eq_lit true ?hx ?_; (case hx => k_dflt (decide +kernel))) | (refine eq_lit false ?hx ?_; (case hx => k_dflt (decide +kernel))))
local macro_rules | `(tactic| walk_at "compareOp Eq int int") => `(tactic| (refine eq_int_yes ?hx ?_; (case hx => k_dflt omega)))
local macro_rules | `(tactic| walk_at "call ref") => `(tactic| (k_here; (with_reducible show wpAny _ _ (call (Value.ref 55) _) _ _ _); k_dflt (refine' cb_use ?k1 ?k2 ?k3 ?k4 ?k5 ?kK (c_escape _ _ _) ?kp ?kd ?ku ?_; (case k1 => k_asm); (case k2 => k_asm); (case k3 => k_asm); (case k4 => k_asm); (case k5 => k_asm); (case kK => rfl); (case kp => assumption); (case kd => ktr_room); (case ku => ktr_units)); intro t9 h9 tk9 F9 N9; (try dsimp only); (try k_fold)))
local macro_rules | `(tactic| walk_at "truthy ref") => `(tactic| (k_here; k_dflt (refine' truthy_case ?N ?m ?z ?_ ?_; (case N => k_asm); (case m => k_mem); (case z => exact tr_size (by assumption) (by assumption)))))
local macro_rules | `(tactic| walk_at "subscriptTail Name UnaryOp ref int") => `(tactic| (k_here; k_dflt (refine' sub_last ?N ?m ?z (TrInv.vals ?I) ?e ?_ ?_ ?k; (case I => assumption); (case N => k_asm); (case m => k_mem); (case z => exact tr_size (by assumption) (by assumption)); (case e => assumption); (case k => with_unfolding_all rfl))))
local macro_rules | `(tactic| walk_at "compareOp IsNot ref ref") => `(tactic| refine isnot_same ?_)
local macro_rules | `(tactic| walk_at "compareOp IsNot str ref") => `(tactic| (refine wpAny_isNot_other ?a ?b ?_; (case a => with_unfolding_all rfl); (case b => intro x; cases x)))
theorem c_trans0 {prog : Program} {w : World} {p : Program} {loose : List Str} {mean : ExcName → Option Value} {mg mb : Str → Option Value} (news : List (Addr × Obj)) (pat : Str) (star : Addr) (t u : Tok) :
   NClaim prog w (heapK w.params) p loose mean mg mb 62 2 news (pat.cps.size ≤ 1000 ∧ ∀ c ∈ pat.cps.toList, c = 42 ∨ 65 ≤ c ∧ c ≤ 80) [.str pat t, .ref star, .str (Str.ofString ".") u] (fun v tl => ∃ l vs n, v = .ref l ∧ tl = [(l, listOf vs.toArray n)] ∧ TV star vs (toks pat.cps.toList)) := by
  dsimp only [NClaim]; intros; rename_i hret
  have hsz : pat.cps.size ≤ 1000 := And.left (by assumption)
  have hcs : ∀ c ∈ pat.cps.toList, c = 42 ∨ 65 ≤ c ∧ c ≤ 80 := And.right (by assumption)
  refine wpAny_call ?_
  k_dflt cell_enter
  refine let_env ?_
  intro env A
  k_with_none
  (k_with "exec While Compare cons nil" => (k_dflt (refine' wl _ _ _ _ (TrInv star pat) pat.cps.size (fun _ _ h => h.le) [Str.ofString "c", Str.ofString "j", Str.ofString "stuff", Str.ofString "chunks", Str.ofString "k", Str.ofString "chunk"] ?F ?N ?i ?h0 ?_; (case F => k_asm); (case N => first | k_asm | exact news_tail (by k_asm)); (case i => rfl); (case h0 => exact ⟨Nat.zero_le _, TV.nil, Nat.le_refl _⟩)); intro i ti vs n u h tk I F' N'; have hle := tr_le I; (try k_fold)))
  k_steps
  · exact wl_push (by assumption) (by assumption) (tr_app I (by assumption) (tr_nil I (by assumption))) (tr_lt (by assumption))
  · exact wl_end (by assumption) (by assumption) (tr_same I (by assumption) (by assumption)) (tr_lt (by assumption))
  · exact wl_push (by assumption) (by assumption) (tr_app I (by assumption) (by assumption)) (tr_lt (by assumption))
  · exact wl_push (by assumption) (by assumption) (tr_chr I (by assumption) (by assumption)) (tr_lt (by assumption))
  · exact hret _ _ _ _ ⟨_, vs, _, rfl, rfl, tr_end I (by assumption)⟩ (by assumption) (news_tail (by assumption)) (one_ord (by assumption))
end Mine
end

section
set_option maxHeartbeats 600000
namespace Mine
open PySem PySem.Calls PyProof.Rows PyProof.V PySem.Spec
/-- a translated list: one sign a, then a star and a sign for each of cs -/
structure Alt (star : Addr) (vs : List Value) (a : Nat) (cs : List Nat) : Prop where
  len : vs.length = 2 * cs.length + 1
  head : ∃ t, vs[0]? = some (.str ⟨#[a]⟩ t)
  star : ∀ j, j < cs.length → vs[2 * j + 1]? = some (.ref star)
  chr : ∀ j c, cs[j]? = some c → ∃ t, vs[2 * j + 2]? = some (.str ⟨#[c]⟩ t)
  short : cs.length ≤ 400
/-- the text that stands for a star and a sign for each -/
def Rtx : List Nat → List Nat
  | [] => []
  | [c] => [46, 42, c]
  | c :: d :: r => [40, 63, 62, 46, 42, 63, c, 41] ++ Rtx (d :: r)
def JText (a : Nat) (cs : List Nat) : List Nat := [40, 63, 115, 58] ++ (a :: Rtx cs) ++ [41, 92, 90]
def catL (xs : List Str) : List Nat := xs.flatMap (·.cps.toList)
theorem catL_snoc (xs : List Str) (x : Str) : catL (xs ++ [x]) = catL xs ++ x.cps.toList := by simp [catL]
theorem strs_snoc {vs : List Value} {xs : List Str} (h : StrsAre vs xs) (y : Str) (t : Tok) : StrsAre (vs ++ [.str y t]) (xs ++ [y]) := by
  induction h with
  | nil => exact .cons y t .nil
  | cons z u _ ih => exact .cons z u ih
theorem strs_len {vs : List Value} {xs : List Str} (h : StrsAre vs xs) : vs.length = xs.length := by
  induction h with
  | nil => rfl
  | cons z u _ ih => simp [ih]
@[irreducible] def posI (j : Nat) : Int := 2 * (j : Int) + 1
theorem posI_eq (j : Nat) : posI j = 2 * (j : Int) + 1 := by unfold posI; rfl
theorem posI_0 : posI 0 = 0 + 1 := by rw [posI_eq]; rfl
structure JInv (a : Nat) (cs : List Nat) (j : Nat) (vs : List Value) : Prop where
  le : j ≤ cs.length
  len : vs.length ≤ 2 * j + 1
  text : ∃ xs, StrsAre vs xs ∧ catL xs ++ Rtx (cs.drop j) = a :: Rtx cs
theorem jn_start (a : Nat) (cs : List Nat) (t : Tok) : JInv a cs 0 [.str ⟨#[a]⟩ t] := ⟨Nat.zero_le _, Nat.le_refl _, [⟨#[a]⟩], .cons _ _ .nil, rfl⟩
theorem jn_mid {a : Nat} {cs : List Nat} {j c : Nat} {vs : List Value} (I : JInv a cs j vs) (hc : cs[j]? = some c) (h : j + 1 < cs.length) (y : Str) (t : Tok) (hy : y.cps.toList = [40, 63, 62, 46, 42, 63, c, 41]) : JInv a cs (j + 1) (vs ++ [.str y t]) := by
  obtain ⟨xs, h1, h2⟩ := I.text
  refine ⟨Nat.le_of_lt h, by rw [List.length_append]; have := I.len; simp; omega, xs ++ [y], strs_snoc h1 y t, ?_⟩
  obtain ⟨hj, e⟩ := List.getElem?_eq_some_iff.mp hc
  rw [← h2, catL_snoc, hy, List.drop_eq_getElem_cons hj, e, List.drop_eq_getElem_cons h, List.append_assoc]
  rfl
theorem jn_last {a : Nat} {cs : List Nat} {j c : Nat} {vs : List Value} (I : JInv a cs j vs) (hc : cs[j]? = some c) (h : j + 1 = cs.length) (y z : Str) (t u : Tok) (hy : y.cps.toList = [46, 42]) (hz : z.cps.toList = [c]) : JInv a cs (j + 1) ((vs ++ [.str y t]) ++ [.str z u]) := by
  obtain ⟨xs, h1, h2⟩ := I.text
  refine ⟨Nat.le_of_eq h, by simp only [List.length_append, List.length_cons, List.length_nil]; have := I.len; omega, (xs ++ [y]) ++ [z], strs_snoc (strs_snoc h1 y t) z u, ?_⟩
  obtain ⟨hj, e⟩ := List.getElem?_eq_some_iff.mp hc
  rw [← h2, catL_snoc, catL_snoc, hy, hz, List.drop_eq_getElem_cons hj, e, h, List.drop_length]
  simp [Rtx]
section
variable {prog : Program} {w : World} {A : Around} {E : Value → Shared → Prop} {s : Shared} {h₀ : Heap} {L : Addr}
theorem sub_head {value slice : PySem.Expr} {star l : Addr} {vs : List Value} {a : Nat} {cs : List Nat} {n : Nat} {u : Tok} {Q : Value → Shared → Prop} {news : List (Addr × Obj)} (N : News h₀ L s.heap news) (hm : (l, listOf vs.toArray n) ∈ news) (J : Alt star vs a cs)
    (h : ∀ t, Q (.str ⟨#[a]⟩ t) s) (hss : subscripted slice false (.ref l) (.int 0 u) = operate [.ref l, .int 0 u] (getItem (.ref l) (.int 0 u)) := by with_unfolding_all rfl) :
    wpAny (model prog w) A (subscriptTail value slice (.ref l) (.int 0 u)) Q E s := by
  have hl : s.heap.IsList l vs.toArray := ⟨_, N.get hm, rfl, n, rfl⟩
  obtain ⟨t, e⟩ := J.head
  exact tail_any hl.typeIs slot_list_getitem.lookup (wpAny_getItem_list hl (by decide) (by decide) (by simpa using e) (h t)) hss
section
variable {value slice : PySem.Expr} {star l : Addr} {vs : List Value} {a : Nat} {cs : List Nat} {n j : Nat} {u : Tok} {k : Int} {Q : Value → Shared → Prop} {news : List (Addr × Obj)}
theorem sub_star (N : News h₀ L s.heap news) (hm : (l, listOf vs.toArray n) ∈ news) (J : Alt star vs a cs) (hj : j < cs.length) (hk : k.toNat = 2 * j + 1) (h0 : 0 ≤ k) (h1 : k < 2 ^ 63)
    (h : Q (.ref star) s) (hss : subscripted slice false (.ref l) (.int k u) = operate [.ref l, .int k u] (getItem (.ref l) (.int k u)) := by with_unfolding_all rfl) :
    wpAny (model prog w) A (subscriptTail value slice (.ref l) (.int k u)) Q E s := by
  have hl : s.heap.IsList l vs.toArray := ⟨_, N.get hm, rfl, n, rfl⟩
  exact tail_any hl.typeIs slot_list_getitem.lookup (wpAny_getItem_list hl h0 h1 (by rw [hk]; simpa using J.star j hj) h) hss
theorem sub_sign (N : News h₀ L s.heap news) (hm : (l, listOf vs.toArray n) ∈ news) (J : Alt star vs a cs) (hj : j < cs.length) (hk : k.toNat = 2 * j + 2) (h0 : 0 ≤ k) (h1 : k < 2 ^ 63)
    (h : ∀ c t, cs[j]? = some c → Q (.str ⟨#[c]⟩ t) s) (hss : subscripted slice false (.ref l) (.int k u) = operate [.ref l, .int k u] (getItem (.ref l) (.int k u)) := by with_unfolding_all rfl) :
    wpAny (model prog w) A (subscriptTail value slice (.ref l) (.int k u)) Q E s := by
  have hl : s.heap.IsList l vs.toArray := ⟨_, N.get hm, rfl, n, rfl⟩
  have e : cs[j]? = some cs[j] := List.getElem?_eq_getElem hj
  obtain ⟨t, q⟩ := J.chr j _ e
  exact tail_any hl.typeIs slot_list_getitem.lookup (wpAny_getItem_list hl h0 h1 (by rw [hk]; simpa using q) (h _ t e)) hss
theorem sub_star1 (N : News h₀ L s.heap news) (hm : (l, listOf vs.toArray n) ∈ news) (J : Alt star vs a cs) (hj : j < cs.length) (h : Q (.ref star) s) (hss : subscripted slice false (.ref l) (.int (posI j) u) = operate [.ref l, .int (posI j) u] (getItem (.ref l) (.int (posI j) u)) := by with_unfolding_all rfl) :
    wpAny (model prog w) A (subscriptTail value slice (.ref l) (.int (posI j) u)) Q E s := by
  have := J.short
  have := posI_eq j
  exact sub_star N hm J hj (by omega) (by omega) (by omega) h hss
theorem sub_sign1 (N : News h₀ L s.heap news) (hm : (l, listOf vs.toArray n) ∈ news) (J : Alt star vs a cs) (hj : j < cs.length) (h : ∀ c t, cs[j]? = some c → Q (.str ⟨#[c]⟩ t) s) (hss : subscripted slice false (.ref l) (.int (posI j + 1) u) = operate [.ref l, .int (posI j + 1) u] (getItem (.ref l) (.int (posI j + 1) u)) := by with_unfolding_all rfl) :
    wpAny (model prog w) A (subscriptTail value slice (.ref l) (.int (posI j + 1) u)) Q E s := by
  have := J.short
  have := posI_eq j
  exact sub_sign N hm J hj (by omega) (by omega) (by omega) h hss
theorem sub_star2 (N : News h₀ L s.heap news) (hm : (l, listOf vs.toArray n) ∈ news) (J : Alt star vs a cs) (hj : j + 1 < cs.length) (h : Q (.ref star) s) (hss : subscripted slice false (.ref l) (.int (posI j + 1 + 1) u) = operate [.ref l, .int (posI j + 1 + 1) u] (getItem (.ref l) (.int (posI j + 1 + 1) u)) := by with_unfolding_all rfl) :
    wpAny (model prog w) A (subscriptTail value slice (.ref l) (.int (posI j + 1 + 1) u)) Q E s := by
  have := J.short
  have := posI_eq j
  exact sub_star N hm J hj (by omega) (by omega) (by omega) h hss
end
section
variable {env : Env}
/-- the while over the places 2 j + 1 -/
theorem wl2 {test : Expr} {body : List Stmt} {pos : Pos} {m₀ : Str → Option Value} {Q : Flow → Shared → Prop} {news : List (Addr × Obj)} (b l : Addr) (n₀ t₀ : Nat) (vs₀ : List Value) (I : Nat → List Value → Prop) (N : Nat) (hI : ∀ i vs, I i vs → i ≤ N) (stored : List Str)
    (FF : Fr h₀ L s.heap m₀) (NN : News h₀ L s.heap ((b, boundAppend l) :: (l, listOf vs₀.toArray n₀) :: news)) (hi : m₀ "i" = some (.int (0 + 1) t₀)) (h0 : I 0 vs₀)
    (turn : ∀ (j t : Nat) (vs : List Value) (n : Nat) (u : Str → Option Value) h tk, I j vs → Fr h₀ L h (fun z => if z = "i" then some (.int (posI j) t) else if stored.contains z then u z else m₀ z) → News h₀ L h ((b, boundAppend l) :: (l, listOf vs.toArray n) :: news) →
      wpAny (model prog w) A (isTrue test env (eval test env)) (fun bb s₂ => if bb = true then wpAny (model prog w) A (execs body env)
        (KswPost h₀ L s (fun (c : Nat × Nat × List Value × Nat) => (b, boundAppend l) :: (l, listOf c.2.2.1.toArray c.2.2.2) :: news) (fun c => [("i", .int (posI c.1) c.2.1)]) (fun _ => True) stored m₀ (fun c => I c.1 c.2.2.1) (fun c => N - c.1) Q (j, t, vs, n)) E s₂ else Q .next s₂) E { s with heap := h, toks := tk })
    (hE : PassesOwn (model prog w) A env E := by passes_own) :
    wpAny (model prog w) A (exec (.While test body [] pos) env) Q E s := by
  refine ksw_while (σ := Nat × Nat × List Value × Nat) (fun c => (b, boundAppend l) :: (l, listOf c.2.2.1.toArray c.2.2.2) :: news) (fun c => [("i", .int (posI c.1) c.2.1)]) (fun _ => True) stored (fun c => I c.1 c.2.2.1) (fun c => N - c.1) (0, t₀, vs₀, n₀) FF NN trivial ?_ h0 ?_ hE
  · intro p hp
    rw [List.mem_singleton.mp hp]; show m₀ "i" = some (.int (posI 0) t₀); rw [posI_0]; exact hi
  · intro c u h tk _ hP F' N'
    exact turn c.1 c.2.1 c.2.2.1 c.2.2.2 u h tk hP F' N'
end
theorem eq_int_no {a b : Int} {t u : Tok} {Q : Value → Shared → Prop} (e : a ≠ b) (h : Q (.bool false) s) : wpAny (model prog w) A (compareOp .Eq (.int a t) (.int b u)) Q E s := by
  refine PyProof.Rows.eq_int ?_
  rw [beq_eq_false_iff_ne.mpr e]; exact h
theorem join_cat : ∀ ys : List Str, (Str.join (Str.ofString "") ys).cps.toList = catL ys
  | [] => rfl
  | [y] => by simp [Str.join, catL]
  | y :: z :: r => by
    have ih := join_cat (z :: r)
    have e : Str.join (Str.ofString "") (y :: z :: r) = y ++ Str.ofString "" ++ Str.join (Str.ofString "") (z :: r) := rfl
    have e2 : (Str.ofString "").cps = #[] := by decide +kernel
    rw [e]
    show (y.cps ++ (Str.ofString "").cps ++ (Str.join (Str.ofString "") (z :: r)).cps).toList = _
    rw [e2, Array.toList_append, ih]
    simp [catL]
theorem catL_len : ∀ ys : List Str, (ys.map (·.length)).sum = (catL ys).length
  | [] => rfl
  | y :: r => by
    have ih := catL_len r
    simp only [catL, List.map_cons, List.sum_cons, List.flatMap_cons, List.length_append] at ih ⊢
    rw [ih]; simp [Str.length]
theorem join_any {l : Addr} {its : Array Value} {n : Nat} {ys : List Str} {t : Tok} {Q : Value → Shared → Prop} {news : List (Addr × Obj)} (N : News h₀ L s.heap news) (hm : (l, listOf its n) ∈ news) (hi : StrsAre its.toList ys) (hok : (catL ys).length ≤ 16777216)
    (h : ∀ t k, Q (.str ⟨(catL ys).toArray⟩ t) { s with toks := k }) : wpAny (model prog w) A (call (.builtin "str.join") [.str (Str.ofString "") t, .ref l]) Q E s := by
  have e : (Str.ofString "").length = 0 := by decide +kernel
  refine join_list (items := its) ⟨_, N.get hm, rfl, n, rfl⟩ hi (by rw [catL_len, e]; omega) fun t' k => ?_
  have q : Txt.join (Str.ofString "") ys = ⟨(catL ys).toArray⟩ := by
    have := join_cat ys
    exact (StrLaws.glued_eq_join _ _).trans (by rw [← this])
  rw [q]; exact h t' k
theorem join_one {l : Addr} {y : Str} {ty : Tok} {n : Nat} {t : Tok} {Q : Value → Shared → Prop} {news : List (Addr × Obj)} (N : News h₀ L s.heap news) (hm : (l, listOf (#[].push (.str y ty)) n) ∈ news) (hy : y.cps.size ≤ 1000)
    (h : ∀ t k, Q (.str y t) { s with toks := k }) : wpAny (model prog w) A (call (.builtin "str.join") [.str (Str.ofString "") t, .ref l]) Q E s := by
  refine join_any (ys := [y]) N hm (.cons y ty .nil) (by simp [catL]; omega) fun t' k => ?_
  have : (⟨(catL [y]).toArray⟩ : Str) = y := by simp [catL]
  rw [this]; exact h t' k
theorem rtx_len : ∀ cs : List Nat, (Rtx cs).length ≤ 8 * cs.length
  | [] => Nat.le_refl _
  | [c] => by simp [Rtx]
  | c :: d :: r => by
    have := rtx_len (d :: r)
    simp only [Rtx, List.length_append, List.length_cons, List.length_nil] at this ⊢
    omega
theorem join_last {star l : Addr} {vs us : List Value} {a j : Nat} {cs : List Nat} {n : Nat} {t : Tok} {Q : Value → Shared → Prop} {news : List (Addr × Obj)} (N : News h₀ L s.heap news) (hm : (l, listOf us.toArray n) ∈ news) (J : Alt star vs a cs) (I : JInv a cs j us) (he : ¬ posI j < (vs.length : Int))
    (h : ∀ t k, Q (.str ⟨(a :: Rtx cs).toArray⟩ t) { s with toks := k }) : wpAny (model prog w) A (call (.builtin "str.join") [.str (Str.ofString "") t, .ref l]) Q E s := by
  obtain ⟨xs, h1, h2⟩ := I.text
  have hj : j = cs.length := by
    have := I.le; have := J.len; have := posI_eq j
    omega
  rw [hj, List.drop_length] at h2
  have h2' : catL xs = a :: Rtx cs := by simpa [Rtx] using h2
  refine join_any N hm (by simpa using h1) ?_ fun t' k => by rw [h2']; exact h t' k
  have := rtx_len cs; have := J.short
  rw [h2', List.length_cons]; omega
theorem len_any {l : Addr} {vs : List Value} {n : Nat} {Q : Value → Shared → Prop} {news : List (Addr × Obj)} (N : News h₀ L s.heap news) (hm : (l, listOf vs.toArray n) ∈ news) (hs : vs.length ≤ 1000)
    (h : ∀ t k, Q (.int vs.length t) { s with toks := k }) : wpAny (model prog w) A (call (.builtin "len") [.ref l]) Q E s :=
  len_list (items := vs.toArray) ⟨_, N.get hm, rfl, n, rfl⟩ (by rw [List.size_toArray]; omega) (h _ _)
end
local macro_rules | `(tactic| walk_at "call builtin:len") => `(tactic| (k_here; (with_reducible show wpAny _ _ (call (Value.builtin "len") [Value.ref _]) _ _ _); k_dflt (refine' len_any ?N ?m ?z ?_; (case N => k_asm); (case m => k_mem); (case z => omega); k_whole); intro t9 k9; (try dsimp only)))
local macro_rules | `(tactic| walk_at "storeName") => `(tactic| (k_here; (try dsimp only); k_dflt (refine' my_store ?F ?N ?_ ?a ?b; (case F => k_asm); (case N => k_asm); (case a => rfl); (case b => rfl); k_whole); intro h' tk' kM F' N'; (try k_sweep)))
local macro_rules | `(tactic| walk_at "getAttr ref") => `(tactic| (k_here; (with_reducible show wpAny _ _ (getAttr (Value.ref _) (PySem.Str.ofString "append") _) _ _ _); k_dflt (refine' ga_append ?F ?N ?m ?_; (case F => k_asm); (case N => k_asm); (case m => k_mem); k_whole); intro b' h' tk' F' N' l1; (try k_lt l1); (try k_sweep)))
local macro_rules | `(tactic| walk_at "callWith ref") => `(tactic| (k_here; k_dflt (refine' callWith_app ?N ?M ?_; (case N => k_asm); (case M => k_mem); k_whole)))
local macro_rules | `(tactic| walk_at "And") => `(tactic| ((with_reducible show Heap.get? _ _ = some (boundAppend _) ∧ _); k_dflt (refine ⟨News.get (by k_asm) (by k_mem), ?_⟩); (try dsimp only [List.nil_append, List.cons_append])))
local macro_rules | `(tactic| k_mem) => `(tactic| assumption)
local macro_rules | `(tactic| k_all) => `(tactic| assumption)
local macro_rules | `(tactic| walk_at "compareOp IsNot ref ref") => `(tactic| refine isnot_same ?_)
local macro_rules | `(tactic| walk_at "compareOp IsNot str ref") => `(tactic| (refine wpAny_isNot_other ?a ?b ?_; (case a => with_unfolding_all rfl); (case b => intro x; cases x)))
local macro_rules | `(tactic| walk_at "compareOp Eq int int") => `(tactic| first | (refine eq_int_yes ?hx ?_; (case hx => k_dflt omega)) | (refine eq_int_no ?hx ?_; (case hx => k_dflt omega)))
local macro_rules | `(tactic| walk_at "subscriptTail Name Name ref int") => `(tactic| (k_here; k_dflt (refine' sub_head ?N ?m ?J ?_ ?k; (case J => assumption); (case N => k_asm); (case m => k_mem); (case k => with_unfolding_all rfl)); intro t9))
section
variable {s : Shared} {h₀ : Heap} {L : Addr} {m₀ m' : Str → Option Value} {news : List (Addr × Obj)} {b l : Addr} {I : Nat → List Value → Prop} {NN : Nat} {h' : Heap} {tk j tj n n' : Nat} {us vs' : List Value} {x y : Value} {t' : Tok}
theorem wl2_end (FF : Fr h₀ L h' m') (N : News h₀ L h' ((b, boundAppend l) :: (l, listOf vs'.toArray n') :: news)) (hI : I (j + 1) vs') (hN : j + 1 ≤ NN) (hi : m' "i" = some (.int (posI j + 1 + 1) t'))
    (hs : ∀ z : Str, z ≠ "i" → z ≠ "fixed" → [Str.ofString "fixed"].contains z = false → m' z = m₀ z) :
    KswEnd h₀ L s (fun (c : Nat × Nat × List Value × Nat) => (b, boundAppend l) :: (l, listOf c.2.2.1.toArray c.2.2.2) :: news) (fun c => [("i", .int (posI c.1) c.2.1)]) (fun _ => True) [Str.ofString "fixed"] m₀ (fun c => I c.1 c.2.2.1) (fun c => NN - c.1) (j, tj, us, n) { s with heap := h', toks := tk } := by
  refine ksw_end (j + 1, t', vs', n') FF N (fun _ h => h) trivial ?_ ?_ hI (by show NN - (j + 1) < NN - j; omega)
  · intro p hp
    rw [List.mem_singleton.mp hp]
    show m' "i" = some (.int (posI (j + 1)) t')
    rw [hi, posI_eq, posI_eq]
    have : 2 * (j : Int) + 1 + 1 + 1 = 2 * ((j + 1 : Nat) : Int) + 1 := by omega
    rw [this]
  · intro z h2 h3
    exact hs z (h2 _ (.head _)) (fun e => by subst e; revert h3; decide +kernel) h3
theorem wl2_one (FF : Fr h₀ L h' m') (N : News h₀ L h' ((b, boundAppend l) :: (l, listOf (us.toArray.push x) n') :: news)) (hI : I (j + 1) (us ++ [x])) (hN : j + 1 ≤ NN) (hi : m' "i" = some (.int (posI j + 1 + 1) t'))
    (hs : ∀ z : Str, z ≠ "i" → z ≠ "fixed" → [Str.ofString "fixed"].contains z = false → m' z = m₀ z) :
    KswEnd h₀ L s (fun (c : Nat × Nat × List Value × Nat) => (b, boundAppend l) :: (l, listOf c.2.2.1.toArray c.2.2.2) :: news) (fun c => [("i", .int (posI c.1) c.2.1)]) (fun _ => True) [Str.ofString "fixed"] m₀ (fun c => I c.1 c.2.2.1) (fun c => NN - c.1) (j, tj, us, n) { s with heap := h', toks := tk } :=
  wl2_end FF (by rw [List.push_toArray] at N; exact N) hI hN hi hs
theorem wl2_two (FF : Fr h₀ L h' m') (N : News h₀ L h' ((b, boundAppend l) :: (l, listOf ((us.toArray.push x).push y) n') :: news)) (hI : I (j + 1) ((us ++ [x]) ++ [y])) (hN : j + 1 ≤ NN) (hi : m' "i" = some (.int (posI j + 1 + 1) t'))
    (hs : ∀ z : Str, z ≠ "i" → z ≠ "fixed" → [Str.ofString "fixed"].contains z = false → m' z = m₀ z) :
    KswEnd h₀ L s (fun (c : Nat × Nat × List Value × Nat) => (b, boundAppend l) :: (l, listOf c.2.2.1.toArray c.2.2.2) :: news) (fun c => [("i", .int (posI c.1) c.2.1)]) (fun _ => True) [Str.ofString "fixed"] m₀ (fun c => I c.1 c.2.2.1) (fun c => NN - c.1) (j, tj, us, n) { s with heap := h', toks := tk } :=
  wl2_end FF (by rw [List.push_toArray, List.push_toArray] at N; exact N) hI hN hi hs
end
theorem rtx_fit {star : Addr} {vs : List Value} {a : Nat} {cs : List Nat} (J : Alt star vs a cs) : (⟨(a :: Rtx cs).toArray⟩ : Str).length ≤ 4000 := by
  have := rtx_len cs; have := J.short
  show (a :: Rtx cs).toArray.size ≤ 4000
  rw [List.size_toArray, List.length_cons]; omega
theorem mid_text (c : Nat) : (Str.empty ++ Str.ofString "(?>.*?" ++ ⟨#[c]⟩ ++ Str.ofString ")").cps.toList = [40, 63, 62, 46, 42, 63, c, 41] := by
  rw [show Str.ofString "(?>.*?" = ⟨#[40, 63, 62, 46, 42, 63]⟩ from by decide +kernel, show Str.ofString ")" = ⟨#[41]⟩ from by decide +kernel]
  rfl
theorem all_text (a : Nat) (cs : List Nat) : Str.empty ++ Str.ofString "(?s:" ++ ⟨(a :: Rtx cs).toArray⟩ ++ Str.ofString ")\\Z" = ⟨(JText a cs).toArray⟩ := by
  rw [show Str.ofString "(?s:" = ⟨#[40, 63, 115, 58]⟩ from by decide +kernel, show Str.ofString ")\\Z" = ⟨#[41, 92, 90]⟩ from by decide +kernel]
  apply Str.ext'
  apply Array.toList_inj.mp
  simp only [JText]
  show (#[] ++ #[40, 63, 115, 58] ++ (a :: Rtx cs).toArray ++ #[41, 92, 90] : Array Nat).toList = _
  simp
theorem last_text : (Str.ofString ".*").cps.toList = [46, 42] := by decide +kernel
theorem jn_fit {a j : Nat} {cs : List Nat} {vs : List Value} (I : JInv a cs j vs) (h : cs.length ≤ 400) : vs.toArray.size ≤ sizeLine ∧ (∀ x, (vs.toArray.push x).size ≤ sizeLine) := by
  have := I.le; have := I.len
  simp only [Array.size_push, List.size_toArray, sizeLine_eq]
  exact ⟨by omega, fun _ => by omega⟩
local macro_rules | `(tactic| walk_at "call ref") => `(tactic| (k_here; (with_reducible show wpAny _ _ (call (Value.ref _) [_]) _ _ _); k_dflt (refine' call_app ?F ?N ?u ?m ?U ?z ?_; (case F => k_asm); (case N => k_asm); (case u => k_mem); (case m => k_mem); (case U => k_upd); (case z => first | exact (jn_fit (by assumption) (by assumption)).1 | exact (jn_fit (by assumption) (by assumption)).2 _ | exact Nat.zero_le _ | (simp only [sizeLine_eq]; decide)); k_whole); intro h' F' N'; (try k_sweep)))
local macro_rules | `(tactic| walk_at "subscriptTail Name Name ref int") => `(tactic| (k_here; first
  | ((with_reducible show wpAny _ _ (subscriptTail _ _ _ (Value.int (posI _) _)) _ _ _); k_dflt (refine' sub_star1 ?N ?m ?J ?j ?_ ?k; (case J => assumption); (case N => k_asm); (case m => k_mem); (case j => omega); (case k => with_unfolding_all rfl)))
  | ((with_reducible show wpAny _ _ (subscriptTail _ _ _ (Value.int (posI _ + 1) _)) _ _ _); k_dflt (refine' sub_sign1 ?N ?m ?J ?j ?_ ?k; (case J => assumption); (case N => k_asm); (case m => k_mem); (case j => omega); (case k => with_unfolding_all rfl)); intro c9 t9 hc9)
  | ((with_reducible show wpAny _ _ (subscriptTail _ _ _ (Value.int (posI _ + 1 + 1) _)) _ _ _); k_dflt (refine' sub_star2 ?N ?m ?J ?j ?_ ?k; (case J => assumption); (case N => k_asm); (case m => k_mem); (case j => omega); (case k => with_unfolding_all rfl)))
  | ((with_reducible show wpAny _ _ (subscriptTail _ _ _ (Value.int 0 _)) _ _ _); k_dflt (refine' sub_head ?N ?m ?J ?_ ?k; (case J => assumption); (case N => k_asm); (case m => k_mem); (case k => with_unfolding_all rfl)); intro t9)
  | ((with_reducible show wpAny _ _ (subscriptTail _ _ _ (Value.int (0 + 1) _)) _ _ _); k_dflt (refine' sub_star (j := 0) ?N ?m ?J ?j ?e ?a ?b ?_ ?k; (case J => assumption); (case N => k_asm); (case m => k_mem); (case j => omega); (case e => decide); (case a => decide); (case b => decide); (case k => with_unfolding_all rfl)))))
local macro_rules | `(tactic| walk_at "exec While BoolOp cons nil") => `(tactic| (k_here; k_dflt (refine whl_start 100 ?_)))
local macro_rules | `(tactic| walk_at "call builtin:str.join") => `(tactic| (k_here; k_dflt (first
  | (refine' join_one ?N ?m ?z ?_; (case N => k_asm); (case m => k_mem); (case z => exact Nat.le_of_ble_eq_true rfl))
  | (refine' join_last ?N ?m ?J ?I ?h ?_; (case J => assumption); (case I => assumption); (case h => assumption); (case N => k_asm); (case m => k_mem))); intro t9 k9; (try dsimp only)))
theorem c_join {prog : Program} {w : World} {p : Program} {loose : List Str} {mean : ExcName → Option Value} {mg mb : Str → Option Value} (news : List (Addr × Obj)) (star li : Addr) (vs : List Value) (nn a : Nat) (cs : List Nat) :
   NClaim prog w (heapK w.params) p loose mean mg mb 69 1 news (Alt star vs a cs ∧ cs ≠ [] ∧ (li, listOf vs.toArray nn) ∈ news) [.ref li, .ref star] (fun v tl => ∃ t, v = .str ⟨(JText a cs).toArray⟩ t ∧ tl = []) := by
  dsimp only [NClaim]; intros; rename_i hret
  obtain ⟨J, hne, hli⟩ := (by assumption : Alt star vs a cs ∧ cs ≠ [] ∧ (li, listOf vs.toArray nn) ∈ news)
  have hlen := J.len
  have hshort := J.short
  refine wpAny_call ?_
  k_dflt cell_enter
  refine let_env ?_
  intro env A
  k_with_none
  have hrx := rtx_fit J
  have hpos : 0 < cs.length := List.length_pos_iff.mpr hne
  (k_with "exec While Compare cons nil" => (k_dflt (refine' wl2 _ _ _ _ [.str ⟨#[a]⟩ _] (JInv a cs) cs.length (fun _ _ h => h.le) [Str.ofString "fixed"] ?F ?N ?i ?h0 ?_; (case F => k_asm); (case N => first | k_asm | exact news_tail (by k_asm)); (case i => rfl); (case h0 => exact jn_start _ _ _)); intro j tj us n u h tk I F' N'; have hle := I.le; have hpj := posI_eq j; (try k_fold)))
  k_steps
  · exact wl2_one (by assumption) (news_tail (by assumption)) (jn_mid I (by assumption) (by omega) _ _ (mid_text _)) (by omega) rfl (by intro z h4 h5 h6; dsimp +zetaDelta only; simp only [if_neg h4, if_neg h5, h6, Bool.false_eq_true, if_false])
  · exact wl2_two (by assumption) (news_tail (by assumption)) (jn_last I (by assumption) (by omega) _ _ _ _ last_text rfl) (by omega) rfl (by intro z h4 h5 h6; dsimp +zetaDelta only; simp only [if_neg h4, if_neg h5, h6, Bool.false_eq_true, if_false])
  · rw [all_text]
    exact hret _ [] _ _ ⟨_, rfl, rfl⟩ (by assumption) (news_tail (news_tail (by assumption))) (fun _ h => nomatch h)
end Mine
end

section
set_option maxHeartbeats 400000
namespace Mine
open PySem PySem.Calls PyProof.Rows PyProof.V PySem.Spec Builtin
section
variable {prog : Program} {w : World} {A : Around} {E : Value → Shared → Prop} {s : Shared}
abbrev objObj : Obj := { cls := .type "object", data := .plain }
theorem mro_obj : mroOf (.type "object") = pure [.type "object"] := by kernel_rfl
theorem new_obj : typeLookup (.type "object") "__new__" = pure (some (.builtin "object.__new__")) := by rw [typeLookup_type, builtinLookup_eq_fast]; kernel_rfl
theorem made_obj : Bind.madeBy (.type "object") = pure (some "object.__new__") := madeBy_type mro_obj new_obj (by decide +kernel)
theorem here_obj : Bind.madeHere "object.__new__" (.type "object") = pure () := by
  unfold Bind.madeHere
  rw [show Bind.staticBase (.type "object") = pure (.type "object") from by kernel_rfl]
  simp only [pure_bind, made_obj]
  rfl
theorem called_object : TypeCalled "object" "object.__new__" "object.__init__" where
  notType := by decide +kernel
  canCreate := by kernel_rfl
  mro := ⟨_, _, mro_obj⟩
  made := made_obj
  plain := by decide +kernel
  sub := by rw [isSubtype_type]; kernel_rfl
  init := .of (owner := "object") (n := "__init__") (by rw [typeLookup_type, builtinLookup_eq_fast]; kernel_rfl) (by decide +kernel) (by decide +kernel) (by decide +kernel)
    (by first | exact .inl (by decide +kernel) | exact .inr (by decide +kernel)) (by rw [isSubtype_type]; kernel_rfl)
theorem object_new_meets : Meets (Builtin.«object.__new__» ⟨[.type "object"], []⟩) (fun _ R s => ∀ tk, R (.ok (.ret (.ref s.heap.objs.size))) { s with heap := s.heap.push objObj, toks := tk }) := by
  refine Meets.of_wp fun prog w A R s hs => ?_
  unfold Builtin.«object.__new__»
  have h3 : (((Manifest.find? "object").elim false fun b => b.mro.any fun t => (Manifest.find? t).elim false fun b => b.noNew) = true) = False := by simp only [show ((Manifest.find? "object").elim false fun b => b.mro.any fun t => (Manifest.find? t).elim false fun b => b.noNew) = false from by kernel_rfl]; decide
  have h4 := here_obj
  refine wpAny_bind (wpAny_pure ?_)
  dsimp only
  show wpAny _ _ (if ((Manifest.find? "object").elim false fun b => b.mro.any fun t => (Manifest.find? t).elim false fun b => b.noNew) = true then _ else _) _ _ _
  rw [if_neg (by rw [h3]; exact id)]
  refine wpAny_bind (wpAny_of_eq h4 ?_)
  rw [if_neg (show ¬ typeHasDict (.type "object") = true from by rw [show typeHasDict (.type "object") = false from by kernel_rfl]; decide)]
  refine wpAny_bind (wpAny_pure ?_)
  refine wpAny_bind ?_
  refine wpAny_newObj_type ?_
  rw [if_neg (show ¬ diesByItsTypesDel "object" = true from by decide +kernel)]
  exact wpAny_pure ⟨_, rfl, hs _⟩
theorem call_object {h₀ : Heap} {L : Addr} {m : Str → Option Value} {news : List (Addr × Obj)} {Q : Value → Shared → Prop} (FF : Fr h₀ L s.heap m) (N : News h₀ L s.heap news)
    (h : ∀ a h' tk, Fr h₀ L h' m → News h₀ L h' ((a, objObj) :: news) → (∀ p ∈ news, p.1 < a) → Q (.ref a) { s with heap := h', toks := tk }) : wpAny (model prog w) A (call (.type "object") []) Q E s := by
  refine callType_meets (Q₁ := fun obj s₁ => ∃ tk, obj = .ref s.heap.objs.size ∧ s₁ = { s with heap := s.heap.push objObj, toks := tk }) called_object (by kernel_rfl) (by kernel_rfl) F.entry_object_new F.entry_object_init object_new_meets (fun tk => ⟨tk, rfl, rfl⟩) ?_
  rintro _ _ ⟨tk, rfl, rfl⟩
  refine ⟨⟨_, Heap.get?_push_size _ rfl, rfl⟩, by unfold argsOk; kernel_rfl, fun _ R s => R (.ok (.ret .none)) s, ?_, rfl, ?_⟩
  · refine Meets.of_wp fun prog w A R s hs => wpAny_pure ⟨_, rfl, hs⟩
  · exact h _ _ _ (FF.push _) (N.push FF _) fun p hp => Heap.lt_size (N p hp).1
end
end Mine
end

section
set_option maxHeartbeats 800000
namespace Mine
open PySem PySem.Calls PyProof.Rows PyProof.V PySem.Spec
def altT (a : Nat) (cs : List Nat) : List (Option Nat) := some a :: cs.flatMap fun c => [none, some c]
theorem tv_none {star : Addr} {vs : List Value} {ts : List (Option Nat)} (T : TV star vs ts) : ∀ i : Nat, ts[i]? = some none → vs[i]? = some (Value.ref star) := by
  induction T with
  | nil => intro i h; cases h
  | @star vs ts T ih =>
    intro i h
    have e := tv_len T
    rw [List.getElem?_append] at h ⊢
    rw [e]
    split at h
    · rw [if_pos (by assumption)]; exact ih i h
    · rw [if_neg (by assumption)]
      cases q : i - ts.length with
      | zero => rfl
      | succ k => rw [q] at h; cases h
  | @chr vs ts c t T ih =>
    intro i h
    have e := tv_len T
    rw [List.getElem?_append] at h ⊢
    rw [e]
    split at h
    · rw [if_pos (by assumption)]; exact ih i h
    · cases q : i - ts.length with
      | zero => rw [q] at h; cases h
      | succ k => rw [q] at h; cases h
theorem tv_some {star : Addr} {vs : List Value} {ts : List (Option Nat)} {c : Nat} (T : TV star vs ts) : ∀ i : Nat, ts[i]? = some (some c) → ∃ t, vs[i]? = some (Value.str ⟨#[c]⟩ t) := by
  induction T with
  | nil => intro i h; cases h
  | @star vs ts T ih =>
    intro i h
    have e := tv_len T
    rw [List.getElem?_append] at h ⊢
    rw [e]
    split at h
    · rw [if_pos (by assumption)]; exact ih i h
    · cases q : i - ts.length with
      | zero => rw [q] at h; cases h
      | succ k => rw [q] at h; cases h
  | @chr vs ts d t T ih =>
    intro i h
    have e := tv_len T
    rw [List.getElem?_append] at h ⊢
    rw [e]
    split at h
    · rw [if_pos (by assumption)]; exact ih i h
    · rw [if_neg (by assumption)]
      cases q : i - ts.length with
      | zero => rw [q] at h; cases h; exact ⟨t, rfl⟩
      | succ k => rw [q] at h; cases h
theorem alt_at : ∀ (cs : List Nat) (j : Nat), (cs.flatMap fun c => [none, some c])[2 * j]? = (cs[j]?).map (fun _ => none) ∧ (cs.flatMap fun c => [none, some c])[2 * j + 1]? = (cs[j]?).map some
  | [], j => ⟨rfl, rfl⟩
  | c :: r, 0 => ⟨rfl, rfl⟩
  | c :: r, j + 1 => by
    have ih := alt_at r j
    have e : 2 * (j + 1) = 2 * j + 1 + 1 := by omega
    rw [List.flatMap_cons, e]
    exact ih
theorem alt_len : ∀ cs : List Nat, (cs.flatMap fun c => ([none, some c] : List (Option Nat))).length = 2 * cs.length
  | [] => rfl
  | c :: r => by
    rw [List.flatMap_cons, List.length_append, alt_len r, List.length_cons, List.length_cons, List.length_cons, List.length_nil]
    omega
theorem alt_of {star : Addr} {vs : List Value} {a : Nat} {cs : List Nat} (T : TV star vs (altT a cs)) (h : cs.length ≤ 400) : Alt star vs a cs where
  len := by rw [tv_len T, altT, List.length_cons, alt_len]
  head := tv_some T 0 rfl
  star := fun j hj => tv_none T _ (by rw [altT, List.getElem?_cons_succ, (alt_at cs j).1, List.getElem?_eq_getElem hj]; rfl)
  chr := fun j c hc => tv_some T _ (by rw [altT, List.getElem?_cons_succ, (alt_at cs j).2, hc]; rfl)
  short := h
local macro_rules | `(tactic| walk_at "storeName") => `(tactic| (k_here; (try dsimp only); k_dflt (refine' my_store ?F ?N ?_ ?a ?b; (case F => k_asm); (case N => k_asm); (case a => rfl); (case b => rfl); k_whole); intro h' tk' kM F' N'; (try k_sweep)))
local macro_rules | `(tactic| k_all) => `(tactic| assumption)
local macro_rules | `(tactic| walk_at "call type:object nil nil") => `(tactic| (k_here; k_dflt (refine' call_object ?F ?N ?_; (case F => k_asm); (case N => k_asm)); intro a' h' tk' F' N' l1; (try k_lt l1); (try k_sweep)))
local macro_rules | `(tactic| walk_at "call ref") => `(tactic| (k_here; (with_reducible show wpAny _ _ (call (Value.ref 62) _) _ _ _); k_dflt (refine' nc_use ?k1 ?k2 ?k3 ?k4 ?k5 ?kK (c_trans0 _ _ _ _ _) ?kp ?kd ?ku ?_; (case k1 => k_asm); (case k2 => k_asm); (case k3 => k_asm); (case k4 => k_asm); (case k5 => k_asm); (case kK => rfl); (case kp => assumption); (case kd => ktr_room); (case ku => ktr_units)); intro v9 tl9 h9 tk9 R9 F9 N9 O9; obtain ⟨l9, vs9, n9, e8, e9, T9⟩ := R9; subst e8; subst e9; dsimp only [List.cons_append, List.nil_append] at N9; have J9 := alt_of (by rw [← (by assumption : toks _ = altT _ _)]; exact T9) (by assumption); (try dsimp only); (try k_fold)))
local macro_rules | `(tactic| walk_at "call ref") => `(tactic| (k_here; (with_reducible show wpAny _ _ (call (Value.ref 69) _) _ _ _); k_dflt (refine' nc_use ?k1 ?k2 ?k3 ?k4 ?k5 ?kK (c_join _ _ _ _ _ _ _) ?kp ?kd ?ku ?_; (case k1 => k_asm); (case k2 => k_asm); (case k3 => k_asm); (case k4 => k_asm); (case k5 => k_asm); (case kK => rfl); (case kp => (refine ⟨by assumption, by assumption, ?_⟩; k_mem)); (case kd => ktr_room); (case ku => ktr_units)); intro v9 tl9 h9 tk9 R9 F9 N9 O9; obtain ⟨t9, e8, e9⟩ := R9; subst e8; subst e9; (try dsimp only); (try k_fold)))
theorem c_translate {prog : Program} {w : World} {p : Program} {loose : List Str} {mean : ExcName → Option Value} {mg mb : Str → Option Value} (news : List (Addr × Obj)) (pat : Str) (t : Tok) (a : Nat) (cs : List Nat) :
   NClaim prog w (heapK w.params) p loose mean mg mb 43 3 news ((pat.cps.size ≤ 1000 ∧ ∀ c ∈ pat.cps.toList, c = 42 ∨ 65 ≤ c ∧ c ≤ 80) ∧ toks pat.cps.toList = altT a cs ∧ cs ≠ [] ∧ cs.length ≤ 400) [.str pat t] (fun v tl => ∃ t, v = .str ⟨(JText a cs).toArray⟩ t ∧ tl = []) := by
  dsimp only [NClaim]; intros; rename_i hret
  obtain ⟨h1, h2, h3, h4⟩ := (by assumption : (pat.cps.size ≤ 1000 ∧ ∀ c ∈ pat.cps.toList, c = 42 ∨ 65 ≤ c ∧ c ≤ 80) ∧ toks pat.cps.toList = altT a cs ∧ cs ≠ [] ∧ cs.length ≤ 400)
  refine wpAny_call ?_
  k_dflt cell_enter
  refine let_env ?_
  intro env A
  k_with_none
  k_steps
  exact hret _ [] _ _ ⟨_, rfl, rfl⟩ (by assumption) (news_tail (news_tail (by assumption))) (fun _ h => nomatch h)
end Mine
end

section
set_option maxHeartbeats 800000
namespace Mine
open PySem PySem.Calls PyProof.Rows PyProof.V PySem.Spec
open PySem.Builtin PySem.Builtin.Str in
theorem cut_run (x : Str) {l u : Option Int} (a b : Nat) (h : strSliceIndices l u 1 x.length = sliceRange a b 1) (hb : b ≤ x.length) (hab : a ≤ b) : Txt.slice x l u = ⟨((x.cps.toList.drop a).take (b - a)).toArray⟩ := by
  unfold Txt.slice
  rw [h, sliceRange_one, pick_run]
  split
  · rename_i q
    have q' : b - a = x.length := by simpa using q
    have ha : a = 0 := by omega
    subst ha
    rw [q']
    apply Str.ext'
    show x.cps = (List.take x.cps.size x.cps.toList).toArray
    rw [← Array.length_toList, List.take_length]
  · rfl
def rtS (ks : List Nat) : Str := ⟨(Rtx (ks ++ [65])).toArray⟩
def jtS (ks : List Nat) : Str := ⟨(JText 65 (ks ++ [65])).toArray⟩
def nmS (ws : List Nat) : Str := ⟨(65 :: (ws ++ [65])).toArray⟩
theorem rtx_cons (k : Nat) (r : List Nat) : Rtx (k :: r ++ [65]) = 40 :: 63 :: 62 :: 46 :: 42 :: 63 :: k :: 41 :: Rtx (r ++ [65]) := by
  cases r <;> rfl
theorem rtx_size : ∀ ks : List Nat, (Rtx (ks ++ [65])).length = 8 * ks.length + 3
  | [] => rfl
  | k :: r => by
    rw [rtx_cons]; simp only [List.length_cons, rtx_size r]; omega
theorem jt_size (ks : List Nat) : (jtS ks).length = 8 * ks.length + 11 := by
  show (JText 65 (ks ++ [65])).toArray.size = _
  have := rtx_size ks
  simp only [JText, List.size_toArray, List.length_append, List.length_cons, List.length_nil, this]
  omega
theorem rt_size (ks : List Nat) : (rtS ks).length = 8 * ks.length + 3 := by
  show (Rtx (ks ++ [65])).toArray.size = _
  rw [List.size_toArray, rtx_size]
theorem nm_size (ws : List Nat) : (nmS ws).length = ws.length + 2 := by
  show (65 :: (ws ++ [65])).toArray.size = _
  simp
section
open PySem.Builtin PySem.Builtin.Str
theorem cut_mid (ks : List Nat) : Txt.slice (jtS ks) (some 5) (some (-3)) = rtS ks := by
  have e := jt_size ks
  rw [cut_run (jtS ks) 5 (8 * ks.length + 8) (by rw [e]; show sliceRange (max 0 (min 5 _)) (max 0 (min (-3 + _) _)) 1 = _; congr 1 <;> omega) (by omega) (by omega)]
  have := rtx_size ks
  unfold jtS rtS
  apply Str.ext'
  apply Array.toList_inj.mp
  show List.take _ (List.drop 5 (JText 65 (ks ++ [65]))) = Rtx (ks ++ [65])
  show List.take _ (Rtx (ks ++ [65]) ++ [41, 92, 90]) = _
  rw [List.take_append_of_le_length (by omega), List.take_of_length_le (by omega)]
theorem cut_front (ks : List Nat) : Txt.slice (jtS ks) none (some 5) = ⟨#[40, 63, 115, 58, 65]⟩ := by
  have e := jt_size ks
  rw [cut_run (jtS ks) 0 5 (by rw [e]; show sliceRange 0 (max 0 (min 5 _)) 1 = _; congr 1; omega) (by omega) (by omega)]
  rfl
theorem cut_back (ks : List Nat) : Txt.slice (jtS ks) (some (-3)) none = ⟨#[41, 92, 90]⟩ := by
  have e := jt_size ks
  rw [cut_run (jtS ks) (8 * ks.length + 8) (8 * ks.length + 11) (by rw [e]; show sliceRange (max 0 (min (-3 + _) _)) _ 1 = _; congr 1; omega) (by omega) (by omega)]
  have := rtx_size ks
  apply Str.ext'
  apply Array.toList_inj.mp
  show List.take _ (List.drop _ ([40, 63, 115, 58, 65] ++ Rtx (ks ++ [65]) ++ [41, 92, 90])) = [41, 92, 90]
  rw [List.drop_left' (by simp only [List.length_append, this, List.length_cons, List.length_nil]; omega), List.take_of_length_le (by simp only [List.length_cons, List.length_nil]; omega)]
theorem cut_six (k : Nat) (r : List Nat) : Txt.slice (rtS (k :: r)) none (some 6) = ⟨#[40, 63, 62, 46, 42, 63]⟩ := by
  have e := rt_size (k :: r)
  rw [List.length_cons] at e
  rw [cut_run (rtS (k :: r)) 0 6 (by rw [e]; show sliceRange 0 (max 0 (min 6 _)) 1 = _; congr 1; omega) (by omega) (by omega)]
  unfold rtS
  rw [rtx_cons]
  rfl
theorem cut_six0 : Txt.slice (rtS []) none (some 6) = ⟨#[46, 42, 65]⟩ := by decide +kernel
theorem cut_rest (k : Nat) (r : List Nat) : Txt.slice (rtS (k :: r)) (some 6) none = ⟨(k :: 41 :: Rtx (r ++ [65])).toArray⟩ := by
  have e := rt_size (k :: r)
  rw [List.length_cons] at e
  rw [cut_run (rtS (k :: r)) 6 (8 * r.length + 11) (by rw [e]; show sliceRange (max 0 (min 6 _)) _ 1 = _; congr 1; omega) (by omega) (by omega)]
  have := rtx_size r
  unfold rtS
  rw [rtx_cons]
  apply Str.ext'
  apply Array.toList_inj.mp
  show List.take _ (k :: 41 :: Rtx (r ++ [65])) = _
  rw [List.take_of_length_le (by simp only [List.length_cons]; omega)]
theorem cut_one (ws : List Nat) : Txt.slice (nmS ws) none (some 1) = ⟨#[65]⟩ := by
  have e := nm_size ws
  rw [cut_run (nmS ws) 0 1 (by rw [e]; show sliceRange 0 (max 0 (min 1 _)) 1 = _; congr 1; omega) (by omega) (by omega)]
  rfl
theorem cut_end (ws : List Nat) : Txt.slice (nmS ws) (some (-1)) none = ⟨#[65]⟩ := by
  have e := nm_size ws
  rw [cut_run (nmS ws) (ws.length + 1) (ws.length + 2) (by rw [e]; show sliceRange (max 0 (min (-1 + _) _)) _ 1 = _; congr 1; omega) (by omega) (by omega)]
  apply Str.ext'
  apply Array.toList_inj.mp
  show List.take _ (List.drop (ws.length + 1) (65 :: (ws ++ [65]))) = [65]
  rw [List.drop_succ_cons, List.drop_left, List.take_of_length_le (by simp)]
theorem split_tk {c : Nat} (rest : List Nat) (hc : c ≠ 41) : Txt.splitMax ⟨(c :: 41 :: rest).toArray⟩ ⟨#[41]⟩ 1 = [⟨#[c]⟩, ⟨rest.toArray⟩] := by
  have hl : (⟨(c :: 41 :: rest).toArray⟩ : Str).length = rest.length + 2 := by show (c :: 41 :: rest).toArray.size = _; simp
  unfold Txt.splitMax
  have ho : occurrences ⟨(c :: 41 :: rest).toArray⟩ ⟨#[41]⟩ 0 (⟨(c :: 41 :: rest).toArray⟩ : Str).length (limitOf ⟨(c :: 41 :: rest).toArray⟩ 1) = [1] := by
    have hle := StrLaws.occ_length_le ⟨(c :: 41 :: rest).toArray⟩ ⟨#[41]⟩ 0 (⟨(c :: 41 :: rest).toArray⟩ : Str).length 1
    have e1 : limitOf ⟨(c :: 41 :: rest).toArray⟩ 1 = 1 := rfl
    rw [e1]
    have a1 : StrLaws.At ⟨(c :: 41 :: rest).toArray⟩ ⟨#[41]⟩ (⟨(c :: 41 :: rest).toArray⟩ : Str).length 1 := ⟨by rw [hl]; show 1 + 1 ≤ _; omega, by simp [subAt, Str.length]⟩
    rcases StrLaws.occ_head ⟨(c :: 41 :: rest).toArray⟩ ⟨#[41]⟩ 1 (Nat.le_refl 1) with ⟨_, hn⟩ | ⟨i, r, h0, hi, hn⟩
    · exact absurd a1 (hn 1)
    · rw [h0] at hle ⊢
      have hr : r = [] := by cases r with | nil => rfl | cons _ _ => simp at hle
      subst hr
      have : i = 1 := by
        rcases Nat.lt_trichotomy i 1 with q | q | q
        · have : i = 0 := by omega
          subst this
          have := hi.2
          simp [subAt, Str.length] at this
          exact absurd this hc
        · exact q
        · exact absurd a1 (hn 1 q)
      rw [this]
  rw [if_neg, ho, if_neg (by decide)]
  · rw [StrLaws.partsBetween_eq]
    simp only [StrLaws.partsFrom, hl]
    have e1 : strSub ⟨(c :: 41 :: rest).toArray⟩ 0 1 = ⟨#[c]⟩ := by
      apply Str.ext'; apply Array.toList_inj.mp; simp [strSub]
    have e2 : strSub ⟨(c :: 41 :: rest).toArray⟩ (1 + (⟨#[41]⟩ : Str).length) (rest.length + 2) = ⟨rest.toArray⟩ := by
      apply Str.ext'; apply Array.toList_inj.mp; simp [strSub, Str.length]
    rw [e1, e2]
  · have h1 : ¬ ((⟨(c :: 41 :: rest).toArray⟩ : Str).length < (⟨#[41]⟩ : Str).length) := by rw [hl]; show ¬ _ < 1; omega
    have h2 : ¬ (PySem.Builtin.Str.strKind ⟨(c :: 41 :: rest).toArray⟩ < PySem.Builtin.Str.strKind ⟨#[41]⟩) := by
      rw [show PySem.Builtin.Str.strKind ⟨#[41]⟩ = 1 from by decide +kernel]
      unfold PySem.Builtin.Str.strKind
      split
      · decide
      · split <;> decide
    simp [h1, h2]
end
section
open PySem.Builtin PySem.Builtin.Str
theorem sub_none {k : Nat} {r : List Nat} : ∀ {s : List Nat}, (∀ c ∈ s, c ≠ k) → (k :: r).isSublist s = false
  | [], _ => rfl
  | c :: s, h => by
    have : (k == c) = false := beq_eq_false_iff_ne.mpr fun e => h c (.head _) e.symm
    rw [List.isSublist]; simp only [this, Bool.false_eq_true, if_false]
    exact sub_none fun d hd => h d (.tail _ hd)
theorem sub_found {k : Nat} {r post : List Nat} : ∀ {pre : List Nat}, (∀ c ∈ pre, c ≠ k) → (k :: r).isSublist (pre ++ k :: post) = r.isSublist post
  | [], _ => by rw [List.nil_append, List.isSublist]; simp
  | c :: s, h => by
    have : (k == c) = false := beq_eq_false_iff_ne.mpr fun e => h c (.head _) e.symm
    rw [List.cons_append, List.isSublist]; simp only [this, Bool.false_eq_true, if_false]
    exact sub_found fun d hd => h d (.tail _ hd)
structure TkInv (ls ws ks : List Nat) (p : Nat) : Prop where
  len : ks.length ≤ ls.length
  ok : ∀ c ∈ ks, c ≠ 41
  at_ : p ≤ ws.length + 2
  eq : ks.isSublist ((65 :: (ws ++ [65])).drop p) = ls.isSublist (ws ++ [65])
theorem tk_start {ls ws : List Nat} (h : ∀ c ∈ ls, c ≠ 41) : TkInv ls ws ls 1 := ⟨Nat.le_refl _, h, by omega, rfl⟩
theorem tk_done {ls ws : List Nat} {p : Nat} (I : TkInv ls ws [] p) : ls.isSublist (ws ++ [65]) = true := by rw [← I.eq]; cases ((65 :: (ws ++ [65])).drop p) <;> rfl
theorem fromIdx {n p : Nat} : fromIndex n (p : Int) = p := by unfold fromIndex; split <;> omega
theorem getD_nm {ws : List Nat} {v : Nat} : (nmS ws).cps.getD v 0 = (65 :: (ws ++ [65])).getD v 0 := by
  simp [nmS, List.getD]
section
variable {prog : Program} {w : World} {A : Around} {E : Value → Shared → Prop} {s : Shared} {h₀ : Heap} {L : Addr} {m : Str → Option Value} {news : List (Addr × Obj)}
theorem find_case {ls ws r : List Nat} {k p : Nat} {t u v : Tok} {Q : Value → Shared → Prop} (I : TkInv ls ws (k :: r) p)
    (h1 : ls.isSublist (ws ++ [65]) = false → ∀ t k, Q (.int (-1) t) { s with toks := k }) (h2 : ∀ (q : Nat), TkInv ls ws r (q + 1) → q ≤ ws.length + 2 → ∀ t k, Q (.int (q : Int) t) { s with toks := k }) :
    wpAny (model prog w) A (call (.builtin "str.find") [.str (nmS ws) t, .str ⟨#[k]⟩ u, .int (p : Int) v]) Q E s := by
  refine SC.find3 ?_
  have hL := nm_size ws
  rcases StrLaws.find3_spec (nmS ws) k (p : Int) with ⟨e, hn⟩ | ⟨q, e, ha, hb, hc, hn⟩
  · rw [e]
    refine h1 ?_ _ _
    rw [← I.eq]
    refine sub_none fun c hc q => ?_
    obtain ⟨i, hi, e⟩ := List.mem_iff_getElem.mp hc
    rw [List.getElem_drop] at e
    rw [List.length_drop] at hi
    refine hn (p + i) (by rw [fromIdx]; omega) (by rw [hL]; simp at hi; omega) ?_
    rw [getD_nm, ← q, ← e, List.getD_eq_getElem?_getD, List.getElem?_eq_getElem (by omega)]; rfl
  · rw [e]
    rw [fromIdx] at ha hn
    refine h2 q ⟨Nat.le_of_succ_le I.len, fun c h => I.ok c (.tail _ h), by omega, ?_⟩ (by omega) _ _
    rw [← I.eq]
    have hq : q < (65 :: (ws ++ [65])).length := by simp; omega
    have hd : (65 :: (ws ++ [65])).drop p = ((65 :: (ws ++ [65])).drop p).take (q - p) ++ k :: (65 :: (ws ++ [65])).drop (q + 1) := by
      have e1 : (65 :: (ws ++ [65]))[q] = k := by
        rw [getD_nm, List.getD_eq_getElem?_getD, List.getElem?_eq_getElem hq] at hc
        exact hc
      have e2 : k :: (65 :: (ws ++ [65])).drop (q + 1) = ((65 :: (ws ++ [65])).drop p).drop (q - p) := by
        rw [List.drop_drop, show p + (q - p) = q by omega, List.drop_eq_getElem_cons hq, e1]
      rw [e2, List.take_append_drop]
    rw [hd]
    refine (sub_found fun c hc' => ?_).symm
    obtain ⟨i, hi, e⟩ := List.mem_iff_getElem.mp hc'
    rw [List.length_take, List.length_drop] at hi
    rw [List.getElem_take, List.getElem_drop] at e
    have := hn (p + i) (by omega) (by omega)
    rw [getD_nm, List.getD_eq_getElem?_getD, List.getElem?_eq_getElem (by omega), e] at this
    exact this
end
end
section
variable {prog : Program} {w : World} {A : Around} {E : Value → Shared → Prop} {s : Shared} {h₀ : Heap} {L : Addr} {m : Str → Option Value} {news : List (Addr × Obj)}
theorem split_case {k : Nat} {r : List Nat} {t u v : Tok} {Q : Value → Shared → Prop} (hF : Fr h₀ L s.heap m) (hN : News h₀ L s.heap news) (hk : k ≠ 41) (hr : r.length ≤ 400)
    (h : ∀ D t1 t2 h' tk, Fr h₀ L h' m → News h₀ L h' ((D, listOf #[.str ⟨#[k]⟩ t1, .str (rtS r) t2] 0) :: news) → Q (.ref D) { s with heap := h', toks := tk }) :
    wpAny (model prog w) A (call (.builtin "str.split") [.str ⟨(k :: 41 :: Rtx (r ++ [65])).toArray⟩ t, .str (Str.ofString ")") u, .int 1 v]) Q E s := by
  have e0 : Str.ofString ")" = ⟨#[41]⟩ := by decide +kernel
  rw [e0]
  refine splitN2A hF hN rfl (by decide) (fun l h' tk e _ _ _ F N => ?_) ?_
  · rw [split_tk _ hk] at e
    obtain ⟨t1, l1, q1, e1⟩ := KSpl.cons_of e
    obtain ⟨t2, l2, q2, e2⟩ := KSpl.cons_of e1
    have q3 := KSpl.nil_of e2
    subst q3; subst q2; subst q1
    exact h _ t1 t2 h' tk F N
  · have := rtx_size r
    show (k :: 41 :: Rtx (r ++ [65])).toArray.size + 2 ≤ _
    rw [List.size_toArray, sizeLine_eq]; simp only [List.length_cons, this]; omega
section
variable {value slice : PySem.Expr} {x y : Str} {t : Tok} {i j : Int} {ui uj : Tok} {Q : Value → Shared → Prop}
theorem cutN_ns (hF : Fr h₀ L s.heap m) (hN : News h₀ L s.heap news) (e : Txt.slice x none (some j) = y) (hz : x.length ≤ 16777216) (h : ∀ h' t' k, Fr h₀ L h' m → News h₀ L h' news → Q (.str y t') { s with heap := h', toks := k })
    (hs : subscripted slice false (.str x t) (.ref s.heap.objs.size) = operate [.ref s.heap.objs.size, .str x t] (getItem (.str x t) (.ref s.heap.objs.size)) := by with_unfolding_all rfl)
    (ht : ∀ r, letTemporaryGo value (.str x t) r = pure () := by intro _; with_unfolding_all rfl) :
    wpAny (model prog w) A (subscriptTail value slice (.str x t) (.ref s.heap.objs.size)) Q E { s with heap := s.heap.push { cls := .type "slice", data := .fields #[.none, .int j uj, .none] } } :=
  slice_strN_ns hF hN (e ▸ h) hs ht (by rw [sizeLine_eq]; exact Nat.le_trans hz (by decide))
theorem cutN_sn (hF : Fr h₀ L s.heap m) (hN : News h₀ L s.heap news) (e : Txt.slice x (some i) none = y) (hz : x.length ≤ 16777216) (h : ∀ h' t' k, Fr h₀ L h' m → News h₀ L h' news → Q (.str y t') { s with heap := h', toks := k })
    (hs : subscripted slice false (.str x t) (.ref s.heap.objs.size) = operate [.ref s.heap.objs.size, .str x t] (getItem (.str x t) (.ref s.heap.objs.size)) := by with_unfolding_all rfl)
    (ht : ∀ r, letTemporaryGo value (.str x t) r = pure () := by intro _; with_unfolding_all rfl) :
    wpAny (model prog w) A (subscriptTail value slice (.str x t) (.ref s.heap.objs.size)) Q E { s with heap := s.heap.push { cls := .type "slice", data := .fields #[.int i ui, .none, .none] } } :=
  slice_strN_sn hF hN (e ▸ h) hs ht (by rw [sizeLine_eq]; exact Nat.le_trans hz (by decide))
theorem cutN_ss (hF : Fr h₀ L s.heap m) (hN : News h₀ L s.heap news) (e : Txt.slice x (some i) (some j) = y) (hz : x.length ≤ 16777216) (h : ∀ h' t' k, Fr h₀ L h' m → News h₀ L h' news → Q (.str y t') { s with heap := h', toks := k })
    (hs : subscripted slice false (.str x t) (.ref s.heap.objs.size) = operate [.ref s.heap.objs.size, .str x t] (getItem (.str x t) (.ref s.heap.objs.size)) := by with_unfolding_all rfl)
    (ht : ∀ r, letTemporaryGo value (.str x t) r = pure () := by intro _; with_unfolding_all rfl) :
    wpAny (model prog w) A (subscriptTail value slice (.str x t) (.ref s.heap.objs.size)) Q E { s with heap := s.heap.push { cls := .type "slice", data := .fields #[.int i ui, .int j uj, .none] } } :=
  slice_strN_ss hF hN (e ▸ h) hs ht (by rw [sizeLine_eq]; exact Nat.le_trans hz (by decide))
end
section
variable {env : Env}
theorem wl3 {test : Expr} {body : List Stmt} {pos : Pos} {m₀ : Str → Option Value} {Q : Flow → Shared → Prop} {ls ws : List Nat} {t1 t2 : Tok} (stored : List Str)
    (FF : Fr h₀ L s.heap m₀) (NN : News h₀ L s.heap news) (hi : m₀ "rest" = some (.str (rtS ls) t1)) (hj : m₀ "place" = some (.int 1 t2)) (h0 : ∀ c ∈ ls, c ≠ 41)
    (turn : ∀ (ks : List Nat) (q : Nat) (t u : Tok) (uu : Str → Option Value) h tk, TkInv ls ws ks q → Fr h₀ L h (fun z => if z = "rest" then some (.str (rtS ks) t) else if z = "place" then some (.int (q : Int) u) else if stored.contains z then uu z else m₀ z) → News h₀ L h news →
      wpAny (model prog w) A (isTrue test env (eval test env)) (fun bb s₂ => if bb = true then wpAny (model prog w) A (execs body env)
        (KswPost h₀ L s (fun (c : List Nat × Nat × Tok × Tok) => news) (fun c => [("rest", .str (rtS c.1) c.2.2.1), ("place", .int (c.2.1 : Int) c.2.2.2)]) (fun _ => True) stored m₀ (fun c => TkInv ls ws c.1 c.2.1) (fun c => c.1.length) Q (ks, q, t, u)) E s₂ else Q .next s₂) E { s with heap := h, toks := tk })
    (hE : PassesOwn (model prog w) A env E := by passes_own) :
    wpAny (model prog w) A (exec (.While test body [] pos) env) Q E s := by
  refine ksw_while (σ := List Nat × Nat × Tok × Tok) (fun c => news) (fun c => [("rest", .str (rtS c.1) c.2.2.1), ("place", .int (c.2.1 : Int) c.2.2.2)]) (fun _ => True) stored (fun c => TkInv ls ws c.1 c.2.1) (fun c => c.1.length) (ls, 1, t1, t2) FF NN trivial ?_ (tk_start h0) ?_ hE
  · intro p hp
    rcases List.mem_cons.mp hp with rfl | hp
    · exact hi
    · rw [List.mem_singleton.mp hp]; exact hj
  · intro c u h tk _ hP F' N'
    exact turn c.1 c.2.1 c.2.2.1 c.2.2.2 u h tk hP F' N'
end
end
local macro_rules | `(tactic| walk_at "storeName") => `(tactic| (k_here; (try dsimp only); k_dflt (refine' my_store ?F ?N ?_ ?a ?b; (case F => k_asm); (case N => k_asm); (case a => rfl); (case b => rfl); k_whole); intro h' tk' kM F' N'; (try k_sweep)))
local macro_rules | `(tactic| k_all) => `(tactic| assumption)
theorem fit_jt {ks : List Nat} (h : ks.length ≤ 400) : (jtS ks).length ≤ 16777216 := by rw [jt_size]; omega
theorem fit_rt {ks : List Nat} (h : ks.length ≤ 400) : (rtS ks).length ≤ 16777216 := by rw [rt_size]; omega
theorem fit_rt0 : (rtS []).length ≤ 16777216 := by decide +kernel
theorem fit_rt1 {k : Nat} {r : List Nat} (h : r.length ≤ 400) : (rtS (k :: r)).length ≤ 16777216 := by rw [rt_size, List.length_cons]; omega
theorem fit_nm {ws : List Nat} (h : ws.length ≤ 400) : (nmS ws).length ≤ 16777216 := by rw [nm_size]; omega
local macro_rules | `(tactic| walk_at "tk_cut") => `(tactic| with_reducible first | exact cut_mid _ | exact cut_front _ | exact cut_back _ | exact cut_six _ _ | exact cut_six0 | exact cut_rest _ _ | exact cut_one _ | exact cut_end _)
local macro_rules | `(tactic| walk_at "tk_fit") => `(tactic| with_reducible first | exact fit_jt (by assumption) | exact fit_rt0 | exact fit_rt (by assumption) | exact fit_rt1 (by assumption) | exact fit_nm (by assumption))
local macro_rules | `(tactic| walk_at "subscriptTail Name Slice str ref") => `(tactic| (k_here; (with_reducible rename Fr _ _ _ _ => F'); (with_reducible rename News _ _ _ _ => N'); (first
  | ((with_reducible show wpAny _ _ (subscriptTail _ (Expr.Slice (some _) (some _) none _) _ _) _ _ _); k_dflt (refine' cutN_ss (s := ⟨_, _, _, _, _⟩) F' N' ?e ?z ?_ ?a ?b; (case e => walk_at "tk_cut"); (case z => walk_at "tk_fit"); (case a => with_unfolding_all rfl); (case b => (intro _; with_unfolding_all rfl))))
  | ((with_reducible show wpAny _ _ (subscriptTail _ (Expr.Slice none (some _) none _) _ _) _ _ _); k_dflt (refine' cutN_ns (s := ⟨_, _, _, _, _⟩) F' N' ?e ?z ?_ ?a ?b; (case e => walk_at "tk_cut"); (case z => walk_at "tk_fit"); (case a => with_unfolding_all rfl); (case b => (intro _; with_unfolding_all rfl))))
  | ((with_reducible show wpAny _ _ (subscriptTail _ (Expr.Slice (some _) none none _) _ _) _ _ _); k_dflt (refine' cutN_sn (s := ⟨_, _, _, _, _⟩) F' N' ?e ?z ?_ ?a ?b; (case e => walk_at "tk_cut"); (case z => walk_at "tk_fit"); (case a => with_unfolding_all rfl); (case b => (intro _; with_unfolding_all rfl))))); intro h9 t9 k9 F9 N9))
local macro_rules | `(tactic| walk_at "call builtin:str.find") => `(tactic| (k_here; k_dflt (refine' find_case (by assumption) ?f1 ?f2); (case' f1 => intro hz t9 k9); (case' f2 => intro q9 I9 hq9 t9 k9)))
local macro_rules | `(tactic| walk_at "call builtin:str.split") => `(tactic| (k_here; k_dflt (refine' split_case ?k1 ?k2 ?k3 ?k4 ?_; (case k1 => k_asm); (case k2 => k_asm); (case k3 => assumption); (case k4 => assumption)); intro D9 t8 t9 h9 k9 F9 N9; (try k_fold)))
local macro_rules | `(tactic| walk_at "compareOp Eq str str") => `(tactic| first | (refine eq_lit true ?hx ?_; (case hx => k_dflt (decide +kernel))) | (refine eq_lit false ?hx ?_; (case hx => k_dflt (decide +kernel))))
theorem wl3_end {s : Shared} {h₀ h' : Heap} {L : Addr} {m₀ m' : Str → Option Value} {news : List (Addr × Obj)} {x : Addr × Obj} {ls ws r : List Nat} {k q q9 tk : Nat} {t u t' u' : Tok} (FF : Fr h₀ L h' m') (N : News h₀ L h' (x :: news)) (I9 : TkInv ls ws r (q9 + 1)) (hi : m' "rest" = some (.str (rtS r) t')) (hj : m' "place" = some (.int ((q9 : Int) + 1) u'))
    (hs : ∀ z : Str, z ≠ "rest" → z ≠ "place" → [Str.ofString "piece", Str.ofString "found"].contains z = false → m' z = m₀ z) :
    KswEnd h₀ L s (fun (c : List Nat × Nat × Tok × Tok) => news) (fun c => [("rest", .str (rtS c.1) c.2.2.1), ("place", .int (c.2.1 : Int) c.2.2.2)]) (fun _ => True) [Str.ofString "piece", Str.ofString "found"] m₀ (fun c => TkInv ls ws c.1 c.2.1) (fun c => c.1.length) (k :: r, q, t, u) { s with heap := h', toks := tk } := by
  refine ksw_end (r, q9 + 1, t', u') FF N (fun _ h => .tail _ h) trivial ?_ ?_ I9 (Nat.lt_succ_self _)
  · intro p hp
    rcases List.mem_cons.mp hp with rfl | hp
    · exact hi
    · rw [List.mem_singleton.mp hp]; exact hj
  · intro z h2 h3
    exact hs z (h2 _ (.head _)) (h2 _ (.tail _ (.head _))) h3
theorem tk_ok {ls ws r : List Nat} {k q : Nat} (I : TkInv ls ws (k :: r) q) : k ≠ 41 := I.ok k (.head _)
theorem tk_short {ls ws r : List Nat} {k q : Nat} (I : TkInv ls ws (k :: r) q) (h : ls.length ≤ 400) : r.length ≤ 400 := Nat.le_trans (Nat.le_of_succ_le I.len) h
local macro_rules | `(tactic| walk_at "binaryOp Add str str") => `(tactic| (refine KOpn.add (by k_dflt (decide +kernel)) ?_; intro t9 k9 z9; clear z9))
theorem c_takes {prog : Program} {w : World} {p : Program} {loose : List Str} {mean : ExcName → Option Value} {mg mb : Str → Option Value} (news : List (Addr × Obj)) (ls ws : List Nat) (t u : Tok) :
   CbClaim prog w (heapK w.params) p loose mean mg mb 111 news [] (ls.length ≤ 400 ∧ ws.length ≤ 400 ∧ ∀ c ∈ ls, c ≠ 41) [.str (jtS ls) t, .str (nmS ws) u] (fun _ => .bool (ls.isSublist (ws ++ [65]))) := by
  dsimp only [CbClaim, CbLists, CbRet]; intros; rename_i hret
  obtain ⟨hl1, hl2, hl3⟩ := (by assumption : ls.length ≤ 400 ∧ ws.length ≤ 400 ∧ ∀ c ∈ ls, c ≠ 41)
  refine wpAny_call ?_
  k_dflt cell_enter
  refine let_env ?_
  intro env A
  k_with_none
  (k_with "exec While Compare cons nil" => (k_dflt (refine' wl3 (ls := ls) (ws := ws) [Str.ofString "piece", Str.ofString "found"] ?F ?N ?i ?j ?h0 ?_; (case F => k_asm); (case N => k_asm); (case i => rfl); (case j => rfl); (case h0 => exact hl3)); intro ks q t u uu h tk I F' N'; (rcases ks with _ | ⟨k, r⟩); all_goals (try (have hk := tk_ok I; have hr := tk_short I hl1)); all_goals (try k_fold)))
  k_steps
  · rw [tk_done I] at hret
    exact hret t _ _ (by assumption) (news_tail (by assumption))
  · refine wl3_end (by assumption) (by assumption) (by assumption : TkInv ls ws r (_ + 1)) rfl rfl ?_
    intro z h4 h5 h6
    dsimp +zetaDelta only
    have h7 : z ≠ Str.ofString "piece" := fun e => by subst e; revert h6; decide +kernel
    have h8 : z ≠ Str.ofString "found" := fun e => by subst e; revert h6; decide +kernel
    simp only [if_neg h4, if_neg h5, if_neg h7, if_neg h8, h6, Bool.false_eq_true, if_false]
  · rw [(by assumption : ls.isSublist (ws ++ [65]) = false)] at hret
    exact hret t _ _ (by assumption) (news_tail (news_tail (by assumption)))
end Mine
end

section
set_option maxHeartbeats 400000
namespace Mine
open PySem PySem.Calls PyProof.Rows PyProof.V PySem.Spec
section
open Builtin
theorem road_ascii {id : String} {b : Array UInt8} : _codecs.decodeRoad id b (PySem.Str.ofString "ascii") none [] = (_codecs.runDecoder id _codecs.asciiDecoder none true b 0 [] >>= fun r => mkStr ⟨r.1⟩) := by kernel_rfl
theorem meets_ascii {b : Array UInt8} {t : Tok} {n : Nat} {x : Str} {t1 t2 : Tok} {d : PySem.Str} (hd : ∀ id, _codecs.runDecoder id _codecs.asciiDecoder none true b 0 [] = pure (x.cps, n)) :
    Meets («_codecs.decode.text» ⟨[.bytes b t, .str (PySem.Str.ofString "ascii") t1, .none, .str d t2], []⟩) (fun _ R s => x.length ≤ sizeLine ∧ R (.ok (.ret (.str x s.toks))) { s with toks := s.toks + 1 }) := by
  refine .of_wp fun prog w A R s hS => ?_
  obtain ⟨hsz, h⟩ := hS
  show wpAny _ _ (Bytes.bytesLike _ (.bytes b t) >>= fun r => _) _ _ s
  refine wpAny_bind (wpAny_of_eq KBd.like_eq ?_)
  refine wpAny_bind (wpAny_of_eq KBd.held_eq ?_)
  show wpAny _ _ (_codecs.decodeRoad _ b (PySem.Str.ofString "ascii") none [] >>= fun v => _) _ _ s
  rw [road_ascii, hd]
  refine wpAny_bind (wpAny_bind (wpAny_pure ?_))
  exact wpAny_mkStr (wpAny_pure ⟨_, rfl, h⟩) hsz
theorem entry_ascii {c : UInt8} {cs : List UInt8} {t u : Tok} : «bytes.decode» ⟨[.bytes (c :: cs).toArray t, .str (PySem.Str.ofString "ascii") u], []⟩ = (mkStr (PySem.Str.ofString "utf-8") >>= fun _ => mkStr (PySem.Str.ofString "ascii") >>= fun e => mkStr (PySem.Str.ofString "bytes.decode") >>= fun d =>
    call (.builtin "_codecs.decode.text") [.bytes (c :: cs).toArray t, e, .none, d] >>= fun v => ret v) := by kernel_rfl
theorem entry_ascii0 {t u : Tok} : «bytes.decode» ⟨[.bytes #[] t, .str (PySem.Str.ofString "ascii") u], []⟩ = (rule "bytes.decode.empty" >>= fun _ => retStr Str.empty) := by kernel_rfl
theorem args_decode_2 (a b : Value) : argsOk "bytes.decode" ⟨[a, b], []⟩ := by
  unfold argsOk; rw [signature?_of (id := "bytes.decode") (n := ['e', 'd', 'o', 'c', 'e', 'd']) (o := ['s', 'e', 't', 'y', 'b']) (by kernel_rfl) FB.owner_bytes]; kernel_rfl
theorem run_ascii {id : String} (l : List UInt8) (h : ∀ c ∈ l, c.toNat < 128) (hl : l.length ≤ 400) : _codecs.runDecoder id _codecs.asciiDecoder none true l.toArray 0 [] = pure ((l.map (·.toNat)).toArray, l.length) := by
  have key : ∀ (f : Nat → Nat × Array Nat × _codecs.Faults → Sem (ForInStep (Nat × Array Nat × _codecs.Faults))),
      (∀ i p out, p < l.length → out.size ≤ 400 → f i (p, out, {}) = pure (.yield (p + 1, out ++ #[(l.toArray.getD p 0).toNat], {}))) →
      ∀ (n p i : Nat) (out : Array Nat), p + n = l.length → out.toList = (l.map (·.toNat)).take p → forIn (m := Sem) (List.range' i n) (p, out, ({} : _codecs.Faults)) f = pure (l.length, (l.map (·.toNat)).toArray, {}) := by
    intro f hf n
    induction n with
    | zero =>
      intro p i out hp ho
      have : p = l.length := by omega
      subst this
      rw [List.take_of_length_le (by simp)] at ho
      simp only [List.range'_zero, List.forIn_nil, ← ho]
    | succ n ih =>
      intro p i out hp ho
      have hp' : p < l.length := by omega
      rw [List.range'_succ, List.forIn_cons, hf i p out hp' (by rw [← Array.length_toList, ho, List.length_take]; omega), pure_bind]
      refine ih (p + 1) (i + 1) _ (by omega) ?_
      rw [Array.toList_append, ho, List.take_succ_eq_append_getElem (by simpa using hp')]
      simp [Array.getD, hp']
  have hf : ∀ p, p < l.length → _codecs.asciiDecoder.find true l.toArray p = _codecs.Found.text [(l.toArray.getD p 0).toNat] (p + 1) := by
    intro p hp
    show (if (l.toArray.getD p 0).toNat < 128 then _ else _) = _
    rw [if_pos (by simp [Array.getD, hp]; exact h _ (List.getElem_mem _))]
    rfl
  unfold _codecs.runDecoder
  simp only [Std.Legacy.Range.forIn_eq_forIn_range', Std.Legacy.Range.size]
  rw [key _ ?_ _ 0 0 #[] (by simp) (by simp)]
  · rw [pure_bind]
  · intro i p out hp ho
    have h2 : ¬ out.size > sizeLine := by rw [sizeLine_eq]; omega
    have h3 : ¬ p ≥ l.toArray.size := by simp; omega
    simp only [h2, h3, if_false, hf p hp]
theorem decode_ascii {prog : Program} {w : World} {A : Around} {E : Value → Shared → Prop} {s : Shared} {l : List UInt8} {t u : Tok} {Q : Value → Shared → Prop} (hc : ∀ c ∈ l, c.toNat < 128) (hl : l.length ≤ 400) (h : ∀ t' k, Q (.str ⟨(l.map (·.toNat)).toArray⟩ t') { s with toks := k }) :
    wpAny (model prog w) A (call (.builtin "bytes.decode") [.bytes l.toArray t, .str (Str.ofString "ascii") u]) Q E s := by
  have hm : Meets («bytes.decode» ⟨[.bytes l.toArray t, .str (PySem.Str.ofString "ascii") u], []⟩) (fun _ R s => ∀ t' k, R (.ok (.ret (.str ⟨(l.map (·.toNat)).toArray⟩ t'))) { s with toks := k }) := by
    refine .of_wp fun prog w A R s hS => ?_
    cases l with
    | nil =>
      rw [entry_ascii0]
      refine wpAny_bind (wpAny_rule ?_)
      unfold retStr
      refine wpAny_bind (wpAny_mkStr (wpAny_pure ⟨_, rfl, hS _ _⟩) (Nat.zero_le _))
    | cons c cs =>
      rw [entry_ascii]
      refine wpAny_bind (wpAny_mkStr ?_ (by decide))
      refine wpAny_bind (wpAny_mkStr ?_ (by decide))
      refine wpAny_bind (wpAny_mkStr ?_ (by decide))
      refine wpAny_bind (call_function_meets KBd.kind_text KBd.plain_text KBd.entry_text (KBd.args_text _ _ _ _) (meets_ascii (fun id => run_ascii (c :: cs) hc hl)) ⟨?_, wpAny_pure ⟨_, rfl, hS _ _⟩⟩)
      show ((c :: cs).map (·.toNat)).toArray.size ≤ _
      rw [List.size_toArray, List.length_map, sizeLine_eq]; omega
  exact call_meets FB.slot_bytes_decode (typeIs_bytes _ _ _) FB.entry_bytes_decode (args_decode_2 _ _) hm h
end
end Mine
end

section
set_option maxHeartbeats 400000
namespace Mine
open PySem PySem.Calls PyProof.Rows PyProof.V PySem.Spec
def starJ : List Nat → List Nat
  | [] => []
  | [c] => [c]
  | c :: d :: r => c :: 42 :: starJ (d :: r)
section
open Builtin Builtin.Str
theorem star_join : ∀ l : List Nat, (Str.join (Str.ofString "*") (l.map fun c => ⟨#[c]⟩)).cps.toList = starJ l
  | [] => rfl
  | [c] => rfl
  | c :: d :: r => by
    have ih := star_join (d :: r)
    have e2 : (Str.ofString "*").cps = #[42] := by decide +kernel
    show (#[c] ++ (Str.ofString "*").cps ++ (Str.join (Str.ofString "*") ((d :: r).map fun c => ⟨#[c]⟩)).cps).toList = _
    rw [e2, Array.toList_append, ih]
    rfl
theorem of_items {l : List Nat} {lt : List (Str × Tok)} (h : ItemsOf (SignAt ⟨l.toArray⟩) (strValues lt).toArray l.length) : lt.map (·.1) = l.map fun c => ⟨#[c]⟩ := by
  have hsz : lt.length = l.length := by simpa [strValues] using h.1
  apply List.ext_getElem?
  intro j
  by_cases hj : j < lt.length
  · obtain ⟨c, u, hc, hv⟩ := h.2 j (.str lt[j].1 lt[j].2) (by simp [strValues, List.getElem?_eq_getElem hj])
    injection hv with h1 _
    have hc' : l[j]? = some c := by simpa using hc
    simp [List.getElem?_eq_getElem hj, hc', h1]
  · rw [List.getElem?_eq_none (by simpa using Nat.le_of_not_lt hj), List.getElem?_eq_none (by simpa [← hsz] using Nat.le_of_not_lt hj)]
theorem join_str {prog : Program} {w : World} {A : Around} {E : Value → Shared → Prop} {s : Shared} {h₀ : Heap} {L : Addr} {m : Str → Option Value} {news : List (Addr × Obj)} {l : List Nat} {t u : Tok} {Q : Value → Shared → Prop} (hh : A.handled = none) (FF : Fr h₀ L s.heap m) (N : News h₀ L s.heap news) (hc : ∀ c ∈ l, c < 128) (hl : l.length ≤ 400)
    (h : ∀ h' t' k, Fr h₀ L h' m → News h₀ L h' news → Q (.str ⟨(starJ l).toArray⟩ t') { s with heap := h', toks := k }) :
    wpAny (model prog w) A (call (.builtin "str.join") [.str (Str.ofString "*") t, .str ⟨l.toArray⟩ u]) Q E s := by
  refine wpAny_call (codeAny_call_builtin F.slot_str_join.plain PySem.F.entry_str_join (F.slot_str_join.check _ _ _ _ _ _ _ _ (typeIs_str _ _ _) (F.args_str_join_2 _ _) ?_))
  unfold «str.join»
  refine wpAny_bind (wpAny_of_eq (a := (_, Str.ofString "*", .str ⟨l.toArray⟩ u)) rfl ?_)
  dsimp only
  refine wpAny_bind (wpAny_typeOf (typeIs_str _ _ _) ?_)
  rw [if_neg (by decide)]
  show wpAny _ _ ((pyIter (.str ⟨l.toArray⟩ u)).tryCatch _ >>= fun it => collect it >>= fun items => joinTail _ items) _ _ _
  refine wpAny_bind (wpAny_tryCatch (wpAny_pyIter_ascii (by simpa using hc) ?_))
  refine wpAny_bind (wpAny_collect_strIter hh (.inl rfl) ⟨_, Heap.get?_push_size _ rfl, rfl, rfl⟩ (fun s' acc hk hg hd ho hacc => ?_) (by show l.toArray.size ≤ _; rw [List.size_toArray, sizeLine_eq]; omega))
  obtain ⟨lt, hlt⟩ := exists_strValues acc.toList fun v hv => by
    obtain ⟨j, hj, rfl⟩ := Array.mem_iff_getElem.mp (Array.mem_toList_iff.mp hv)
    obtain ⟨c, u, _, e⟩ := hacc.2 j _ (Array.getElem?_eq_getElem hj)
    exact ⟨_, u, e⟩
  rw [← hlt]
  have e := of_items (l := l) (lt := lt) (by rw [hlt]; simpa using hacc)
  have hsum : ((lt.map (·.1)).map (·.length)).sum = l.length := by
    rw [e]
    clear e hlt hacc hl hc h
    have ih : ∀ l : List Nat, ((l.map fun c => (⟨#[c]⟩ : Str)).map (·.length)).sum = l.length := fun l => by
     induction l with
     | nil => rfl
     | cons c r ih =>
      have e1 : (⟨#[c]⟩ : Str).length = 1 := rfl
      rw [List.map_cons, List.map_cons, List.sum_cons, List.length_cons, e1, ih]
      exact Nat.add_comm _ _
    exact ih l
  have hlen : (lt.map (·.1)).length = l.length := by rw [e]; simp
  have hok : JoinOk (Str.ofString "*") (lt.map (·.1)) = true := joinOk_of (by rw [hsum, hlen, show (Str.ofString "*").length = 1 from by decide +kernel]; omega)
  have hq : Txt.join (Str.ofString "*") (lt.map (·.1)) = ⟨(starJ l).toArray⟩ := by
    rw [e]
    have := star_join l
    exact (StrLaws.glued_eq_join _ _).trans (by rw [← this])
  unfold JoinOk at hok
  rw [Bool.not_eq_true'] at hok
  have g : Gives (joinTail (Str.ofString "*") (strValues lt)) (joinMade (Str.ofString "*") lt) := by
    have g0 := gives_joinTail (Str.ofString "*") lt hok
    cases lt with
    | nil => exact g0
    | cons p r => cases r with
      | nil => exact g0
      | cons q r' => exact g0
  refine g prog w A (wants Q E) s' (post_join lt ⟨joinFit_length hok, fun t' k => ?_⟩)
  rw [hq]
  have hk' : ∀ b o, s.heap.get? b = some o → s'.heap.get? b = some o := fun b o e => hk b o (fun q => absurd (Heap.lt_size e) (q ▸ Nat.lt_irrefl _)) (Heap.get?_push_of_some _ e)
  have key := h s'.heap t' k (FF.keeps hk') (fun p hp => ⟨hk' _ _ (N p hp).1, (N p hp).2⟩)
  obtain ⟨hp, g, d, tk, os⟩ := s
  obtain ⟨hp', g', d', tk', os'⟩ := s'
  cases hg; cases hd; cases ho
  exact key
end
end Mine
end

section
set_option maxHeartbeats 800000
namespace Mine
open PySem PySem.Calls PyProof.Rows PyProof.V PySem.Spec
theorem sd_len (x : Int) (st : Nat) : ∀ (pos : Nat) (ns : List Int), (sdGo x st pos ns).length = ns.length := by
  intro pos
  induction pos using Nat.strongRecOn with
  | ind pos ih =>
    intro ns
    rw [sdGo]
    split
    · split
      · rw [ih _ (by omega), List.length_set]
      · rw [List.length_set]
    · rw [List.length_set]
theorem su_len (x : Int) : ∀ (k pos : Nat) (ns : List Int), ns.length - pos ≤ k → (suGo x pos ns).length = ns.length := by
  intro k
  induction k with
  | zero =>
    intro pos ns h
    rw [suGo, dif_neg (by omega), sd_len, List.length_set]
  | succ k ih =>
    intro pos ns h
    rw [suGo]
    split
    · have : pos < suKid pos ns := by unfold suKid; split <;> omega
      rw [ih _ _ (by rw [List.length_set]; omega), List.length_set]
    · rw [sd_len, List.length_set]
/-- one turn of the heap: the top gives place to its two sons -/
def hStep (lo hi : Int) (ns : List Int) : List Int :=
  let x := ns.getD 0 0
  let ms := suGo (x * 16 + lo) 0 (ns.set 0 (x * 16 + lo))
  sdGo (x * 16 + hi) 0 ms.length (ms ++ [x * 16 + hi])
def hRun (lo hi : Int) : Nat → List Int
  | 0 => [0]
  | j + 1 => hStep lo hi (hRun lo hi j)
def hTop (lo hi : Int) (j : Nat) : Int := (hRun lo hi j).getD 0 0
theorem run_len (lo hi : Int) : ∀ j, (hRun lo hi j).length = j + 1
  | 0 => rfl
  | j + 1 => by
    show (hStep lo hi (hRun lo hi j)).length = _
    unfold hStep
    simp only [sd_len, List.length_append, List.length_cons, List.length_nil]
    rw [su_len _ _ _ _ (Nat.le_refl _), List.length_set, run_len lo hi j]
abbrev tupL (xs : Array Value) : Obj := { cls := .type "tuple", data := .seq xs }
def ltN (n : Nat) : List Nat := (apL n).map (·.toNat)
/-- the heap's loop: T turns, then the top's word no longer comes out of ws -/
structure Turns (lo hi : Int) (ws : List Nat) (T : Nat) : Prop where
  yes : ∀ j, j < T → (ltN (hTop lo hi j).natAbs).isSublist (ws ++ [65]) = true
  no : (ltN (hTop lo hi T).natAbs).isSublist (ws ++ [65]) = false
  size : ∀ j, j ≤ T → 0 ≤ hTop lo hi j ∧ (hTop lo hi j).natAbs < 16 ^ 7
  few : T ≤ 500
  short : ws.length ≤ 400
structure TdInv (lo hi : Int) (T j : Nat) (vs : List Value) : Prop where
  le : j ≤ T
  its : IntsAre vs (hRun lo hi j)
section
variable {prog : Program} {w : World} {A : Around} {E : Value → Shared → Prop} {s : Shared} {h₀ : Heap} {L : Addr} {m : Str → Option Value} {news : List (Addr × Obj)} {env : Env}
theorem wl4 {test : Expr} {body : List Stmt} {pos : Pos} {m₀ : Str → Option Value} {Q : Flow → Shared → Prop} (lo hi : Int) (T : Nat) (l : Addr) (n₀ : Nat) (t₀ : Tok) (vs₀ : List Value) (stored : List Str)
    (FF : Fr h₀ L s.heap m₀) (NN : News h₀ L s.heap ((l, listOf vs₀.toArray n₀) :: news)) (hi' : m₀ "taken" = some (.int 0 t₀)) (h0 : IntsAre vs₀ [0])
    (turn : ∀ (j : Nat) (t : Tok) (vs : List Value) (n : Nat) (u : Str → Option Value) h tk, TdInv lo hi T j vs → Fr h₀ L h (fun z => if z = "taken" then some (.int (j : Int) t) else if stored.contains z then u z else m₀ z) → News h₀ L h ((l, listOf vs.toArray n) :: news) →
      wpAny (model prog w) A (isTrue test env (eval test env)) (fun bb s₂ => if bb = true then wpAny (model prog w) A (execs body env)
        (KswPost h₀ L s (fun (c : Nat × Tok × List Value × Nat) => (l, listOf c.2.2.1.toArray c.2.2.2) :: news) (fun c => [("taken", .int (c.1 : Int) c.2.1)]) (fun _ => True) stored m₀ (fun c => TdInv lo hi T c.1 c.2.2.1) (fun c => T - c.1) Q (j, t, vs, n)) E s₂ else Q .next s₂) E { s with heap := h, toks := tk })
    (hE : PassesOwn (model prog w) A env E := by passes_own) :
    wpAny (model prog w) A (exec (.While test body [] pos) env) Q E s := by
  refine ksw_while (σ := Nat × Tok × List Value × Nat) (fun c => (l, listOf c.2.2.1.toArray c.2.2.2) :: news) (fun c => [("taken", .int (c.1 : Int) c.2.1)]) (fun _ => True) stored (fun c => TdInv lo hi T c.1 c.2.2.1) (fun c => T - c.1) (0, t₀, vs₀, n₀) FF NN trivial ?_ ⟨Nat.zero_le _, h0⟩ ?_ hE
  · intro p hp
    rw [List.mem_singleton.mp hp]; exact hi'
  · intro c u h tk _ hP F' N'
    exact turn c.1 c.2.1 c.2.2.1 c.2.2.2 u h tk hP F' N'
end
theorem td_len {lo hi : Int} {ws : List Nat} {T j : Nat} {vs : List Value} (I : TdInv lo hi T j vs) (h : Turns lo hi ws T) : 0 < (hRun lo hi j).length ∧ (hRun lo hi j).length ≤ 999 := by
  have := I.le; have := h.few
  rw [run_len]; omega
local macro_rules | `(tactic| walk_at "storeName") => `(tactic| (k_here; (try dsimp only); k_dflt (refine' my_store ?F ?N ?_ ?a ?b; (case F => k_asm); (case N => k_asm); (case a => rfl); (case b => rfl); k_whole); intro h' tk' kM F' N'; (try k_sweep)))
local macro_rules | `(tactic| k_all) => `(tactic| assumption)
theorem apL_abc : ∀ (k n : Nat), n ≤ k → ∀ c ∈ apL n, 65 ≤ c.toNat ∧ c.toNat ≤ 80
  | k, 0, _, c, hc => by rw [apL_zero] at hc; cases hc
  | 0, n + 1, h, c, hc => by omega
  | k + 1, n + 1, h, c, hc => by
    rw [apL_pos (by omega)] at hc
    rcases List.mem_append.mp hc with q | q
    · exact apL_abc k ((n + 1) / 16) (by omega) c q
    · rw [List.mem_singleton.mp q]
      have : (n + 1) % 16 < 16 := Nat.mod_lt _ (by decide)
      rw [UInt8.toNat_ofNat_of_lt' (by show _ < 256; omega)]
      omega
theorem lt_abc {n : Nat} : ∀ c ∈ ltN n, 65 ≤ c ∧ c ≤ 80 := fun c h => by
  obtain ⟨d, hd, e⟩ := List.mem_map.mp h
  rw [← e]; exact apL_abc n n (Nat.le_refl _) d hd
theorem lt_128 {n : Nat} : ∀ c ∈ ltN n, c < 128 := fun c h => by have := lt_abc c h; omega
theorem lt_few {n : Nat} (h : n < 16 ^ 7) : (ltN n).length ≤ 7 := by unfold ltN; rw [List.length_map]; exact apL_len 7 n h
theorem td_abc {n : Nat} : ∀ c ∈ apL n, c.toNat < 128 := fun c h => by have := apL_abc n n (Nat.le_refl _) c h; omega
theorem td_few {n : Nat} (h : n < 16 ^ 7) : (apL n).length ≤ 400 := Nat.le_trans (apL_len 7 n h) (by decide)
theorem ap_at {prog : Program} {w : World} {p : Program} {loose : List Str} {mean : ExcName → Option Value} {mg mb : Str → Option Value} (news : List (Addr × Obj)) (lo hi : Int) (j : Nat) (t : Tok) :
    CbClaim prog w (heapK w.params) p loose mean mg mb 104 news [] ((hTop lo hi j).natAbs < 16 ^ 7) [.int ((hRun lo hi j).getD (Int.toNat 0) 0) t] (fun t => .bytes (apL (hTop lo hi j).natAbs).toArray t) := c_ap _ _ _
theorem td_size {lo hi : Int} {ws : List Nat} {T j : Nat} {vs : List Value} (I : TdInv lo hi T j vs) (h : Turns lo hi ws T) : (hTop lo hi j).natAbs < 16 ^ 7 := (h.size j I.le).2
local macro_rules | `(tactic| walk_at "call ref") => `(tactic| (k_here; (with_reducible show wpAny _ _ (call (Value.ref 104) _) _ _ _); k_dflt (refine' cb_use ?k1 ?k2 ?k3 ?k4 ?k5 ?kK (ap_at _ _ _ _ _) ?kp ?kd ?ku ?_; (case k1 => k_asm); (case k2 => k_asm); (case k3 => k_asm); (case k4 => k_asm); (case k5 => k_asm); (case kK => rfl); (case kp => exact td_size (by assumption) (by assumption)); (case kd => ktr_room); (case ku => ktr_units)); intro t9 h9 tk9 F9 N9; (try dsimp only); (try k_fold)))
local macro_rules | `(tactic| walk_at "call builtin:bytes.decode") => `(tactic| (k_here; k_dflt (refine' decode_ascii ?a ?b ?_; (case a => exact td_abc); (case b => exact td_few (td_size (by assumption) (by assumption)))); intro t9 k9; (try dsimp only)))
local macro_rules | `(tactic| walk_at "call builtin:str.join") => `(tactic| (k_here; k_dflt (refine' join_str (l := ltN _) ?k0 ?k1 ?k2 ?a ?b ?_; (case k0 => rfl); (case k1 => k_asm); (case k2 => k_asm); (case a => exact lt_128); (case b => exact Nat.le_trans (lt_few (td_size (by assumption) (by assumption))) (by decide))); intro h9 t9 k9 F9 N9; (try dsimp only); (try k_fold)))
theorem add_lists {prog : Program} {w : World} {A : Around} {E : Value → Shared → Prop} {s : Shared} {X Y : Str} {x y : List Nat} {t u : Tok} {Q : Value → Shared → Prop} (hx : X = ⟨x.toArray⟩) (hy : Y = ⟨y.toArray⟩) (hz : x.length + y.length ≤ 16777216) (h : ∀ t k, Q (.str ⟨(x ++ y).toArray⟩ t) { s with toks := k }) :
    wpAny (model prog w) A (binaryOp .Add (.str X t) (.str Y u)) Q E s := by
  subst hx; subst hy
  refine KOpn.add (by show x.toArray.size + y.toArray.size ≤ _; simpa using hz) fun t' k _ => ?_
  have e : (⟨x.toArray⟩ ++ ⟨y.toArray⟩ : Str) = ⟨(x ++ y).toArray⟩ := by
    apply Str.ext'; apply Array.toList_inj.mp
    show (x.toArray ++ y.toArray).toList = _
    simp
  rw [e]; exact h t' k
theorem lit_A2 : Str.ofString "A*" = ⟨[65, 42].toArray⟩ := by decide +kernel
theorem lit_2A : Str.ofString "*A" = ⟨[42, 65].toArray⟩ := by decide +kernel
theorem lit_A : Str.ofString "A" = ⟨[65].toArray⟩ := by decide +kernel
theorem starJ_len : ∀ l : List Nat, (starJ l).length ≤ 2 * l.length
  | [] => Nat.le_refl _
  | [c] => by simp [starJ]
  | c :: d :: r => by
    have := starJ_len (d :: r)
    simp only [starJ, List.length_cons] at this ⊢
    omega
theorem starJ_few {n : Nat} (h : n < 16 ^ 7) : (starJ (ltN n)).length ≤ 14 := by
  have := starJ_len (ltN n); have := lt_few h; omega
abbrev patL (n : Nat) : List Nat := ([65, 42] ++ starJ (ltN n)) ++ [42, 65]
theorem starJ_mem : ∀ (l : List Nat) (c : Nat), c ∈ starJ l → c = 42 ∨ c ∈ l
  | [], c, h => nomatch h
  | [d], c, h => .inr h
  | d :: e :: r, c, h => by
    simp only [starJ, List.mem_cons] at h
    rcases h with h | h | h
    · exact .inr (by rw [h]; exact .head _)
    · exact .inl h
    · rcases starJ_mem (e :: r) c (by exact h) with q | q
      · exact .inl q
      · exact .inr (.tail _ q)
theorem pat_chr {n : Nat} : ∀ c ∈ patL n, c = 42 ∨ 65 ≤ c ∧ c ≤ 80 := by
  intro c h
  rcases List.mem_append.mp h with h | h
  · rcases List.mem_append.mp h with h | h
    · simp only [List.mem_cons, List.not_mem_nil, or_false] at h; omega
    · rcases starJ_mem _ c h with q | q
      · exact .inl q
      · exact .inr (lt_abc c q)
  · simp only [List.mem_cons, List.not_mem_nil, or_false] at h; omega
theorem toks_tail : ∀ (l : List Nat) (acc : List (Option Nat)), (∀ c ∈ l, c ≠ 42) → (starJ l ++ [42, 65]).foldl tkStep (acc ++ [none]) = acc ++ (l ++ [65]).flatMap fun c => [none, some c]
  | [], acc, _ => by simp [starJ, tkStep]
  | [c], acc, h => by
    have hc := h c (.head _)
    simp [starJ, tkStep, hc]
  | c :: d :: r, acc, h => by
    have hc := h c (.head _)
    have ih := toks_tail (d :: r) (acc ++ [none, some c]) (fun e he => h e (.tail _ he))
    have e1 : (starJ (c :: d :: r) ++ [42, 65]).foldl tkStep (acc ++ [none]) = (starJ (d :: r) ++ [42, 65]).foldl tkStep ((acc ++ [none, some c]) ++ [none]) := by
      simp [starJ, tkStep, hc]
    rw [e1, ih]
    simp
theorem toks_pat (n : Nat) : toks (patL n) = altT 65 (ltN n ++ [65]) := by
  have e := toks_tail (ltN n) [some 65] (fun c h => by have := lt_abc c h; omega)
  show List.foldl tkStep [] (([65, 42] ++ starJ (ltN n)) ++ [42, 65]) = _
  rw [List.append_assoc, List.foldl_append]
  exact e
theorem fit1 {n : Nat} (h : n < 16 ^ 7) : [65, 42].length + (starJ (ltN n)).length ≤ 16777216 := by
  have := starJ_few h
  simp only [List.length_cons, List.length_nil]; omega
theorem fit2 {n : Nat} (h : n < 16 ^ 7) : ([65, 42] ++ starJ (ltN n)).length + [42, 65].length ≤ 16777216 := by
  have := starJ_few h
  simp only [List.length_append, List.length_cons, List.length_nil]; omega
theorem fit3 {ws : List Nat} (h : ws.length ≤ 400) : [65].length + ws.length ≤ 16777216 := by
  simp only [List.length_cons, List.length_nil]; omega
theorem fit4 {ws : List Nat} (h : ws.length ≤ 400) : ([65] ++ ws).length + [65].length ≤ 16777216 := by
  simp only [List.length_append, List.length_cons, List.length_nil]; omega
section
variable {prog : Program} {w : World} {K : Frag} {p : Program} {loose : List Str} {mean : ExcName → Option Value} {mg mb : Str → Option Value}
theorem nc_pre {f : Addr} {d : Nat} {news : List (Addr × Obj)} {pre pre' : Prop} {args : List Value} {R : Value → List (Addr × Obj) → Prop} (C : NClaim prog w K p loose mean mg mb f d news pre args R) (h : pre' → pre) : NClaim prog w K p loose mean mg mb f d news pre' args R :=
  fun _ _ _ _ _ _ _ _ _ _ _ _ _ _ _ _ _ a b c d e f hp x y z => C _ _ _ _ _ _ _ _ _ _ _ _ _ _ _ _ _ a b c d e f (h hp) x y z
theorem cb_pre {f : Addr} {news : List (Addr × Obj)} {pre pre' : Prop} {args : List Value} {R : Tok → Value} (C : CbClaim prog w K p loose mean mg mb f news [] pre args R) (h : pre' → pre) : CbClaim prog w K p loose mean mg mb f news [] pre' args R :=
  fun _ _ _ _ _ _ _ _ _ _ _ _ _ _ _ _ _ a b c d e f hp x y z => C _ _ _ _ _ _ _ _ _ _ _ _ _ _ _ _ _ a b c d e f (h hp) x y z
theorem tr_at (news : List (Addr × Obj)) (n : Nat) (t : Tok) :
    NClaim prog w (heapK w.params) p loose mean mg mb 43 3 news (n < 16 ^ 7) [.str ⟨(patL n).toArray⟩ t] (fun v tl => ∃ t, v = .str (jtS (ltN n)) t ∧ tl = []) :=
  nc_pre (c_translate news ⟨(patL n).toArray⟩ t 65 (ltN n ++ [65])) fun h => by
    have h1 := starJ_few h
    have h2 := lt_few h
    refine ⟨⟨?_, pat_chr⟩, toks_pat n, by simp, by rw [List.length_append]; simp only [List.length_cons, List.length_nil]; omega⟩
    show (patL n).toArray.size ≤ 1000
    simp only [patL, List.size_toArray, List.length_append, List.length_cons, List.length_nil]; omega
theorem tk_at (news : List (Addr × Obj)) (n : Nat) (ws : List Nat) (t u : Tok) :
    CbClaim prog w (heapK w.params) p loose mean mg mb 111 news [] (n < 16 ^ 7 ∧ ws.length ≤ 400) [.str (jtS (ltN n)) t, .str ⟨(([65] ++ ws) ++ [65]).toArray⟩ u] (fun _ => .bool ((ltN n).isSublist (ws ++ [65]))) :=
  cb_pre (c_takes news (ltN n) ws t u) fun h => ⟨Nat.le_trans (lt_few h.1) (by decide), h.2, fun c hc => by have := lt_abc c hc; omega⟩
end
local macro_rules | `(tactic| walk_at "binaryOp Add str str") => `(tactic| (k_here; k_dflt (refine' add_lists ?hx ?hy ?hz ?_; (case hx => first | exact lit_A2 | exact lit_A | rfl); (case hy => first | exact lit_2A | exact lit_A | rfl); (case hz => first | exact fit1 (td_size (by assumption) (by assumption)) | exact fit2 (td_size (by assumption) (by assumption)) | exact fit3 (Turns.short (by assumption)) | exact fit4 (Turns.short (by assumption)))); intro t9 k9))
theorem td_ne {l : Addr} {news : List (Addr × Obj)} (h : ∀ p ∈ news, p.1 < l) : ∀ p ∈ news, p.1 ≠ l := fun p hp e => by have := h p hp; rw [e] at this; exact Nat.lt_irrefl _ this
theorem td_kid {x : Int} {ns : List Int} (h : 0 < ns.length ∧ ns.length ≤ 999) : 0 < (suGo x 0 (ns.set 0 x)).length ∧ (suGo x 0 (ns.set 0 x)).length ≤ 999 := by
  rw [su_len _ _ _ _ (Nat.le_refl _), List.length_set]; exact h
theorem td_more {lo hi : Int} {ws : List Nat} {T j : Nat} {vs : List Value} (I : TdInv lo hi T j vs) (h : Turns lo hi ws T) (hs : (ltN (hTop lo hi j).natAbs).isSublist (ws ++ [65]) = true) : j + 1 ≤ T := by
  rcases Nat.lt_or_eq_of_le I.le with q | q
  · exact q
  · rw [q, h.no] at hs; cases hs
theorem td_last {lo hi : Int} {ws : List Nat} {T j : Nat} {vs : List Value} (I : TdInv lo hi T j vs) (h : Turns lo hi ws T) (hs : (ltN (hTop lo hi j).natAbs).isSublist (ws ++ [65]) = false) : j = T := by
  rcases Nat.lt_or_eq_of_le I.le with q | q
  · rw [h.yes j q] at hs; cases hs
  · exact q
theorem news_skip {h₀ h : Heap} {L : Addr} {q q' : Addr × Obj} {r : List (Addr × Obj)} (N : News h₀ L h (q :: q' :: r)) : News h₀ L h ([q] ++ r) := fun p hp => by
  rcases List.mem_cons.mp hp with e | hp
  · exact N p (e ▸ .head _)
  · exact N p (.tail _ (.tail _ hp))
theorem wl4_end {s : Shared} {h₀ h' : Heap} {L l : Addr} {m₀ m' : Str → Option Value} {news : List (Addr × Obj)} {lo hi : Int} {T j n n' tk : Nat} {vs vs' : List Value} {t t' : Tok} (FF : Fr h₀ L h' m') (N : News h₀ L h' ((l, listOf vs'.toArray n') :: news)) (hl : j + 1 ≤ T) (hI : IntsAre vs' (hRun lo hi (j + 1))) (hi' : m' "taken" = some (.int ((j : Int) + 1) t'))
    (hs : ∀ z : Str, z ≠ "taken" → [Str.ofString "value"].contains z = false → m' z = m₀ z) :
    KswEnd h₀ L s (fun (c : Nat × Tok × List Value × Nat) => (l, listOf c.2.2.1.toArray c.2.2.2) :: news) (fun c => [("taken", .int (c.1 : Int) c.2.1)]) (fun _ => True) [Str.ofString "value"] m₀ (fun c => TdInv lo hi T c.1 c.2.2.1) (fun c => T - c.1) (j, t, vs, n) { s with heap := h', toks := tk } := by
  refine ksw_end (j + 1, t', vs', n') FF N (fun _ h => h) trivial ?_ ?_ ⟨hl, hI⟩ (by show T - (j + 1) < T - j; omega)
  · intro p hp
    rw [List.mem_singleton.mp hp]; exact hi'
  · intro z h2 h3
    exact hs z (h2 _ (.head _)) h3
theorem td_call {lo hi : Int} {ws : List Nat} {T j : Nat} {vs : List Value} (I : TdInv lo hi T j vs) (h : Turns lo hi ws T) : (hTop lo hi j).natAbs < 16 ^ 7 ∧ ws.length ≤ 400 := ⟨(h.size j I.le).2, h.short⟩
local macro_rules | `(tactic| walk_at "call ref") => `(tactic| (k_here; (with_reducible show wpAny _ _ (call (Value.ref 43) _) _ _ _); k_dflt (refine' nc_use ?k1 ?k2 ?k3 ?k4 ?k5 ?kK (tr_at _ (hTop _ _ _).natAbs _) ?kp ?kd ?ku ?_; (case k1 => k_asm); (case k2 => k_asm); (case k3 => k_asm); (case k4 => k_asm); (case k5 => k_asm); (case kK => rfl); (case kp => exact td_size (by assumption) (by assumption)); (case kd => ktr_room); (case ku => ktr_units)); intro v9 tl9 h9 tk9 R9 F9 N9 O9; obtain ⟨t9, e8, e9⟩ := R9; subst e8; subst e9; dsimp only [List.nil_append] at N9; (try dsimp only); (try k_fold)))
local macro_rules | `(tactic| walk_at "call ref") => `(tactic| (k_here; (with_reducible show wpAny _ _ (call (Value.ref 111) _) _ _ _); k_dflt (refine' cb_use ?k1 ?k2 ?k3 ?k4 ?k5 ?kK (tk_at _ (hTop _ _ _).natAbs _ _ _) ?kp ?kd ?ku ?_; (case k1 => k_asm); (case k2 => k_asm); (case k3 => k_asm); (case k4 => k_asm); (case k5 => k_asm); (case kK => rfl); (case kp => exact td_call (by assumption) (by assumption)); (case kd => ktr_room); (case ku => ktr_units)); intro t9 h9 tk9 F9 N9; (try dsimp only); (try k_fold)))
local macro_rules | `(tactic| walk_at "call ref") => `(tactic| (k_here; (with_reducible show wpAny _ _ (call (Value.ref 83) _) _ _ _); k_dflt (refine' lc_use ?k1 ?k2 ?k3 ?k4 ?k5 ?k6 ?k7 ?kK (c_replace _ _ _ _ _ _ _) ?kp ?kd ?ku ?_; (case k1 => k_asm); (case k2 => k_asm); (case k3 => k_asm); (case k4 => k_asm); (case k5 => exact td_ne (by assumption)); (case k6 => k_asm); (case k7 => k_asm); (case kK => rfl); (case kp => assumption); (case kd => ktr_room); (case ku => ktr_units)); intro v9 vs9 nn9 h9 tk9 r9 i9 F9 N9; obtain ⟨t9, e8⟩ := r9; subst e8; (try dsimp only); (try k_fold)))
local macro_rules | `(tactic| walk_at "call ref") => `(tactic| (k_here; (with_reducible show wpAny _ _ (call (Value.ref 76) _) _ _ _); k_dflt (refine' lc_use ?k1 ?k2 ?k3 ?k4 ?k5 ?k6 ?k7 ?kK (c_push _ _ _ _ _ _ _) ?kp ?kd ?ku ?_; (case k1 => k_asm); (case k2 => k_asm); (case k3 => k_asm); (case k4 => k_asm); (case k5 => exact td_ne (by assumption)); (case k6 => k_asm); (case k7 => k_asm); (case kK => rfl); (case kp => exact td_kid (by assumption)); (case kd => ktr_room); (case ku => ktr_units)); intro v9 vs9 nn9 h9 tk9 r9 i9 F9 N9; subst r9; (try dsimp only); (try k_fold)))
theorem c_tried {prog : Program} {w : World} {p : Program} {loose : List Str} {mean : ExcName → Option Value} {mg mb : Str → Option Value} (news : List (Addr × Obj)) (ws : List Nat) (lo hi : Int) (T : Nat) (t u v : Tok) :
   NClaim prog w (heapK w.params) p loose mean mg mb 118 4 news (Turns lo hi ws T) [.str ⟨ws.toArray⟩ t, .int lo u, .int hi v] (fun v tl => ∃ a t1 t2, v = .ref a ∧ tl = [(a, tupL #[.int (hTop lo hi T) t1, .int (T : Int) t2])]) := by
  dsimp only [NClaim]; intros; rename_i hret
  have hT : Turns lo hi ws T := by assumption
  refine wpAny_call ?_
  k_dflt cell_enter
  refine let_env ?_
  intro env A
  k_with_none
  (k_with "exec While Call cons nil" => (k_dflt (refine' wl4 lo hi T _ _ _ [.int 0 _] [Str.ofString "value"] ?F ?N ?i ?h0 ?_; (case F => k_asm); (case N => first | k_asm | exact news_tail (by k_asm)); (case i => rfl); (case h0 => exact .cons _ _ .nil)); intro j tj vs n uu h tk I F' N'; have hints := I.its; have hlen := td_len I hT; all_goals (try k_fold)))
  k_steps
  · refine wl4_end (by assumption) (by assumption) (td_more I hT (by assumption)) (by assumption) rfl ?_
    intro z h4 h5
    dsimp +zetaDelta only
    have h6 : z ≠ Str.ofString "value" := fun e => by subst e; revert h5; decide +kernel
    simp only [if_neg h4, if_neg h6, h5, Bool.false_eq_true, if_false]
  · have e := td_last I hT (by assumption)
    subst e
    exact hret _ [(_, _)] _ _ ⟨_, _, _, rfl, rfl⟩ (by assumption) (news_skip (by assumption)) (one_ord (fun p hp => Nat.lt_trans ((by assumption : ∀ p ∈ news, p.1 < _) p hp) (And.left (by assumption))))
end Mine
end

section
set_option maxHeartbeats 400000
namespace Mine
open PySem PySem.Calls PyProof.Rows PyProof.V PySem.Spec
section
variable {prog : Program} {w : World} {A : Around} {E : Value → Shared → Prop} {s : Shared} {h₀ : Heap} {env : Env} {target : Expr} {body : List Stmt} {Q : Flow → Shared → Prop}
theorem items_inv {vs : List Value} {ws : List (Addr × String)} {keep : List (Addr × Obj)} (J : Nat → (Str → Option Value) → List (Addr × Obj) → Prop)
    (step : ∀ i v m news h tk, vs[i]? = some v → J i m news → Fr h₀ env.locals h m → AllObj ws (fun its => News h₀ env.locals h (its ++ news) →
      wpAny (model prog w) A (assign target env v) (fun _ s₂ => wpAny (model prog w) A (execs body env) (UnrPostW h₀ env.locals { s with heap := h, toks := tk } its (fun m' n' => SubL keep n' ∧ J (i + 1) m' n') Q) E s₂) E { s with heap := h, toks := tk }))
    (done : ∀ m news h tk, J vs.length m news → Fr h₀ env.locals h m → News h₀ env.locals h news → Q .next { s with heap := h, toks := tk }) :
    ∀ (k i : Nat) m news, i + k = vs.length → J i m news → ItemsRest prog w A E h₀ env target body Q s ws keep ((vs.drop i).map .val) m news
  | 0, i, m, news, e, j => by
    have e' : i = vs.length := by omega
    subst e'
    rw [List.drop_length]
    exact ItemsRest.zero fun h tk F N => done m news h tk j F N
  | k + 1, i, m, news, e, j => by
    have hi : i < vs.length := by omega
    rw [List.drop_eq_getElem_cons hi]
    refine ItemsRest.val fun h tk F => ?_
    have key := step i vs[i] m news h tk (List.getElem?_eq_getElem hi) j F
    have mono : ∀ {ws : List (Addr × String)} {p q : List (Addr × Obj) → Prop}, (∀ its, p its → q its) → AllObj ws p → AllObj ws q := by
      intro ws
      induction ws with
      | nil => exact fun f h => f _ h
      | cons a r ih => exact fun f h o ho => ih (fun its => f _) (h o ho)
    refine mono (fun its g N => ?_) key
    refine wpAny_mono (g N) (fun _ s₂ h₂ => wpAny_mono h₂ (fun f s₃ h₃ => ?_) fun _ _ x => x) fun _ _ x => x
    have up : UnrEndW h₀ env.locals { s with heap := h, toks := tk } its (fun m' n' => SubL keep n' ∧ J (i + 1) m' n') s₃ → UnrEndW h₀ env.locals { s with heap := h, toks := tk } its (fun m' n' => SubL keep n' ∧ ItemsRest prog w A E h₀ env target body Q s ws keep ((vs.drop (i + 1)).map .val) m' n') s₃ := by
      rintro ⟨h', tk', m', n', e1, e2, e3, e4, e5, e6⟩
      exact ⟨h', tk', m', n', e1, e2, e3, e4, e5, items_inv J step done k (i + 1) m' n' (by omega) e6⟩
    cases f with
    | ret v => exact h₃
    | brk => exact h₃
    | next => exact up h₃
    | cont => exact up h₃
/-- what a turn of the list's loop hands on -/
def FoNext {σ : Type} (Led : σ → List (Addr × Obj)) (ps : σ → List (Str × Value)) (stored : List Str) (m₀ : Str → Option Value) (P : σ → Prop) (m' : Str → Option Value) (n' : List (Addr × Obj)) : Prop :=
  ∃ c', n' = Led c' ∧ (∀ p ∈ ps c', m' p.1 = some p.2) ∧ (∀ z, (∀ p ∈ ps c', z ≠ p.1) → stored.contains z = false → m' z = m₀ z) ∧ P c'
/-- a for over a list of the ledger, by what holds of its whole state -/
theorem fo_list {σ : Type} {vs : List Value} {l : Addr} {n : Nat} {m₀ : Str → Option Value} (Led : σ → List (Addr × Obj)) (ps : σ → List (Str × Value)) (stored : List Str) (P : Nat → σ → Prop) (c₀ : σ)
    (hh : A.handled = none) (F : Fr h₀ env.locals s.heap m₀) (N : News h₀ env.locals s.heap (Led c₀)) (hkeep : ∀ c, (l, listOf vs.toArray n) ∈ Led c) (hk : ∀ p ∈ ps c₀, m₀ p.1 = some p.2) (hp : P 0 c₀)
    (step : ∀ (I : Addr), (∀ p ∈ Led c₀, p.1 < I) → ∀ i v (c : σ) (u : Str → Option Value) h tk, vs[i]? = some v → P i c → Fr h₀ env.locals h (kstB (fun z => if stored.contains z then u z else m₀ z) (ps c)) → ∀ o : Obj, o.cls = .type "list_iterator" → News h₀ env.locals h ((I, o) :: Led c) →
      wpAny (model prog w) A (assign target env v) (fun _ s₂ => wpAny (model prog w) A (execs body env) (UnrPostW h₀ env.locals { s with heap := h, toks := tk } [(I, o)] (fun m' n' => SubL [(l, listOf vs.toArray n)] n' ∧ FoNext Led ps stored m₀ (P (i + 1)) m' n') Q) E s₂) E { s with heap := h, toks := tk })
    (done : ∀ (c : σ) (u : Str → Option Value) h tk, P vs.length c → Fr h₀ env.locals h (kstB (fun z => if stored.contains z then u z else m₀ z) (ps c)) → News h₀ env.locals h (Led c) → Q .next { s with heap := h, toks := tk }) :
    wpAny (model prog w) A (pyIter (.ref l)) (fun it s₂ => TurnsAt prog w A h₀ env target body Q E it s₂) E s := by
  refine iter_listTurns hh F N (hkeep _) rfl rfl fun I hI => ?_
  have key := items_inv (prog := prog) (w := w) (A := A) (E := E) (s := s) (h₀ := h₀) (env := env) (target := target) (body := body) (Q := Q) (vs := vs) (ws := [(I, "list_iterator")]) (keep := [(l, listOf vs.toArray n)]) (fun i m' n' => FoNext Led ps stored m₀ (P i) m' n')
    (fun i v m news h tk hv hJ F' o ho => ?_) (fun m news h tk hJ F' N' => ?_) vs.length 0 m₀ (Led c₀) (Nat.zero_add _) ⟨c₀, rfl, hk, fun _ _ _ => rfl, hp⟩
  · rwa [List.drop_zero] at key
  · intro N'
    obtain ⟨c, rfl, h1, h2, hc⟩ := hJ
    exact step I hI i v c m h tk hv hc (ksw_fr h1 h2 F') o ho N'
  · obtain ⟨c, rfl, h1, h2, hc⟩ := hJ
    exact done c m h tk hc (ksw_fr h1 h2 F') N'
end
end Mine
end

section
set_option maxHeartbeats 800000
namespace Mine
open PySem PySem.Calls PyProof.Rows PyProof.V PySem.Spec
def arStep (lo hi : Int) (s : Int × List Int) (f : Int) : Int × List Int :=
  let lk := s.2.filter fun o => o != f
  if lk = [] then (s.1 + 1, [lo, hi]) else (s.1, lk)
def arGo (lo hi : Int) (fs : List Int) : Int × List Int := fs.foldl (arStep lo hi) (0, [lo, hi])
local macro_rules | `(tactic| walk_at "storeName") => `(tactic| (k_here; (try dsimp only); k_dflt (refine' my_store ?F ?N ?_ ?a ?b; (case F => k_asm); (case N => k_asm); (case a => rfl); (case b => rfl); k_whole); intro h' tk' kM F' N'; (try k_sweep)))
local macro_rules | `(tactic| k_all) => `(tactic| assumption)
structure ArSt where
  a : Int
  t : Tok
  D : Addr
  lv : List Value
  n : Nat
  o : Obj
structure ArInv (lo hi : Int) (fs : List Int) (cell l : Addr) (news : List (Addr × Obj)) (i : Nat) (a : Int) (D : Addr) (lv : List Value) (o : Obj) (lk : List Int) (v : Option Value) : Prop where
  dat : o.data = .cell v
  its : IntsAre lv lk
  eq : (a, lk) = arGo lo hi (fs.take i)
  few : lk.length ≤ 2
  ne : @Ne Nat D cell
theorem ints_at {vs : List Value} {fs : List Int} (h : IntsAre vs fs) {i : Nat} {v : Value} (e : vs[i]? = some v) : ∃ x t, v = .int x t ∧ fs[i]? = some x := by
  induction h generalizing i with
  | nil => cases e
  | cons x t _ ih =>
    cases i with
    | zero => cases e; exact ⟨x, t, rfl, rfl⟩
    | succ k => exact ih e
section
variable {prog : Program} {w : World} {A : Around} {E : Value → Shared → Prop} {s : Shared} {h₀ : Heap} {env : Env} {target : Expr} {body : List Stmt} {Q : Flow → Shared → Prop}
abbrev arLed (cell l : Addr) (vs : List Value) (nn : Nat) (news : List (Addr × Obj)) (c : ArSt) : List (Addr × Obj) := (c.D, listOf c.lv.toArray c.n) :: (cell, c.o) :: (l, listOf vs.toArray nn) :: news
abbrev arPs (c : ArSt) : List (Str × Value) := [("arches", .int c.a c.t), ("lacking", .ref c.D)]
abbrev arStored : List Str := [Str.ofString "figure", Str.ofString "other"]
theorem fo_ar {lo hi : Int} {fs : List Int} {cell l : Addr} {vs : List Value} {nn : Nat} {news : List (Addr × Obj)} {m₀ : Str → Option Value} {t₀ : Tok} {D₀ : Addr} {lv₀ : List Value} {n₀ : Nat} {o₀ : Obj} {v₀ : Option Value} (hv : IntsAre vs fs)
    (hh : A.handled = none) (F : Fr h₀ env.locals s.heap m₀) (N : News h₀ env.locals s.heap ((D₀, listOf lv₀.toArray n₀) :: (cell, o₀) :: (l, listOf vs.toArray nn) :: news)) (ha : m₀ "arches" = some (.int 0 t₀)) (hb : m₀ "lacking" = some (.ref D₀)) (h0 : ArInv lo hi fs cell l news 0 0 D₀ lv₀ o₀ [lo, hi] v₀)
    (step : ∀ (I : Addr), (@LT.lt Nat _ D₀ I ∧ @LT.lt Nat _ cell I ∧ @LT.lt Nat _ l I ∧ AllLt I news) → ∀ i x tx a t D lv n o lk v (u : Str → Option Value) h tk, fs[i]? = some x → ArInv lo hi fs cell l news i a D lv o lk v →
      Fr h₀ env.locals h (fun z => if z = "arches" then some (.int a t) else if z = "lacking" then some (.ref D) else if arStored.contains z then u z else m₀ z) → ∀ oi : Obj, oi.cls = .type "list_iterator" → News h₀ env.locals h ((I, oi) :: (D, listOf lv.toArray n) :: (cell, o) :: (l, listOf vs.toArray nn) :: news) →
      wpAny (model prog w) A (assign target env (.int x tx)) (fun _ s₂ => wpAny (model prog w) A (execs body env) (UnrPostW h₀ env.locals { s with heap := h, toks := tk } [(I, oi)] (fun m' n' => SubL [(l, listOf vs.toArray nn)] n' ∧ FoNext (arLed cell l vs nn news) arPs arStored m₀ (fun c => ∃ lk v, ArInv lo hi fs cell l news (i + 1) c.a c.D c.lv c.o lk v) m' n') Q) E s₂) E { s with heap := h, toks := tk })
    (done : ∀ a t D lv n o lk v (u : Str → Option Value) h tk, ArInv lo hi fs cell l news fs.length a D lv o lk v → Fr h₀ env.locals h (fun z => if z = "arches" then some (.int a t) else if z = "lacking" then some (.ref D) else if arStored.contains z then u z else m₀ z) →
      News h₀ env.locals h ((D, listOf lv.toArray n) :: (cell, o) :: (l, listOf vs.toArray nn) :: news) → Q .next { s with heap := h, toks := tk }) :
    wpAny (model prog w) A (pyIter (.ref l)) (fun it s₂ => TurnsAt prog w A h₀ env target body Q E it s₂) E s := by
  refine fo_list (arLed cell l vs nn news) arPs arStored (fun i c => ∃ lk v, ArInv lo hi fs cell l news i c.a c.D c.lv c.o lk v) ⟨0, t₀, D₀, lv₀, n₀, o₀⟩ hh F N (fun c => .tail _ (.tail _ (.head _))) ?_ ⟨_, _, h0⟩ ?_ ?_
  · intro p hp
    rcases List.mem_cons.mp hp with rfl | hp
    · exact ha
    · rw [List.mem_singleton.mp hp]; exact hb
  · rintro I hI i v c u h tk hv' ⟨lk, v', hP⟩ F' o ho N'
    obtain ⟨x, tx, rfl, hx⟩ := ints_at hv hv'
    exact step I ⟨hI _ (.head _), hI _ (.tail _ (.head _)), hI _ (.tail _ (.tail _ (.head _))), allLt_of fun p hp => hI p (.tail _ (.tail _ (.tail _ hp)))⟩ i x tx c.a c.t c.D c.lv c.n c.o lk v' u h tk hx hP F' o ho N'
  · rintro c u h tk ⟨lk, v', hP⟩ F' N'
    rw [hv.length] at hP
    exact done c.a c.t c.D c.lv c.n c.o lk v' u h tk hP F' N'
end
theorem ar_off {L l : Addr} {o : Obj} {news : List (Addr × Obj)} (h : @LT.lt Nat _ l L ∧ AllLt L news) : ∀ p ∈ (l, o) :: news, p.1 ≠ L + 1 := fun p hp => by
  rcases List.mem_cons.mp hp with rfl | hp
  · exact Nat.ne_of_lt (Nat.lt_succ_of_lt h.1)
  · exact Nat.ne_of_lt (Nat.lt_succ_of_lt (ktn_ltOf h.2 p hp))
theorem ar_small {ys : List Value} {lk : List Int} {p : Int → Bool} (h : IntsAre ys (List.map (fun a => a) (List.filter p lk))) (h2 : lk.length ≤ 2) : ys.length ≤ 1000 := by
  rw [h.length, List.length_map]
  exact Nat.le_trans (List.length_filter_le _ _) (Nat.le_trans h2 (by decide))
local macro_rules | `(tactic| walk_at "truthy ref") => `(tactic| (k_here; k_dflt (refine' truthy_case ?N ?m ?z ?_ ?_; (case N => k_asm); (case m => k_mem); (case z => exact ar_small (by assumption) (by assumption)))))
theorem ar_next {lo hi : Int} {fs : List Int} {i : Nat} {x a : Int} {lk : List Int} (hx : fs[i]? = some x) (e : (a, lk) = arGo lo hi (fs.take i)) : arStep lo hi (a, lk) x = arGo lo hi (fs.take (i + 1)) := by
  rw [List.take_add_one, hx, arGo, List.foldl_append, e]; rfl
theorem ar_done {lo hi : Int} {fs : List Int} {i : Nat} {x a : Int} {lk : List Int} {ys : List Value} (hx : fs[i]? = some x) (e : (a, lk) = arGo lo hi (fs.take i)) (hi' : IntsAre ys (List.map (fun a => a) (List.filter (fun a => a != x) lk))) (h : ys = []) : (a + 1, [lo, hi]) = arGo lo hi (fs.take (i + 1)) := by
  rw [← ar_next hx e, arStep]
  subst h
  have : List.filter (fun a => a != x) lk = [] := by
    have := hi'.length
    rw [List.length_map] at this
    exact List.length_eq_zero_iff.mp this.symm
  simp only [this, if_true]
theorem ar_more {lo hi : Int} {fs : List Int} {i : Nat} {x a : Int} {lk : List Int} {ys : List Value} (hx : fs[i]? = some x) (e : (a, lk) = arGo lo hi (fs.take i)) (hi' : IntsAre ys (List.map (fun a => a) (List.filter (fun a => a != x) lk))) (h : ys ≠ []) : (a, List.map (fun a => a) (List.filter (fun a => a != x) lk)) = arGo lo hi (fs.take (i + 1)) := by
  rw [← ar_next hx e, arStep]
  have hn : List.filter (fun a => a != x) lk ≠ [] := fun q => by
    rw [q] at hi'
    cases hi'
    exact h rfl
  rw [List.map_id']
  simp only [hn, if_false]
theorem ar_few {lk : List Int} {p : Int → Bool} (h : lk.length ≤ 2) : (List.map (fun a => a) (List.filter p lk)).length ≤ 2 := by
  rw [List.length_map]; exact Nat.le_trans (List.length_filter_le _ _) h
theorem ar_end {h₀ h' : Heap} {L : Addr} {s₁ : Shared} {m₀ m' : Str → Option Value} {all news : List (Addr × Obj)} {cell l D I : Addr} {oi o' : Obj} {lv vs : List Value} {n nn i tk : Nat} {v : Option Value} {lo hi a : Int} {fs lk : List Int} {t : Tok}
    (FF : Fr h₀ L h' m') (N : News h₀ L h' all) (hI : (I, oi) ∈ all) (hD : (D, listOf lv.toArray n) ∈ all) (hc : (cell, o') ∈ all) (hl : (l, listOf vs.toArray nn) ∈ all) (hn : ∀ p ∈ news, p ∈ all)
    (hd : o'.data = .cell v) (hits : IntsAre lv lk) (heq : (a, lk) = arGo lo hi (fs.take (i + 1))) (few : lk.length ≤ 2) (hoi : oi.cls = .type "list_iterator") (lI : @LT.lt Nat _ cell I ∧ @LT.lt Nat _ l I ∧ AllLt I news)
    (ha : m' "arches" = some (.int a t)) (hb : m' "lacking" = some (.ref D)) (hs : ∀ z : Str, z ≠ "arches" → z ≠ "lacking" → arStored.contains z = false → m' z = m₀ z) :
    UnrEndW h₀ L s₁ [(I, oi)] (fun m' n' => SubL [(l, listOf vs.toArray nn)] n' ∧ FoNext (arLed cell l vs nn news) arPs arStored m₀ (fun c => ∃ lk v, ArInv lo hi fs cell l news (i + 1) c.a c.D c.lv c.o lk v) m' n') { s₁ with heap := h', toks := tk } := by
  refine ⟨h', tk, m', arLed cell l vs nn news ⟨a, t, D, lv, n, o'⟩, rfl, FF, fun p hp => ?_, fun p hp q hq => ?_, ⟨.tail _ (.tail _ (.head _)), trivial⟩, ⟨a, t, D, lv, n, o'⟩, rfl, ?_, ?_, lk, v, hd, hits, heq, few, fun e => ?_⟩
  · rcases List.mem_cons.mp hp with rfl | hp
    · exact N _ hI
    · rcases List.mem_cons.mp hp with rfl | hp
      · exact N _ hD
      · rcases List.mem_cons.mp hp with rfl | hp
        · exact N _ hc
        · rcases List.mem_cons.mp hp with rfl | hp
          · exact N _ hl
          · exact N _ (hn _ hp)
  · rw [List.mem_singleton.mp hq]
    rcases List.mem_cons.mp hp with rfl | hp
    · intro e
      have e1 := (N _ hD).1
      rw [show D = I from e, (N _ hI).1] at e1
      have e2 := congrArg Obj.cls (Option.some.inj e1)
      rw [hoi] at e2
      exact absurd (Value.type.inj e2) (by decide)
    · rcases List.mem_cons.mp hp with rfl | hp
      · exact Nat.ne_of_lt lI.1
      · rcases List.mem_cons.mp hp with rfl | hp
        · exact Nat.ne_of_lt lI.2.1
        · exact Nat.ne_of_lt (ktn_ltOf lI.2.2 p hp)
  · intro p hp
    rcases List.mem_cons.mp hp with rfl | hp
    · exact ha
    · rw [List.mem_singleton.mp hp]; exact hb
  · intro z h2 h3
    exact hs z (h2 _ (.head _)) (h2 _ (.tail _ (.head _))) h3
  · have e1 := (N _ hD).1
    rw [show D = cell from e, (N _ hc).1] at e1
    have e2 := congrArg Obj.data (Option.some.inj e1)
    rw [hd] at e2
    cases e2
theorem c_arches {prog : Program} {w : World} {p : Program} {loose : List Str} {mean : ExcName → Option Value} {mg mb : Str → Option Value} (news : List (Addr × Obj)) (l : Addr) (vs : List Value) (nn : Nat) (fs : List Int) (lo hi : Int) (t u : Tok) :
   NClaim prog w (heapK w.params) p loose mean mg mb 128 1 ((l, listOf vs.toArray nn) :: news) (IntsAre vs fs ∧ fs.length ≤ 63 ∧ ∀ p ∈ news, p.1 ≠ l) [.ref l, .int lo t, .int hi u] (fun v tl => ∃ t, v = .int (arGo lo hi fs).1 t ∧ tl = []) := by
  dsimp only [NClaim]; intros; rename_i hret
  obtain ⟨hi1, hi2, hi3⟩ := (by assumption : IntsAre vs fs ∧ fs.length ≤ 63 ∧ ∀ p ∈ news, p.1 ≠ l)
  refine wpAny_call ?_
  k_dflt (refine' code_defC ?k1 ?k2 ?k3 ?k4 ?k5 ?kA ?kF ?kK ?k6 ?k7 ?k8 ?k9 ?kB ?kD ?_ ?c2 ?c3 ?c4; (case kA => exact rfl); (case kF => exact rfl); (case kK => assumption); (case k1 => k_asm); (case k2 => k_asm); (case k3 => k_asm); (case k4 => k_asm); (case k5 => k_asm); (case k6 => k_is); (case k7 => k_is); (case k8 => ktr_room); (case k9 => exact BindsTo.of_eq rfl); (case kB => exact rfl); (case kD => decide +kernel); (case c2 => exact rfl); (case c3 => exact rfl); (case c4 => exact rfl); k_whole; intro g' L' h' tk' cells' FG' F' N' Y' B' X' T' l1; (try k_lt l1); k_cells Y'; (try simp only [List.cons_append, List.nil_append] at N'); (try dsimp only); (try k_lift B'); (try k_fold))
  refine let_env ?_
  intro env A
  k_with_none
  (k_with "exec For Name Name cons nil" => (k_dflt (refine' For_turns ?F ?_; (case F => k_asm)); (try k_fold)))
  (k_with "pyIter ref" => (k_dflt (refine' fo_ar (lo := lo) (hi := hi) (lv₀ := [.int lo _, .int hi _]) hi1 rfl ?F ?N ?ha ?hb ?h0 ?step ?done; (case F => k_asm); (case N => exact news_tail (by k_asm)); (case ha => rfl); (case hb => rfl); (case h0 => exact ⟨by assumption, .cons _ _ (.cons _ _ .nil), rfl, Nat.le_refl _, by omega⟩)); (case' step => (intro I lI i x tx a ta D lv n o lk v u h tk hx P F'' oi hoi N''; have hdat := P.dat; have hits := P.its; have hfew := P.few; have hne := P.ne; have hoff := ar_off (o := listOf vs.toArray nn) l1; (change Fr g' L' _ _ at F''); (change News g' L' _ _ at N''); (try k_fold))); (case' done => (intro a ta D lv n o lk v u h tk P F'' N''; (change Fr g' L' _ _ at F''); (change News g' L' _ _ at N''); (try k_fold)))))
  k_steps
  · have e : (arGo lo hi fs).1 = a := by
      have q := congrArg Prod.fst P.eq
      rw [List.take_length] at q
      exact q.symm
    exact hret _ [] _ _ ⟨_, by rw [e], rfl⟩ (by assumption) (news_tail (news_tail (by assumption))) (fun _ h => nomatch h)
  · exact Str.empty
  · exact L'
  · exact .none
  · refine ar_end (by assumption) (by assumption) (by k_mem) (by k_mem) (by k_mem) (by k_mem) (fun p hp => .tail _ (.tail _ (.tail _ (.tail _ (.tail _ (.tail _ (.tail _ hp))))))) (by assumption) (.cons _ _ (.cons _ _ .nil)) (ar_done hx P.eq (by assumption) (by assumption)) (Nat.le_refl _) hoi lI.2 rfl rfl ?_
    intro z h4 h5 h6
    dsimp +zetaDelta only
    simp only [if_neg h4, if_neg h5, h6, Bool.false_eq_true, if_false]
  · refine ar_end (by assumption) (by assumption) (by k_mem) (by k_mem) (by k_mem) (by k_mem) (fun p hp => .tail _ (.tail _ (.tail _ (.tail _ (.tail _ hp))))) (by assumption) (by assumption) (ar_more hx P.eq (by assumption) (by assumption)) (ar_few hfew) hoi lI.2 rfl rfl ?_
    intro z h4 h5 h6
    dsimp +zetaDelta only
    simp only [if_neg h4, if_neg h5, h6, Bool.false_eq_true, if_false]
end Mine
end

section
set_option maxHeartbeats 400000
namespace Mine
open PySem PySem.Calls PyProof.Rows PyProof.V PySem.Spec
def tupLt (a b : Int × Int) : Bool := if a.1 = b.1 then decide (a.2 < b.2) else decide (a.1 < b.1)
section
open Builtin
variable {prog : Program} {w : World} {A : Around} {E : Value → Shared → Prop} {s : Shared}
theorem int_lt {x y : Int} {t u : Tok} {Q : Value → Shared → Prop} (h : Q (.bool (decide (x < y))) s) : wpAny (model prog w) A (richCompare .Lt (.int x t) (.int y u)) Q E s :=
  richCompare_gives (op := .Lt) (typeIs_int s _ t) (typeIs_int s _ u) F.slot_int_lt PySem.F.entry_int_lt (F.args_int_lt_2 _ _) (gives_int_lt _ _ t u) (fun x => nomatch x) h
theorem tup_lt_tree {a b : Addr} {x1 x2 y1 y2 : Int} {t1 t2 u1 u2 : Tok} {P : PySem.Fin → Shared → Prop} (hx : s.heap.IsTuple a #[.int x1 t1, .int x2 t2]) (hy : s.heap.IsTuple b #[.int y1 u1, .int y2 u2])
    (h : P (.done (.ret (.bool (tupLt (x1, x2) (y1, y2))))) s) : wpAny (model prog w) A (Builtin.«tuple.__lt__» ⟨[.ref a, .ref b], []⟩) P E s := by
  have hTb : s.TypeIs (.ref b) "tuple" := hy.typeIs
  obtain ⟨oa, hoa, hca, na, hda⟩ := hx
  obtain ⟨ob, hob, hcb, nb, hdb⟩ := hy
  show wpAny _ _ (isInstance (.ref b) (.type "tuple") >>= _) _ _ s
  refine wpAny_bind (wpAny_isInstance hTb isSubtype_tuple_tuple ?_)
  simp only [Bool.not_true, Bool.false_eq_true, if_false]
  refine wpAny_bind (wpAny_tupleItemsOf hoa hda ?_)
  refine wpAny_bind (wpAny_tupleItemsOf hob hdb ?_)
  refine wpAny_bind ?_
  show wpAny _ _ (forIn [((Value.int x1 t1), (Value.int y1 u1)), ((Value.int x2 t2), (Value.int y2 u2))] _ _) _ _ _
  rw [List.forIn_cons]
  refine wpAny_bind (wpAny_bind (wpAny_eqBool_int ?_))
  by_cases e1 : x1 = y1
  · rw [beq_iff_eq.mpr e1]
    simp only [Bool.not_true, Bool.false_eq_true, if_false]
    refine wpAny_pure ?_
    dsimp only
    rw [List.forIn_cons]
    refine wpAny_bind (wpAny_bind (wpAny_eqBool_int ?_))
    by_cases e2 : x2 = y2
    · rw [beq_iff_eq.mpr e2]
      simp only [Bool.not_true, Bool.false_eq_true, if_false]
      refine wpAny_pure ?_
      dsimp only
      rw [List.forIn_nil]
      refine wpAny_pure (wpAny_pure ?_)
      rw [show tupLt (x1, x2) (y1, y2) = false from by simp [tupLt, e1, e2]] at h
      exact h
    · rw [beq_eq_false_iff_ne.mpr e2]
      simp only [Bool.not_false, if_true]
      refine wpAny_bind (wpAny_rule (wpAny_bind (int_lt (wpAny_bind (wpAny_pure (wpAny_pure ?_))))))
      dsimp only
      refine wpAny_pure (wpAny_pure ?_)
      rw [show tupLt (x1, x2) (y1, y2) = decide (x2 < y2) from by simp [tupLt, e1]] at h
      exact h
  · rw [beq_eq_false_iff_ne.mpr e1]
    simp only [Bool.not_false, if_true]
    refine wpAny_bind (wpAny_rule (wpAny_bind (int_lt (wpAny_bind (wpAny_pure (wpAny_pure ?_))))))
    dsimp only
    refine wpAny_pure (wpAny_pure ?_)
    rw [show tupLt (x1, x2) (y1, y2) = decide (x1 < y1) from by simp [tupLt, e1]] at h
    exact h
theorem tup_lt {a b : Addr} {x1 x2 y1 y2 : Int} {t1 t2 u1 u2 : Tok} {Q : Value → Shared → Prop} (hu : A.units < cLine) (hx : s.heap.IsTuple a #[.int x1 t1, .int x2 t2]) (hy : s.heap.IsTuple b #[.int y1 u1, .int y2 u2])
    (h : Q (.bool (tupLt (x1, x2) (y1, y2))) s) : wpAny (model prog w) A (richCompare .Lt (.ref a) (.ref b)) Q E s :=
  wpAny_richCompare_same_room (op := .Lt) hx.typeIs hy.typeIs F.slot_tuple_lt
      (wpAny_call_entry F.slot_tuple_lt hx.typeIs PySem.F.entry_tuple_lt (tup_lt_tree hx hy ⟨_, rfl, (fun e => nomatch e), h⟩) (F.args_tuple_lt_2 _ _)) hu
end
end Mine
end

section
set_option maxHeartbeats 400000
namespace Mine
open PySem PySem.Calls PyProof.Rows PyProof.V PySem.Spec
section
open Builtin
variable {prog : Program} {w : World} {A : Around} {E : Value → Shared → Prop} {s : Shared}
theorem min_pair {l a b : Addr} {x1 x2 y1 y2 : Int} {t1 t2 u1 u2 : Tok} {Q : Value → Shared → Prop} (hh : A.handled = none) (hu : A.units + 2 < cLine) (hl : s.heap.IsList l #[.ref a, .ref b]) (hx : s.heap.IsTuple a #[.int x1 t1, .int x2 t2]) (hy : s.heap.IsTuple b #[.int y1 u1, .int y2 u2])
    (h : ∀ h' tk, (∀ c o, s.heap.get? c = some o → h'.get? c = some o) → Q (.ref (if tupLt (y1, y2) (x1, x2) then b else a)) { s with heap := h', toks := tk }) :
    wpAny (model prog w) A (call (.builtin "min") [.ref l]) Q E s := by
  have hname : (toString "min" ++ toString ".loop" : String) = "min.loop" := by decide
  refine call_function_tree F.kind_min F.plain_min PySem.F.entry_min (F.args_min1 _) ?_
  show wpAny _ A.in1 (Builtin.Builtins.bindParams "min" ["key", "default"] 0 ⟨[], []⟩ >>= _) _ _ s
  refine wpAny_bind (wpAny_of_eq (show Builtin.Builtins.bindParams "min" ["key", "default"] 0 ⟨[], []⟩ = pure [none, none] from rfl) ?_)
  refine wpAny_bind (wpAny_pure ?_)
  refine wpAny_bind (wpAny_pyIter_list hl ?_)
  refine wpAny_bind (wpAny_newObj_type ?_)
  rw [hname]
  refine wpAny_pure ⟨plainId_quiet F.plain_min_loop _, ?_⟩
  have hlt : l < s.heap.objs.size := by obtain ⟨o, ho, _⟩ := hl; exact Heap.lt_size ho
  have hne : l ≠ s.heap.objs.size := Nat.ne_of_lt hlt
  have W := Walks.list (prog := prog) (w := w) (A := A.in1) hh s.heap.objs.size l hne #[.ref a, .ref b]
  generalize hH : (s.heap.push { cls := .type "list_iterator", data := .fields #[.ref l, .int 0 0] }).push { cls := .type "list", data := .seq ([] : List Value).toArray } = H
  have hsz : (s.heap.push { cls := .type "list_iterator", data := .fields #[.ref l, .int 0 0] }).objs.size = s.heap.objs.size + 1 := Heap.size_push ..
  rw [hsz]
  have hk0 : ∀ c o, s.heap.get? c = some o → H.get? c = some o := fun c o e => hH ▸ Heap.get?_push_of_some _ (Heap.get?_push_of_some _ e)
  have hS0 : H.get? (s.heap.objs.size + 1) = some { cls := .type "list", data := .seq #[] } := hH ▸ hsz ▸ Heap.get?_push_size _ rfl
  have st0 : (fun i h => Heap.IsListIter h s.heap.objs.size l i ∧ h.IsList l #[.ref a, .ref b]) 0 H := ⟨⟨_, hH ▸ Heap.get?_push_of_some _ (Heap.get?_push_size _ rfl), rfl, rfl⟩, hl.at fun o e => hk0 _ _ e⟩
  have hSw : s.heap.objs.size + 1 ∉ [s.heap.objs.size] := fun q => by exact Nat.succ_ne_self _ (List.mem_singleton.mp q)
  have hSf : ∀ c ∈ [s.heap.objs.size, l], s.heap.objs.size + 1 ≠ c := fun c q => by
    rcases List.mem_cons.mp q with e | q
    · exact fun q' => Nat.succ_ne_self _ (q'.trans e)
    · intro e
      have h2 : s.heap.objs.size + 1 < s.heap.objs.size := by rw [show s.heap.objs.size + 1 = l from e.trans (List.mem_singleton.mp q)]; exact hlt
      exact absurd h2 (Nat.not_lt.mpr (Nat.le_succ _))
  have old : ∀ c o, s.heap.get? c = some o → c ∉ [s.heap.objs.size] ∧ s.heap.objs.size + 1 ≠ c := fun c o e => by
    have := Heap.lt_size e
    exact ⟨fun q => by rw [List.mem_singleton.mp q] at this; exact Nat.lt_irrefl _ this, fun q => by rw [← q] at this; exact absurd this (Nat.not_lt.mpr (Nat.le_succ _))⟩
  refine codeAny_builtin F.entry_min_loop ?_
  rw [Around.under_plainId F.plain_min_loop _]
  show wpAny _ A.in1 (seqItems? (.ref (s.heap.objs.size + 1)) >>= _) _ _ _
  refine wpAny_bind (wpAny_seqItems hS0 rfl ?_)
  show wpAny _ A.in1 (tryCatch (pyNext (.ref s.heap.objs.size)) _ >>= _) _ _ _
  refine wpAny_bind (wpAny_tryCatch (W.item 0 _ _ _ (by simp) st0 fun v1 h1 tk1 hP1 st1 hk1 => ?_))
  have hv1 : v1 = .ref a := (Option.some.inj hP1).symm
  subst hv1
  have hS1 := hk1 _ _ hSw hS0
  show wpAny _ A.in1 (updateSeq (s.heap.objs.size + 1) (fun _ => #[.ref a, .ref a]) >>= _) _ _ _
  refine wpAny_bind ?_
  refine wpAny_updateSeq hS1 rfl ?_
  rw [hname]
  refine wpAny_pure ⟨plainId_quiet F.plain_min_loop _, ?_⟩
  have st1' := W.frame 1 h1 (h1.update (s.heap.objs.size + 1) (Obj.mapSeq fun _ => #[.ref a, .ref a])) st1 fun c q o e => (Heap.get?_update_other _ _ (hSf c q)).trans e
  have hS1' := Heap.get?_update_self (Obj.mapSeq fun _ => #[.ref a, .ref a]) hS1 rfl
  have hk1' : ∀ c o, s.heap.get? c = some o → (h1.update (s.heap.objs.size + 1) (Obj.mapSeq fun _ => #[.ref a, .ref a])).get? c = some o := fun c o e => (Heap.get?_update_other _ _ (old c o e).2).trans (hk1 c o (old c o e).1 (hk0 c o e))
  generalize h1.update (s.heap.objs.size + 1) (Obj.mapSeq fun _ => #[.ref a, .ref a]) = H1 at st1' hS1' hk1' ⊢
  refine codeAny_builtin F.entry_min_loop ?_
  rw [Around.under_plainId F.plain_min_loop _]
  show wpAny _ A.in1 (seqItems? (.ref (s.heap.objs.size + 1)) >>= _) _ _ _
  refine wpAny_bind (wpAny_seqItems hS1' rfl ?_)
  show wpAny _ A.in1 (tryCatch (pyNext (.ref s.heap.objs.size)) _ >>= _) _ _ _
  refine wpAny_bind (wpAny_tryCatch (W.item 1 _ _ _ (by simp) st1' fun v2 h2 tk2 hP2 st2 hk2 => ?_))
  have hv2 : v2 = .ref b := (Option.some.inj hP2).symm
  subst hv2
  have hS2 := hk2 _ _ hSw hS1'
  have hk2' : ∀ c o, s.heap.get? c = some o → h2.get? c = some o := fun c o e => hk2 c o (old c o e).1 (hk1' c o e)
  show wpAny _ A.in1 (tryCatch (holding [.ref b, .ref b] (richCompare .Lt (.ref b) (.ref a) >>= _)) _ >>= _) _ _ _
  refine wpAny_bind (wpAny_tryCatch (wpAny_holding (wpAny_bind (tup_lt ?_ (hy.at fun o e => hk2' _ _ e) (hx.at fun o e => hk2' _ _ e) ?_))))
  · first | (show A.units + 1 < cLine; omega) | (rw [Around.units_in1]; omega) | (simp only [Around.in1]; omega)
  refine wpAny_bind (wpAny_holding (wpAny_truthy_bool ?_))
  refine wpAny_bind (wpAny_letGo (wpAny_pure ?_))
  have fin : ∀ (H3 : Heap) (v : Value) (c : Nat) (tk : Nat), Heap.IsListIter H3 s.heap.objs.size l 2 ∧ H3.IsList l #[.ref a, .ref b] → H3.get? (s.heap.objs.size + 1) = some { cls := .type "list", data := .seq #[v, v] c } →
      (∀ c o, s.heap.get? c = some o → H3.get? c = some o) → (∀ h' tk, (∀ c o, s.heap.get? c = some o → h'.get? c = some o) → Q v { s with heap := h', toks := tk }) →
      codeAny (model prog w) A (.builtin "min.loop" ⟨[.ref s.heap.objs.size, .none, .ref (s.heap.objs.size + 1)], []⟩) (wants Q E) { s with heap := H3, toks := tk } := by
    intro H3 v c tk st3 hS3 hk3 hQ
    refine codeAny_builtin F.entry_min_loop ?_
    rw [Around.under_plainId F.plain_min_loop _]
    show wpAny _ A.in1 (seqItems? (.ref (s.heap.objs.size + 1)) >>= _) _ _ _
    refine wpAny_bind (wpAny_seqItems hS3 rfl ?_)
    show wpAny _ A.in1 (tryCatch (pyNext (.ref s.heap.objs.size)) _ >>= _) _ _ _
    refine wpAny_bind (wpAny_tryCatch (W.done _ _ _ st3 fun h4 tk4 hk4 => ?_))
    have hS4 := hk4 _ _ hSw hS3
    show wpAny _ A.in1 (updateSeq (s.heap.objs.size + 1) (fun _ => #[]) >>= _) _ _ _
    refine wpAny_bind ?_
    refine wpAny_updateSeq hS4 rfl (wpAny_bind (wpAny_letGo (wpAny_pure ?_)))
    exact hQ _ _ fun c o e => (Heap.get?_update_other _ _ (old c o e).2).trans (hk4 c o (old c o e).1 (hk3 c o e))
  cases hb : tupLt (y1, y2) (x1, x2) with
  | true =>
    rw [hb] at h
    simp only [if_true]
    refine wpAny_bind ?_
    refine wpAny_updateSeq hS2 rfl (wpAny_bind (wpAny_letGo ?_))
    rw [hname]
    refine wpAny_pure ⟨plainId_quiet F.plain_min_loop _, ?_⟩
    exact fin _ (.ref b) _ _ (W.frame 2 h2 _ st2 fun c q o e => (Heap.get?_update_other _ _ (hSf c q)).trans e) (Heap.get?_update_self _ hS2 rfl) (fun c o e => (Heap.get?_update_other _ _ (old c o e).2).trans (hk2' c o e)) h
  | false =>
    rw [hb] at h
    simp only [Bool.false_eq_true, if_false]
    refine wpAny_bind (wpAny_letGo ?_)
    rw [hname]
    refine wpAny_pure ⟨plainId_quiet F.plain_min_loop _, ?_⟩
    exact fin _ (.ref a) _ _ st2 hS2 hk2' h
end
end Mine
end

section
set_option maxHeartbeats 400000
namespace Mine
open PySem PySem.Calls PyProof.Rows PyProof.V PySem.Spec PyProof.Rows.LCg
abbrev tupLL (xs : Array Value) : Obj := { cls := .type "tuple", data := .seq xs }
structure Tp where
  A : Addr
  k : Nat
  v : Int
  t : Tok
  u : Tok
abbrev Tp.ent (p : Tp) : Addr × Obj := (p.A, tupLL #[.int (p.k : Int) p.t, .int p.v p.u])
/-- what is left of the block: a value (y, z) under each key x -/
def NcRest (prog : Program) (w : World) (A : Around) (h₀ : Heap) (L : Addr) (m : Str → Option Value) (env : Env) (elt : PySem.Expr) (a b c : Str) (scope : Scope) (cl : List (Str × Addr)) (s : Shared) (S : List (Addr × Obj) → Prop)
    (Fin : List Value → List (Addr × Obj) → Prop) : List (Int × Tp) → List Value → List (Addr × Obj) → Prop
  | [], ys, news => Fin ys news
  | p :: r, ys, news => ∀ (t : Tok) I oI C oC D m₂ h tk (E' : Value → Shared → Prop), NsObj oC m₂ → m₂ a = some (.int p.1 t) → m₂ b = some (.int (p.2.k : Int) p.2.t) → m₂ c = some (.int p.2.v p.2.u) → Fr h₀ L h m → News h₀ L h ((I, oI) :: (C, oC) :: (D, lst ys) :: news) → Off3 I C D news → ((@Ne Nat I C) ∧ (@Ne Nat I D) ∧ (@Ne Nat C D)) →
      wpAny (model prog w) A (eval elt (compEnvC scope cl C env)) (CompEnd h₀ L m { s with heap := h, toks := tk } I oI C oC D (lst ys) S (fun y news' => NcRest prog w A h₀ L m env elt a b c scope cl s S Fin r (ys ++ [y]) news')) E' { s with heap := h, toks := tk }
section
variable {prog : Program} {w : World} {A : Around} {E : Value → Shared → Prop} {s : Shared}
theorem nc_assign {env : Env} {a b c : Str} {pa pb pc tp tq : Pos} {k1 k2 : Nat} {T T2 : Addr} {x y z : Value} {m : Str → Option Value} {Q : Unit → Shared → Prop} (hh : A.handled = none) (ht : s.heap.IsTuple T #[x, .ref T2]) (ht2 : s.heap.IsTuple T2 #[y, z]) (hT2 : T2 ≠ env.locals)
    (ha : env.kindOf a = some .local) (hb : env.kindOf b = some .local) (hc : env.kindOf c = some .local) (hp : (env.scope.kind == .class || (env.scope.kind == .module && env.locals != env.globals)) = false) (hn : s.heap.Ns env.locals m)
    (h : ∀ (h' : Heap) (tk : Nat), h'.Ns env.locals (fun n => if n = c then some z else if n = b then some y else if n = a then some x else m n) → (∀ c o, c ≠ env.locals → s.heap.get? c = some o → h'.get? c = some o) → Q () { s with heap := h', toks := tk }) :
    wpAny (model prog w) A (assign (.Tuple [.Name a pa, .Tuple [.Name b pb, .Name c pc] k2 tq] k1 tp) env (.ref T)) Q E s := by
  refine wpAny_assign_Tuple hh ht rfl rfl fun h₁ he₁ => ?_
  have hL : env.locals ≠ s.heap.objs.size := Nat.ne_of_lt hn.lt
  have hn₁ : h₁.Ns env.locals m := hn.at' fun o e => he₁ _ o hL e
  have up₁ : ∀ c o, s.heap.get? c = some o → h₁.get? c = some o := fun c o e => he₁ c o (Nat.ne_of_lt (Heap.lt_size e)) e
  show wpAny _ _ (assignInOrder [assign (.Name a pa) env, assign (.Tuple [.Name b pb, .Name c pc] k2 tq) env] [x, .ref T2]) _ _ _
  refine assignInOrder_cons ?_
  refine wpAny_assign_Name (wpAny_storeName_local ha hn₁ (fun h₂ hn₂ hs₂ => ?_) hp)
  refine assignInOrder_cons ?_
  have ht3 : h₂.IsTuple T2 #[y, z] := by
    obtain ⟨o, e, r⟩ := ht2
    exact ⟨o, hs₂.extBut _ o hT2 (up₁ _ o e), r⟩
  refine wpAny_assign_Tuple hh ht3 rfl rfl fun h₃ he₃ => ?_
  have hL₃ : env.locals ≠ h₂.objs.size := Nat.ne_of_lt hn₂.lt
  have hn₃ : h₃.Ns env.locals _ := hn₂.at' fun o e => he₃ _ o hL₃ e
  have up₃ : ∀ c o, h₂.get? c = some o → h₃.get? c = some o := fun c o e => he₃ c o (Nat.ne_of_lt (Heap.lt_size e)) e
  show wpAny _ _ (assignInOrder [assign (.Name b pb) env, assign (.Name c pc) env] [y, z]) _ _ _
  refine assignInOrder_cons ?_
  refine wpAny_assign_Name (wpAny_storeName_local hb hn₃ (fun h₄ hn₄ hs₄ => ?_) hp)
  refine assignInOrder_cons ?_
  refine wpAny_assign_Name (wpAny_storeName_local hc hn₄ (fun h₅ hn₅ hs₅ => ?_) hp)
  refine assignInOrder_nil ?_
  refine assignInOrder_nil ?_
  exact h h₅ _ hn₅ fun c o hc e => hs₅.extBut c o hc (hs₄.extBut c o hc (up₃ c o (hs₂.extBut c o hc (up₁ c o e))))
end
def NcAt (d : Addr) (od : Obj) (xs : List (Int × Tp)) (news : List (Addr × Obj)) : Prop := (d, od) ∈ news ∧ ∀ p ∈ xs, p.2.ent ∈ news
section
variable {prog : Program} {w : World} {A : Around} {E : Value → Shared → Prop} {s : Shared} {h₀ : Heap} {L : Addr} {m : Str → Option Value} {env : Env} {ep : Nat}
abbrev kvsOf (xs : List (Int × Tp)) : List (Int × Value) := xs.map fun p => (p.1, .ref p.2.A)
/-- the block's own objects, the iterator I, the list D and the names C, stand apart from each other, from the frame's L and from the heap at its start -/
structure NcThree (h₀ : Heap) (L I D C : Nat) : Prop where
  li : L ≠ I
  ld : L ≠ D
  lc : L ≠ C
  ic : I ≠ C
  id : I ≠ D
  dc : D ≠ C
  i0 : h₀.get? I = none
  d0 : h₀.get? D = none
  c0 : h₀.get? C = none
theorem nc_none {h : Heap} (F : Fr h₀ L h m) {x : Nat} (hx : h.objs.size ≤ x) : h₀.get? x = none :=
  Heap.get?_none_of_le (Nat.le_trans F.above (Nat.le_trans (Nat.le_of_lt F.ns.lt) hx))
theorem nc_three {h : Heap} {I : Nat} (F : Fr h₀ L h m) (hI : I < h.objs.size) (li : L ≠ I) (i0 : h₀.get? I = none) : NcThree h₀ L I h.objs.size (h.objs.size + 1) where
  li := li
  ld := Nat.ne_of_lt F.ns.lt
  lc := Nat.ne_of_lt (Nat.lt_succ_of_lt F.ns.lt)
  ic := Nat.ne_of_lt (Nat.lt_succ_of_lt hI)
  id := Nat.ne_of_lt hI
  dc := Nat.ne_of_lt (Nat.lt_succ_self _)
  i0 := i0
  d0 := nc_none F (Nat.le_refl _)
  c0 := nc_none F (Nat.le_succ _)
/-- the block ahead of its i-th turn: ys is made, news are the objects that count -/
structure NcNow (prog : Program) (w : World) (A : Around) (h₀ : Heap) (L : Addr) (m : Str → Option Value) (env : Env) (elt : PySem.Expr) (a b c : Str) (scope : Scope) (cl : List (Str × Addr)) (s : Shared) (d : Addr) (od : Obj) (ep : Nat) (xs : List (Int × Tp))
    (Fin : List Value → List (Addr × Obj) → Prop) (I D C : Nat) (i : Nat) (ys : List Value) (news : List (Addr × Obj)) (h : Heap) : Prop where
  iter : ∃ ok ov, IsItemIter h I d i (kvsOf xs).length ep ok ov
  fr : Fr h₀ L h m
  own : ∃ m', h.Ns C m'
  acc : h.get? D = some (lst ys)
  new : News h₀ L h news
  off : Off3 I C D news
  src : NcAt d od xs news
  len : ys.length = i
  rest : NcRest prog w A h₀ L m env elt a b c scope cl s (NcAt d od xs) Fin (xs.drop i) ys news
/-- the block is through -/
structure NcDone (h₀ : Heap) (L : Addr) (m : Str → Option Value) (D C : Nat) (ys : List Value) (news : List (Addr × Obj)) (h : Heap) : Prop where
  fr : Fr h₀ L h m
  new : News h₀ L h ((D, lst ys) :: news)
  off : Off1 D news
  own : ∃ m', h.Ns C m'
  lc : L ≠ C
  c0 : h₀.get? C = none
  far : ∀ p ∈ (D, lst ys) :: news, p.1 ≠ C
section
variable {elt : PySem.Expr} {a b c : Str} {scope : Scope} {cl : List (Str × Addr)} {d : Addr} {od : Obj} {xs : List (Int × Tp)} {Fin : List Value → List (Addr × Obj) → Prop} {I D C i : Nat} {ys : List Value} {news : List (Addr × Obj)} {h : Heap}
/-- the item is drawn and its names are stored: what the element's tree is met with -/
theorem NcNow.mid (T : NcThree h₀ L I D C) (B : NcNow prog w A h₀ L m env elt a b c scope cl s d od ep xs Fin I D C i ys news h) {g : Heap} (up : ∀ (x : Nat) o, x ≠ I → x ≠ C → h.get? x = some o → g.get? x = some o)
    {oI oC : Obj} (eI : g.get? I = some oI) (eC : g.get? C = some oC) : Fr h₀ L g m ∧ News h₀ L g ((I, oI) :: (C, oC) :: (D, lst ys) :: news) := by
  refine ⟨⟨B.fr.ns.at' fun o => up L o T.li T.lc, fun x o e => ?_, B.fr.above⟩, fun p hp => ?_⟩
  · have nI : x ≠ I := by rintro rfl; rw [T.i0] at e; cases e
    have nC : x ≠ C := by rintro rfl; rw [T.c0] at e; cases e
    exact up x o nI nC (B.fr.keep x o e)
  · simp only [List.mem_cons] at hp
    rcases hp with rfl | rfl | rfl | hp
    · exact ⟨eI, T.li.symm, T.i0⟩
    · exact ⟨eC, T.lc.symm, T.c0⟩
    · exact ⟨up D _ T.id.symm T.dc B.acc, T.ld.symm, T.d0⟩
    · have far := B.off.mem p hp
      exact ⟨up _ _ far.1 far.2.1 (B.new p hp).1, (B.new p hp).2⟩
/-- the element's value stands in the list: the block ahead of its next turn -/
theorem NcNow.made (T : NcThree h₀ L I D C) {oI oC : Obj} {y : Value} {g : Heap} {mc : Str → Option Value} (keepI : ∀ k : Heap, k.get? I = some oI → ∃ ok ov, IsItemIter k I d (i + 1) (kvsOf xs).length ep ok ov) (objC : NsObj oC mc)
    (F : Fr h₀ L h m) (N : News h₀ L h ((I, oI) :: (C, oC) :: (D, lst ys) :: news)) (O : Off3 I C D news) (S : NcAt d od xs news) (len : ys.length = i)
    (R : NcRest prog w A h₀ L m env elt a b c scope cl s (NcAt d od xs) Fin (xs.drop (i + 1)) (ys ++ [y]) news) (sm : Heap.SameBut D h g) (eD : g.get? D = some { cls := .type "list", data := .seq (ys.toArray.push y) (ys.length + 1) }) :
    NcNow prog w A h₀ L m env elt a b c scope cl s d od ep xs Fin I D C (i + 1) (ys ++ [y]) news g where
  iter := keepI g ((sm.2 I T.id).trans (N (I, oI) (by simp)).1)
  fr := F.change sm T.ld.symm T.d0
  own := ⟨mc, objC.ns ((sm.2 C T.dc.symm).trans (N (C, oC) (by simp)).1)⟩
  acc := by rw [eD, lst_snoc]
  new := fun p hp => have q := N p (by simp [hp]); ⟨(sm.2 p.1 (O.mem p hp).2.2).trans q.1, q.2⟩
  off := O
  src := S
  len := by rw [List.length_append, len]; rfl
  rest := R
/-- no item is left -/
theorem NcNow.done (T : NcThree h₀ L I D C) (B : NcNow prog w A h₀ L m env elt a b c scope cl s d od ep xs Fin I D C (kvsOf xs).length ys news h) {g : Heap} (up : ∀ (x : Nat) o, x ∉ [I] → h.get? x = some o → g.get? x = some o) :
    NcDone h₀ L m D C ys news g ∧ Fin ys news := by
  have far := B.off.mem
  have ups : ∀ (x : Nat) o, x ≠ I → h.get? x = some o → g.get? x = some o := fun x o hx => up x o (by rw [List.mem_singleton]; exact hx)
  obtain ⟨m', hm'⟩ := B.own
  have r := B.rest
  rw [show xs.drop (kvsOf xs).length = [] by rw [List.length_map]; exact List.drop_length] at r
  refine ⟨⟨fr_but B.fr up T.li T.i0, fun p hp => ?_, B.off.one, ⟨m', hm'.at' fun o => ups C o T.ic.symm⟩, T.lc, T.c0, fun p hp => ?_⟩, r⟩
  · rcases List.mem_cons.mp hp with e | e
    · rw [e]; exact ⟨ups D _ T.id.symm B.acc, T.ld.symm, T.d0⟩
    · exact ⟨ups _ _ (far p e).1 (B.new p e).1, (B.new p e).2⟩
  · rcases List.mem_cons.mp hp with e | e
    · rw [e]; exact T.dc
    · exact (far p e).2.1
end
theorem nc_block {elt iter : PySem.Expr} {a b c : Str} {pa pb pc tp tq : Pos} {k1 k2 : Nat} {scope : Scope} {cl : List (Str × Addr)} {pos : Pos} {s₂ : Shared} {I d : Addr} {od : Obj} {ok ov : Value} {xs : List (Int × Tp)} {news : List (Addr × Obj)}
    {Fin : List Value → List (Addr × Obj) → Prop} {RR : Value → Addr → Result → Shared → Prop}
    (hh : A.handled = none) (hne : d ≠ I) (hsz : (kvsOf xs).length ≤ sizeLine) (hat : KdkAt (intKind prog w) od (kvsOf xs) ep)
    (hit : IsItemIter s₂.heap I d 0 (kvsOf xs).length ep ok ov) (hS : NcAt d od xs news) (hcell : ∀ y ∈ scope.names, y.2 ≠ .cell) (hkind : scope.kind = .function)
    (hxa : scope.names.lookup a = some .local) (hxb : scope.names.lookup b = some .local) (hxc : scope.names.lookup c = some .local) (hab : ¬ a = b) (hac : ¬ a = c) (hbc : ¬ b = c)
    (F : Fr h₀ L s₂.heap m) (N : News h₀ L s₂.heap news) (li : L ≠ I) (i0 : h₀.get? I = none) (far : ∀ p ∈ news, p.1 ≠ I)
    (R : NcRest prog w A h₀ L m env elt a b c scope cl s₂ (NcAt d od xs) Fin xs [] news)
    (through : ∀ (D C : Addr) (h : Heap) (tk : Nat) (ys : List Value) (news' : List (Addr × Obj)), NcDone h₀ L m D C ys news' h → Fin ys news' → RR (.ref D) C (.ok .next) { s₂ with heap := h, toks := tk }) :
    wpAny (model prog w) A (newList []) (fun acc s₃ => wpAny (model prog w) A (newFunctionEnv scope env.globals cl [] env.qual none .none (some env)) (fun cenv s₄ =>
      codeAny (model prog w) A (.compStart (.ListComp elt [⟨.Tuple [.Name a pa, .Tuple [.Name b pb, .Name c pc] k2 tq] k1 tp, iter, [], 0⟩] scope pos) 0 (.ref I) acc { cenv with scope := relabel scope env }) (RR acc cenv.locals) s₄) E s₃) E s₂ := by
  refine wpAny_newObj_type (wpAny_newFunctionEnv hcell (fun _ hy => by cases hy) (fun g names born => ?_) hkind)
  simp only [Heap.size_push] at names born ⊢
  have T : NcThree h₀ L I s₂.heap.objs.size (s₂.heap.objs.size + 1) := nc_three F (Heap.lt_size hit) li i0
  have up : ∀ x o, s₂.heap.get? x = some o → g.get? x = some o := fun x o e =>
    born.extBut x o (Nat.ne_of_lt (Nat.lt_succ_of_lt (Heap.lt_size e))) (Heap.get?_push_of_some _ (Heap.get?_push_of_some _ e))
  have B0 : NcNow prog w A h₀ L m env elt a b c scope cl s₂ d od ep xs Fin I s₂.heap.objs.size (s₂.heap.objs.size + 1) 0 [] news g :=
    { iter := ⟨_, _, up _ _ hit⟩, fr := F.keeps up, own := ⟨_, names⟩, acc := born.extBut _ _ T.dc (Heap.get?_push_of_some _ (Heap.get?_push_size _ rfl)),
      new := fun p hp => ⟨up _ _ (N p hp).1, (N p hp).2⟩,
      off := Off3.of fun p hp => ⟨far p hp, Nat.ne_of_lt (Nat.lt_succ_of_lt (Heap.lt_size (N p hp).1)), Nat.ne_of_lt (Heap.lt_size (N p hp).1)⟩,
      src := hS, len := rfl, rest := R }
  have W := kti_itemsTurns (knd := intKind prog w) (elts := [.Name a pa, .Tuple [.Name b pb, .Name c pc] k2 tq]) (kk := k1) (pos := tp) hh I d hne (kvsOf xs) ep
  have whole : ∀ t : Shared, t = { s₂ with heap := g, toks := s₂.toks + ([] : List (Str × Value)).length } →
      codeAny (model prog w) A (.compLoop (.ListComp elt [⟨.Tuple [.Name a pa, .Tuple [.Name b pb, .Name c pc] k2 tq] k1 tp, iter, [], 0⟩] scope pos) 0 (.ref I) (.ref s₂.heap.objs.size) (compEnvC scope cl (s₂.heap.objs.size + 1) env))
        (RR (.ref s₂.heap.objs.size) (s₂.heap.objs.size + 1)) t := by
    intro t et
    refine kcp_loop (fun k t => ∃ h tk i ys now, t = { s₂ with heap := h, toks := tk } ∧ i ≤ (kvsOf xs).length ∧ k = (kvsOf xs).length + 1 - i ∧
      NcNow prog w A h₀ L m env elt a b c scope cl s₂ d od ep xs Fin I s₂.heap.objs.size (s₂.heap.objs.size + 1) i ys now h) ?_ ((kvsOf xs).length + 1) ⟨g, _, 0, [], news, et, Nat.zero_le _, rfl, B0⟩
    rintro k _ ⟨h, tk, i, ys, now, rfl, hi, rfl, B⟩
    have dict : h.DictAt (intKind prog w) d (kvsOf xs) ep := hat.dictAt (B.new _ B.src.1).1
    rcases Nat.lt_or_eq_of_le hi with lt | rfl
    · refine W.item i _ _ _ lt ⟨B.iter, dict⟩ fun v g1 tk1 between k1 => ?_
      refine W.go i v _ _ _ between fun g2 drawn next k2 => ?_
      have kept : ∀ (x : Nat) o, x ≠ I → h.get? x = some o → g2.get? x = some o := fun x o hx e => have nm : x ∉ [I] := by { rw [List.mem_singleton]; exact hx }; k2 x o nm (k1 x o nm e)
      obtain ⟨P, key, key', val, rfl, at_, isKey, pair⟩ := drawn
      have lx : i < xs.length := by rwa [List.length_map] at lt
      have inS : xs[i].2.ent ∈ now := B.src.2 _ (List.getElem_mem lx)
      obtain ⟨e1, e2⟩ : xs[i].1 = key' ∧ Value.ref xs[i].2.A = val := by
        rw [List.getElem?_map, List.getElem?_eq_getElem lx] at at_
        simpa using at_
      subst e1 e2
      obtain ⟨tok, rfl⟩ := Value.isInt_shape isKey
      have two : g2.IsTuple xs[i].2.A #[.int (xs[i].2.k : Int) xs[i].2.t, .int xs[i].2.v xs[i].2.u] := ⟨_, kept _ _ (B.off.mem _ inS).1 (B.new _ inS).1, rfl, _, rfl⟩
      obtain ⟨mC, nsC⟩ := B.own
      refine nc_assign (env := compEnvC scope cl (s₂.heap.objs.size + 1) env) hh pair two (B.off.mem _ inS).2.1 (lookup_relabel_local hxa) (lookup_relabel_local hxb) (lookup_relabel_local hxc)
        (by simp [compEnvC, relabel, hkind]) (nsC.at' fun o => kept _ o T.ic.symm) fun g3 tk3 names3 k3 => ?_
      obtain ⟨⟨ok', ov', it2⟩, _⟩ := next
      have it3 : IsItemIter g3 I d (i + 1) (kvsOf xs).length ep ok' ov' := k3 I _ T.ic it2
      obtain ⟨oI, eI, keepI⟩ : ∃ oI : Obj, g3.get? I = some oI ∧ ∀ k : Heap, k.get? I = some oI → ∃ ok ov, IsItemIter k I d (i + 1) (kvsOf xs).length ep ok ov := ⟨_, it3, fun _ e => ⟨_, _, e⟩⟩
      obtain ⟨oC, eC, objC⟩ := ns_obj names3
      obtain ⟨F3, N3⟩ := B.mid T (fun x o hI hC e => k3 x o hC (kept x o hI e)) eI eC
      have rest := B.rest
      rw [List.drop_eq_getElem_cons lx] at rest
      have elem := rest tok I oI (s₂.heap.objs.size + 1) oC s₂.heap.objs.size _ g3 tk3 (notedBy (model prog w) A (compEnvC scope cl (s₂.heap.objs.size + 1) env) fun e s' => RR (.ref s₂.heap.objs.size) (s₂.heap.objs.size + 1) (.error e) s') objC (by simp [hab, hac]) (by simp [hbc]) (by simp) F3 N3 B.off ⟨T.ic, T.id, T.dc.symm⟩
      refine wpAny_mono elem (fun y t made => ?_) fun _ _ e => e
      obtain ⟨h4, tk4, now4, rfl, F4, N4, O4, S4, R4⟩ := made
      refine append_at (N4 (s₂.heap.objs.size, lst ys) (by simp)).1 (fun h5 sm eD => ?_) (by show ys.toArray.size ≤ sizeLine; rw [List.size_toArray, B.len]; exact Nat.le_trans hi hsz)
      exact ⟨_, Nat.sub_lt_sub_left (Nat.lt_succ_of_lt lt) (Nat.lt_succ_self i), h5, tk4, i + 1, ys ++ [y], now4, rfl, lt, rfl, .made T keepI objC F4 N4 O4 S4 B.len R4 sm eD⟩
    · refine W.done _ _ _ ⟨B.iter, dict⟩ fun g1 tk1 k1 => ?_
      obtain ⟨B1, fin⟩ := B.done T k1
      exact through _ _ g1 tk1 ys now B1 fin
  exact codeAny_compStart_list (whole _ rfl) (kcp_self (up _ _ hit) (whole _ rfl))
theorem NcRest.nil {elt : PySem.Expr} {a b c : Str} {scope : Scope} {cl : List (Str × Addr)} {S : List (Addr × Obj) → Prop} {Fin : List Value → List (Addr × Obj) → Prop} {ys : List Value} {news : List (Addr × Obj)} (h : Fin ys news) : NcRest prog w A h₀ L m env elt a b c scope cl s S Fin [] ys news := h
theorem NcRest.cons {elt : PySem.Expr} {a b c : Str} {scope : Scope} {cl : List (Str × Addr)} {S : List (Addr × Obj) → Prop} {Fin : List Value → List (Addr × Obj) → Prop} {x : Int} {p : Tp} {r : List (Int × Tp)} {ys : List Value} {news : List (Addr × Obj)}
    (h : ∀ (t : Tok) I oI C oC D m₂ h tk (E' : Value → Shared → Prop), NsObj oC m₂ → m₂ a = some (.int x t) → m₂ b = some (.int (p.k : Int) p.t) → m₂ c = some (.int p.v p.u) → Fr h₀ L h m → News h₀ L h ((I, oI) :: (C, oC) :: (D, lst ys) :: news) → Off3 I C D news → ((@Ne Nat I C) ∧ (@Ne Nat I D) ∧ (@Ne Nat C D)) →
      wpAny (model prog w) A (eval elt (compEnvC scope cl C env)) (CompEnd h₀ L m { s with heap := h, toks := tk } I oI C oC D (lst ys) S (fun y news' => NcRest prog w A h₀ L m env elt a b c scope cl s S Fin r (ys ++ [y]) news')) E' { s with heap := h, toks := tk }) :
    NcRest prog w A h₀ L m env elt a b c scope cl s S Fin ((x, p) :: r) ys news := h
/-- a block over the items of a dict of two-int tuples -/
def NcSrc (prog : Program) (w : World) (A : Around) (h₀ : Heap) (L : Addr) (m : Str → Option Value) (env : Env) (elt : PySem.Expr) (a b c : Str) (scope : Scope) (cl : List (Str × Addr)) (Fin : Shared → List Value → List (Addr × Obj) → Prop) (xv : Value) (s₁ : Shared) : Prop :=
  ∃ (vw d : Addr) (od : Obj) (xs : List (Int × Tp)) (news : List (Addr × Obj)), xv = .ref vw ∧ A.handled = none ∧ Fr h₀ L s₁.heap m ∧ News h₀ L s₁.heap news ∧
    (∃ ov, s₁.heap.get? vw = some ov ∧ ov.cls = .type "dict_items" ∧ ov.data = .fields #[.ref d]) ∧ NcAt d od xs news ∧ od.IsDictOf (intKind prog w) (kvsOf xs) ∧ (kvsOf xs).length ≤ sizeLine ∧
    ∀ g : Heap, NcRest prog w A h₀ L m env elt a b c scope cl { s₁ with heap := g } (NcAt d od xs) (Fin { s₁ with heap := g }) xs [] news
theorem NcSrc.intro {elt : PySem.Expr} {a b c : Str} {scope : Scope} {cl : List (Str × Addr)} {Fin : Shared → List Value → List (Addr × Obj) → Prop} {vw d : Addr} {od : Obj} (xs : List (Int × Tp)) {news : List (Addr × Obj)} {s₁ : Shared}
    (hh : A.handled = none) (F : Fr h₀ L s₁.heap m) (N : News h₀ L s₁.heap news) (hv : ∃ ov, s₁.heap.get? vw = some ov ∧ ov.cls = .type "dict_items" ∧ ov.data = .fields #[.ref d]) (hmd : NcAt d od xs news) (hd : od.IsDictOf (intKind prog w) (kvsOf xs)) (hsz : (kvsOf xs).length ≤ sizeLine)
    (h : ∀ g : Heap, NcRest prog w A h₀ L m env elt a b c scope cl { s₁ with heap := g } (NcAt d od xs) (Fin { s₁ with heap := g }) xs [] news) : NcSrc prog w A h₀ L m env elt a b c scope cl Fin (.ref vw) s₁ :=
  ⟨vw, d, od, xs, news, rfl, hh, F, N, hv, hmd, hd, hsz, h⟩
theorem NcSrc.intro2 {elt : PySem.Expr} {a b c : Str} {scope : Scope} {cl : List (Str × Addr)} {Fin : Shared → List Value → List (Addr × Obj) → Prop} {vw d : Addr} {od : Obj} {x1 x2 : Int} {p1 p2 : Tp} {news : List (Addr × Obj)} {s₁ : Shared}
    (hd : od.IsDictOf (intKind prog w) [(x1, .ref p1.A), (x2, .ref p2.A)]) (hh : A.handled = none) (F : Fr h₀ L s₁.heap m) (N : News h₀ L s₁.heap news) (hv : ∃ ov, s₁.heap.get? vw = some ov ∧ ov.cls = .type "dict_items" ∧ ov.data = .fields #[.ref d]) (m0 : (d, od) ∈ news) (m1 : p1.ent ∈ news) (m2 : p2.ent ∈ news)
    (h : ∀ g : Heap, NcRest prog w A h₀ L m env elt a b c scope cl { s₁ with heap := g } (NcAt d od [(x1, p1), (x2, p2)]) (Fin { s₁ with heap := g }) [(x1, p1), (x2, p2)] [] news) : NcSrc prog w A h₀ L m env elt a b c scope cl Fin (.ref vw) s₁ :=
  .intro [(x1, p1), (x2, p2)] hh F N hv ⟨m0, fun p hp => by
    rcases List.mem_cons.mp hp with rfl | hp
    · exact m1
    · rw [List.mem_singleton.mp hp]; exact m2⟩ hd (by rw [sizeLine_eq]; exact Nat.le_of_ble_eq_true rfl) h
theorem nc_ListComp {elt iter : PySem.Expr} {a b c : Str} {pa pb pc tp tq : Pos} {k1 k2 : Nat} {scope : Scope} {cl : List (Str × Addr)} {pos : Pos} {Q : Value → Shared → Prop} (_F₀ : Fr h₀ L s.heap m)
    (hclos : closureFor scope env = pure cl) (hcell : ∀ y ∈ scope.names, y.2 ≠ .cell) (hkind : scope.kind = .function)
    (hnames : ∀ y ∈ scope.names, y.2 = .local → scope.names.lookup y.1 = some .local) (hxa : scope.names.lookup a = some .local) (hxb : scope.names.lookup b = some .local) (hxc : scope.names.lookup c = some .local) (hab : ¬ a = b) (hac : ¬ a = c) (hbc : ¬ b = c)
    (h : wpAny (model prog w) A (eval iter env) (NcSrc prog w A h₀ L m env elt a b c scope cl (fun s₂ => FinE h₀ L m s₂ Q)) E s)
    (hs : ∀ x, foldedSetIterable iter env x = pure x := by intro _; rfl) :
    wpAny (model prog w) A (eval (.ListComp elt [⟨.Tuple [.Name a pa, .Tuple [.Name b pb, .Name c pc] k2 tq] k1 tp, iter, [], 0⟩] scope pos) env) Q E s := by
  rw [eval_ListComp]
  refine wpAny_comprehension_free (use := none) rfl hs hclos hkind hnames (wpAny_mono h (fun xv s₁ h₁ => ?_) fun _ _ e => e)
  obtain ⟨vw, d, od, xs, news, rfl, hh, F, N, hv, hmd, hd, hsz, R⟩ := h₁
  obtain ⟨ep, hat⟩ := KdkAt.of hd
  refine wpAny_pyIter_items hv (hat.dictAt (N _ hmd.1).1) ?_
  refine nc_block (ep := ep) hh (Nat.ne_of_lt (Heap.lt_size (N _ hmd.1).1)) hsz hat (Heap.get?_push_size _ rfl) hmd hcell hkind hxa hxb hxc hab hac hbc (F.push _)
    (News.pushKeep N _) (Nat.ne_of_lt F.ns.lt) (next_is_new F) (fun p hp => Nat.ne_of_lt (Heap.lt_size (N p hp).1)) (R _) fun D C h tk ys now B fin => ?_
  obtain ⟨m', own⟩ := B.own
  exact ⟨m', own, fun g sm => fin D g tk (B.fr.change sm B.lc.symm B.c0) (fun p hp => ⟨(sm.2 p.1 (B.far p hp)).trans (B.new p hp).1, (B.new p hp).2⟩) B.off⟩
theorem nc_spliced {elt iter : PySem.Expr} {a b c : Str} {pa pb pc tp tq : Pos} {k1 k2 : Nat} {scope : Scope} {cl : List (Str × Addr)} {pos po : Pos} {rest : List PySem.Expr} {Q : List Value → Shared → Prop} (F₀ : Fr h₀ L s.heap m)
    (hclos : closureFor scope env = pure cl) (hcell : ∀ y ∈ scope.names, y.2 ≠ .cell) (hkind : scope.kind = .function)
    (hnames : ∀ y ∈ scope.names, y.2 = .local → scope.names.lookup y.1 = some .local) (hxa : scope.names.lookup a = some .local) (hxb : scope.names.lookup b = some .local) (hxc : scope.names.lookup c = some .local) (hab : ¬ a = b) (hac : ¬ a = c) (hbc : ¬ b = c)
    (h : wpAny (model prog w) A (eval iter env) (NcSrc prog w A h₀ L m env elt a b c scope cl (fun s₂ => FinE h₀ L m s₂ (fun v s₁ => wpAny (model prog w) A (spliced (backTo po (starEach rest env))) (fun vs s₂ => Q (v :: vs) s₂) E s₁))) E s)
    (hs : ∀ x, foldedSetIterable iter env x = pure x := by intro _; rfl) :
    wpAny (model prog w) A (spliced (backTo po (starEach (.ListComp elt [⟨.Tuple [.Name a pa, .Tuple [.Name b pb, .Name c pc] k2 tq] k1 tp, iter, [], 0⟩] scope pos :: rest) env))) Q E s :=
  spliced_more (nc_ListComp F₀ hclos hcell hkind hnames hxa hxb hxc hab hac hbc h hs)
end
end Mine
end

section
set_option maxHeartbeats 800000
namespace Mine
open PySem PySem.Calls PyProof.Rows PyProof.V PySem.Spec
local macro_rules | `(tactic| walk_at "storeName") => `(tactic| (k_here; (try dsimp only); k_dflt (refine' my_store ?F ?N ?_ ?a ?b; (case F => k_asm); (case N => k_asm); (case a => rfl); (case b => rfl); k_whole); intro h' tk' kM F' N'; (try k_sweep)))
local macro_rules | `(tactic| k_all) => `(tactic| assumption)
theorem two_nodup {lo hi : Int} {A B : Value} (h : lo ≠ hi) : ([(lo, A), (hi, B)].map (·.1)).Nodup := by
  simp [h]
local macro_rules | `(tactic| walk_at "eval Dict") => `(tactic| (k_here; k_dflt (refine' kdn_eval (knd := PySem.intKind _ _) ?F ?N ?b ?a ?l ?e ?n ?_; (case F => k_asm); (case N => k_asm); (case b => exact Top.nolimit (by k_asm)); (case a => rfl); (case l => rfl); (case e => exact List.cons_ne_nil _ _); (case n => exact Nat.le_of_ble_eq_true rfl)); intro d' h' o' F' N' l1 lo' hd'; (try k_lt l1)))
local macro_rules | `(tactic| walk_at "KdnMade") => `(tactic| (k_here; k_dflt (refine' kdn_made_int ?F ?N ?U ?d ?k ?n ?_; (case F => k_asm); (case N => k_asm); (case U => k_updF); (case d => k_asm); (case k => rfl); (case n => exact two_nodup (by assumption))); intro h' o' F' N' hd'; (try dsimp only at N')))
def tmin (a b : Nat × Int) : Nat × Int := if tupLt ((b.1 : Int), b.2) ((a.1 : Int), a.2) then b else a
def leUp (lead : Int) (p : Nat × Int) : Nat × Int := (p.1 + 1, lead * 16 ^ p.1 + p.2)
def leStep (lo hi : Int) (s : (Nat × Int) × (Nat × Int) × (Nat × Int)) (x : Int) : (Nat × Int) × (Nat × Int) × (Nat × Int) :=
  if x = lo then (s.2.2, s.2.1, tmin (leUp lo s.2.2) (leUp hi s.2.1)) else if x = hi then (s.1, s.2.2, tmin (leUp lo s.1) (leUp hi s.2.2)) else s
def leGo (lo hi : Int) (fs : List Int) : (Nat × Int) × (Nat × Int) × (Nat × Int) := fs.foldl (leStep lo hi) ((0, 0), (0, 0), (1, lo))
structure LeSt where
  o : Obj
  p1 : Tp
  p2 : Tp
  p3 : Tp
structure LeInv (prog : Program) (w : World) (lo hi : Int) (fs : List Int) (nw : List (Addr × Obj)) (i : Nat) (o : Obj) (p1 p2 p3 : Tp) : Prop where
  up : ∀ p ∈ nw, p.1 < p3.A
  few : p1.k ≤ i + 1 ∧ p2.k ≤ i + 1 ∧ p3.k ≤ i + 1
  dat : o.IsDictOf (PySem.intKind prog w) [(lo, .ref p1.A), (hi, .ref p2.A)]
  eq : ((p1.k, p1.v), (p2.k, p2.v), (p3.k, p3.v)) = leGo lo hi (fs.take i)
section
variable {prog : Program} {w : World} {A : Around} {E : Value → Shared → Prop} {s : Shared} {h₀ : Heap} {env : Env} {target : Expr} {body : List Stmt} {Q : Flow → Shared → Prop}
abbrev leLed (d R : Addr) (ws : List Value) (nR : Nat) (news : List (Addr × Obj)) (c : LeSt) : List (Addr × Obj) := (d, c.o) :: c.p1.ent :: c.p2.ent :: c.p3.ent :: (R, listOf ws.toArray nR) :: news
abbrev lePs (c : LeSt) : List (Str × Value) := [("least", .ref c.p3.A)]
abbrev leStored : List Str := [Str.ofString "figure"]
theorem fo_le {lo hi : Int} {fs : List Int} {d R : Addr} {ws : List Value} {nR : Nat} {news : List (Addr × Obj)} {m₀ : Str → Option Value} {o₀ : Obj} {q1 q2 q3 : Tp} (hv : IntsAre ws fs)
    (hh : A.handled = none) (F : Fr h₀ env.locals s.heap m₀) (N : News h₀ env.locals s.heap ((d, o₀) :: q1.ent :: q2.ent :: q3.ent :: (R, listOf ws.toArray nR) :: news)) (hb : m₀ "least" = some (.ref q3.A)) (hdR : @LT.lt Nat _ d R) (hdn : AllLt d news) (h0 : LeInv prog w lo hi fs news 0 o₀ q1 q2 q3)
    (step : ∀ (I : Addr), @LT.lt Nat _ d I → @LT.lt Nat _ d R → AllLt d news → AllLt I news → ∀ i x tx o p1 p2 p3 (u : Str → Option Value) h tk, fs[i]? = some x → LeInv prog w lo hi fs news i o p1 p2 p3 →
      Fr h₀ env.locals h (fun z => if z = "least" then some (.ref p3.A) else if leStored.contains z then u z else m₀ z) → ∀ oi : Obj, oi.cls = .type "list_iterator" → News h₀ env.locals h ((I, oi) :: (d, o) :: p1.ent :: p2.ent :: p3.ent :: (R, listOf ws.toArray nR) :: news) →
      wpAny (model prog w) A (assign target env (.int x tx)) (fun _ s₂ => wpAny (model prog w) A (execs body env) (UnrPostW h₀ env.locals { s with heap := h, toks := tk } [(I, oi)] (fun m' n' => SubL [(R, listOf ws.toArray nR)] n' ∧ FoNext (leLed d R ws nR news) lePs leStored m₀ (fun c => LeInv prog w lo hi fs news (i + 1) c.o c.p1 c.p2 c.p3) m' n') Q) E s₂) E { s with heap := h, toks := tk })
    (done : ∀ o p1 p2 p3 (u : Str → Option Value) h tk, LeInv prog w lo hi fs news fs.length o p1 p2 p3 → Fr h₀ env.locals h (fun z => if z = "least" then some (.ref p3.A) else if leStored.contains z then u z else m₀ z) →
      News h₀ env.locals h ((d, o) :: p1.ent :: p2.ent :: p3.ent :: (R, listOf ws.toArray nR) :: news) → Q .next { s with heap := h, toks := tk }) :
    wpAny (model prog w) A (pyIter (.ref R)) (fun it s₂ => TurnsAt prog w A h₀ env target body Q E it s₂) E s := by
  refine fo_list (leLed d R ws nR news) lePs leStored (fun i c => LeInv prog w lo hi fs news i c.o c.p1 c.p2 c.p3) ⟨o₀, q1, q2, q3⟩ hh F N (fun c => .tail _ (.tail _ (.tail _ (.tail _ (.head _))))) ?_ h0 ?_ ?_
  · intro p hp
    rw [List.mem_singleton.mp hp]; exact hb
  · rintro I hI i v c u h tk hv' hP F' o ho N'
    obtain ⟨x, tx, rfl, hx⟩ := ints_at hv hv'
    exact step I (hI _ (.head _)) hdR hdn (allLt_of fun p hp => hI p (.tail _ (.tail _ (.tail _ (.tail _ (.tail _ hp)))))) i x tx c.o c.p1 c.p2 c.p3 u h tk hx hP F' o ho N'
  · rintro c u h tk hP F' N'
    rw [hv.length] at hP
    exact done c.o c.p1 c.p2 c.p3 u h tk hP F' N'
end
theorem news5 {h₀ h : Heap} {L : Addr} {a b c d e : Addr × Obj} {all news : List (Addr × Obj)} (N : News h₀ L h all) (m1 : a ∈ all) (m2 : b ∈ all) (m3 : c ∈ all) (m4 : d ∈ all) (m5 : e ∈ all) (ht : ∀ p ∈ news, p ∈ all) : News h₀ L h (a :: b :: c :: d :: e :: news) := fun p hp => by
  rcases List.mem_cons.mp hp with rfl | hp
  · exact N _ m1
  · rcases List.mem_cons.mp hp with rfl | hp
    · exact N _ m2
    · rcases List.mem_cons.mp hp with rfl | hp
      · exact N _ m3
      · rcases List.mem_cons.mp hp with rfl | hp
        · exact N _ m4
        · rcases List.mem_cons.mp hp with rfl | hp
          · exact N _ m5
          · exact N _ (ht _ hp)
theorem ne_cls {h₀ h : Heap} {L a b : Addr} {o o' : Obj} {all : List (Addr × Obj)} (N : News h₀ L h all) (m1 : (a, o) ∈ all) (m2 : (b, o') ∈ all) (hc : o.cls ≠ o'.cls) : a ≠ b := fun e => by
  have e1 := (N _ m1).1
  rw [show a = b from e, (N _ m2).1] at e1
  exact hc (congrArg Obj.cls (Option.some.inj e1).symm)
theorem le_in {prog : Program} {w : World} {A : Around} {E : Value → Shared → Prop} {s : Shared} {h₀ : Heap} {L d : Addr} {news : List (Addr × Obj)} {o : Obj} {lo hi x : Int} {a b : Value} {tx : Tok} {Q : Value → Shared → Prop} (N : News h₀ L s.heap news) (hp : (d, o) ∈ news) (hd : o.IsDictOf (PySem.intKind prog w) [(lo, a), (hi, b)]) (ne : (d == sysModules) = false)
    (h1 : x = lo ∨ x = hi → Q (.bool true) { s with toks := s.toks + 1 }) (h2 : x ≠ lo → x ≠ hi → Q (.bool false) { s with toks := s.toks + 1 }) : wpAny (model prog w) A (compareOp .In (.int x tx) (.ref d)) Q E s := by
  by_cases e : x = lo ∨ x = hi
  · refine kda_in (knd := PySem.intKind _ _) N hp hd ne (intKind_is _ _ _ _) true ?_ (h1 e)
    rcases e with rfl | rfl
    · rw [valueAt, List.find?_cons_of_pos (by simp)]; rfl
    · by_cases q : lo = x
      · rw [valueAt, List.find?_cons_of_pos (by simp [q])]; rfl
      · rw [valueAt, List.find?_cons_of_neg (by simp [q]), List.find?_cons_of_pos (by simp)]; rfl
  · have e1 : lo ≠ x := fun q => e (.inl q.symm)
    have e2 : hi ≠ x := fun q => e (.inr q.symm)
    refine kda_in (knd := PySem.intKind _ _) N hp hd ne (intKind_is _ _ _ _) false ?_ (h2 (fun q => e1 q.symm) (fun q => e2 q.symm))
    rw [valueAt, List.find?_cons_of_neg (by simp [e1]), List.find?_cons_of_neg (by simp [e2])]; rfl
theorem le_set {prog : Program} {w : World} {A : Around} {E : Value → Shared → Prop} {s : Shared} {h₀ : Heap} {L d I R : Addr} {m : Str → Option Value} {nR : Nat} {ws : List Value} {news : List (Addr × Obj)} {o oi : Obj} {lo hi x : Int} {p1 p2 p3 : Tp} {tx : Tok} {Q : Unit → Shared → Prop}
    (F : Fr h₀ L s.heap m) (N : News h₀ L s.heap ((I, oi) :: (d, o) :: p1.ent :: p2.ent :: p3.ent :: (R, listOf ws.toArray nR) :: news)) (hd : o.IsDictOf (PySem.intKind prog w) [(lo, .ref p1.A), (hi, .ref p2.A)]) (hoi : oi.cls = .type "list_iterator") (lt : @LT.lt Nat _ d I) (lR : @LT.lt Nat _ d R) (dn : AllLt d news) (hx : x = lo ∨ x = hi) (hne : lo ≠ hi) (hb : p1.k ≤ 64 ∧ p2.k ≤ 64 ∧ p3.k ≤ 64)
    (k : ∀ h' o' q1 q2, (q1, q2) = (if x = lo then (p3, p2) else (p1, p3)) → q1.k ≤ 64 → q2.k ≤ 64 → Fr h₀ L h' m → News h₀ L h' ((I, oi) :: (d, o') :: q1.ent :: q2.ent :: p3.ent :: (R, listOf ws.toArray nR) :: news) → o'.IsDictOf (PySem.intKind prog w) [(lo, .ref q1.A), (hi, .ref q2.A)] → Q () { s with heap := h', toks := s.toks + 1 }) :
    wpAny (model prog w) A (setItem (.ref d) (.int x tx) (.ref p3.A)) Q E s := by
  obtain ⟨es, ep, hex, _⟩ := id hd
  have hc : ∀ a b c e, o.cls ≠ (tupLL #[.int a b, .int c e]).cls := fun a b c e q => by
    rw [hex.1] at q
    exact absurd (Value.type.inj q) (by decide)
  have n1 := ne_cls N (.tail _ (.head _)) (.tail _ (.tail _ (.head _))) (hc _ _ _ _)
  have n2 := ne_cls N (.tail _ (.head _)) (.tail _ (.tail _ (.tail _ (.head _)))) (hc _ _ _ _)
  have n3 := ne_cls N (.tail _ (.head _)) (.tail _ (.tail _ (.tail _ (.tail _ (.head _))))) (hc _ _ _ _)
  have U : UpdF d o ((I, oi) :: (d, o) :: p1.ent :: p2.ent :: p3.ent :: (R, listOf ws.toArray nR) :: news) _ := .tail (Nat.ne_of_gt lt) (.head fun p hp => ?_)
  · refine kda_set (knd := PySem.intKind _ _) F N U hd (intKind_is _ _ _ _) (by rw [sizeLine_eq]; exact Nat.le_of_ble_eq_true rfl) fun h' o' F' N' hd' => ?_
    by_cases e : x = lo
    · refine k h' o' p3 p2 (by rw [if_pos e]) hb.2.2 hb.2.1 F' (fun p hp => ?_) ?_
      · simp only [List.mem_cons] at hp
        rcases hp with rfl | rfl | rfl | rfl | rfl | hp
        · exact N' _ (.head _)
        · exact N' _ (.tail _ (.head _))
        · exact N' _ (.tail _ (.tail _ (.tail _ (.tail _ (.head _)))))
        · exact N' _ (.tail _ (.tail _ (.tail _ (.head _))))
        · exact N' _ (.tail _ (.tail _ (.tail _ (.tail _ (.head _)))))
        · exact N' _ (.tail _ (.tail _ (.tail _ (.tail _ (.tail _ (List.mem_cons.mpr hp))))))
      · subst e
        have q : hi ≠ x := fun q => hne q.symm
        simpa [stored, q] using hd'
    · have e2 : x = hi := hx.resolve_left e
      refine k h' o' p1 p3 (by rw [if_neg e]) hb.1 hb.2.2 F' (fun p hp => ?_) ?_
      · simp only [List.mem_cons] at hp
        rcases hp with rfl | rfl | rfl | rfl | rfl | hp
        · exact N' _ (.head _)
        · exact N' _ (.tail _ (.head _))
        · exact N' _ (.tail _ (.tail _ (.head _)))
        · exact N' _ (.tail _ (.tail _ (.tail _ (.tail _ (.head _)))))
        · exact N' _ (.tail _ (.tail _ (.tail _ (.tail _ (.head _)))))
        · exact N' _ (.tail _ (.tail _ (.tail _ (.tail _ (.tail _ (List.mem_cons.mpr hp))))))
      · subst e2
        simpa [stored, hne] using hd'
  · simp only [List.mem_cons] at hp
    rcases hp with rfl | rfl | rfl | rfl | hp
    · exact n1.symm
    · exact n2.symm
    · exact n3.symm
    · exact Nat.ne_of_gt lR
    · exact Nat.ne_of_lt (ktn_ltOf dn p hp)
local macro_rules | `(tactic| walk_at "compareOp In int ref") => `(tactic| (k_here; k_dflt (refine' le_in ?N ?hp ?hd ?ne ?h1 ?h2; (case N => assumption); (case hp => k_mem); (case hd => assumption); (case ne => assumption)); (case' h1 => intro hin); (case' h2 => intro hn1 hn2)))
local macro_rules | `(tactic| walk_at "setItem ref int") => `(tactic| (k_here; k_dflt (refine' le_set ?F ?N ?hd ?hoi ?lt ?lR ?dn ?hx ?hne ?hb ?_; (case F => k_asm); (case N => assumption); (case hd => assumption); (case hoi => assumption); (case lt => assumption); (case lR => assumption); (case dn => assumption); (case hx => assumption); (case hne => assumption); (case hb => assumption)); intro h' o' q1 q2 hq hk1 hk2 F' N' hd'))
local macro_rules | `(tactic| walk_at "spliced") => `(tactic| (k_here; k_dflt (refine' nc_spliced ?F (by rfl) (by decide) (by rfl) (by decide) (by rfl) (by rfl) (by rfl) (by decide) (by decide) (by decide) ?_; (case F => k_asm)); (with_unfolding_all refine MethodCall_ ?_); (with_unfolding_all refine ld (by k_asm) (by rfl) ?_); (with_unfolding_all (refine kdl_method (knd := PySem.intKind _ _) PySem.F.slot_dict_items PySem.F.type_dict_items (by k_asm) (by k_mem) (by k_asm) ?_)); (with_unfolding_all (refine callWith_method0 ?_)); (with_unfolding_all (refine kta_callItems (knd := PySem.intKind _ _) (by k_asm) (by k_asm) (by k_mem) (by k_asm) (by k_asm) ?_)); intro h' hv' F' N'; k_dflt (refine NcSrc.intro2 (by assumption) (by rfl) F' N' hv' (by k_mem) (by k_mem) (by k_mem) ?_); intro g'))
section
variable {prog : Program} {w : World} {A : Around} {E : Value → Shared → Prop} {s : Shared}
theorem bits_small {a : Int} (h : a.natAbs < 16) : Builtin.Int.intBits a ≤ 64 := by
  unfold Builtin.Int.intBits
  split
  · exact Nat.zero_le _
  · rename_i q
    have q : a.natAbs ≠ 0 := fun e => q (by rw [Int.natAbs_eq_zero.mp e]; rfl)
    have := (Nat.log2_lt q (k := 4)).mpr h
    omega
theorem le_mul {a b : Int} {t u : Tok} {Q : Value → Shared → Prop} (ha : a.natAbs < 16) (h : Q (.int (a * b) s.toks) { s with toks := s.toks + 1 }) : wpAny (model prog w) A (binaryOp .Mult (.int a t) (.int b u)) Q E s :=
  PyProof.Rows.mul_int h (IntMulOk.of_left (bits_small ha))
theorem le_pow {k : Nat} {t u : Tok} {Q : Value → Shared → Prop} (hk : k ≤ 64) (h : Q (.int (16 ^ k) s.toks) { s with toks := s.toks + 1 }) : wpAny (model prog w) A (binaryOp .Pow (.int 16 t) (.int (k : Int) u)) Q E s :=
  pow_int_small (Int.natCast_nonneg _) (by omega) (by decide) h
end
local macro_rules | `(tactic| walk_at "binaryOp Mult int int") => `(tactic| (k_here; k_dflt (refine' le_mul ?h ?_; (case h => assumption))))
local macro_rules | `(tactic| walk_at "binaryOp Pow int int") => `(tactic| (k_here; k_dflt (refine' le_pow ?h ?_; (case h => assumption))))
local macro_rules | `(tactic| walk_at "NcRest") => `(tactic| (with_unfolding_all first | (refine NcRest.cons ?_; intro t' I' oI' C' oC' D' m' h' tk' E' hC' ha' hb' hc' F' N' off' ne'; (try dsimp only at ha' hb' hc')) | refine NcRest.nil ?_))
section
open PyProof.Rows.LCg
variable {prog : Program} {w : World} {A : Around} {E : Value → Shared → Prop} {s : Shared} {h₀ : Heap} {L : Addr} {m : Str → Option Value}
theorem nc_end {I C D T d : Addr} {oI oC oD oT od : Obj} {h' : Heap} {tk : Nat} {s₁ : Shared} {x1 x2 : Int} {p1 p2 : Tp} {nw : List (Addr × Obj)} {rest : Value → List (Addr × Obj) → Prop} {X : Prop} (F : Fr h₀ L h' m) (N : News h₀ L h' ((T, oT) :: (I, oI) :: (C, oC) :: (D, oD) :: nw)) (off : Off3 I C D nw)
    (lt : @LT.lt Nat _ I T ∧ @LT.lt Nat _ C T ∧ @LT.lt Nat _ D T ∧ X) (m0 : (d, od) ∈ nw) (m1 : p1.ent ∈ nw) (m2 : p2.ent ∈ nw) (r : rest (.ref T) ((T, oT) :: nw)) : CompEnd h₀ L m s₁ I oI C oC D oD (NcAt d od [(x1, p1), (x2, p2)]) rest (.ref T) { s₁ with heap := h', toks := tk } := by
  refine CompEnd.intro F N ((T, oT) :: nw) (fun p hp => ?_) ⟨⟨Nat.ne_of_gt lt.1, Nat.ne_of_gt lt.2.1, Nat.ne_of_gt lt.2.2.1⟩, off⟩ ⟨.tail _ m0, fun p hp => ?_⟩ r
  · simp only [List.mem_cons] at hp ⊢
    rcases hp with h | h | h | h | h
    · exact .inr (.inl h)
    · exact .inr (.inr (.inl h))
    · exact .inr (.inr (.inr (.inl h)))
    · exact .inl h
    · exact .inr (.inr (.inr (.inr h)))
  · rcases List.mem_cons.mp hp with rfl | hp
    · exact .tail _ m1
    · rw [List.mem_singleton.mp hp]; exact .tail _ m2
theorem le_min {D T1 T2 l : Addr} {k1 k2 : Nat} {x2 y2 : Int} {t1 t2 u1 u2 : Tok} {news nw : List (Addr × Obj)} {a1 a2 a3 a4 a5 a6 a7 a8 a9 b1 b2 b3 b4 b5 b6 b7 b8 b9 b10 : Prop} {Q : Value → Shared → Prop} (hh : A.handled = none) (hu : A.units + 2 < cLine) (F : Fr h₀ L s.heap m) (N : News h₀ L s.heap news)
    (hD : (D, lst [.ref T1, .ref T2]) ∈ news) (h1 : (T1, tupLL #[.int ((k1 : Int) + 1) t1, .int x2 t2]) ∈ news) (h2 : (T2, tupLL #[.int ((k2 : Int) + 1) u1, .int y2 u2]) ∈ news)
    (l1 : a1 ∧ a2 ∧ a3 ∧ a4 ∧ a5 ∧ a6 ∧ a7 ∧ a8 ∧ a9 ∧ @LT.lt Nat _ l T1 ∧ AllLt T1 nw) (l2 : b1 ∧ b2 ∧ b3 ∧ b4 ∧ b5 ∧ b6 ∧ b7 ∧ b8 ∧ b9 ∧ b10 ∧ @LT.lt Nat _ l T2 ∧ AllLt T2 nw)
    (k : ∀ h' tk (q : Tp), (q.k, q.v) = tmin (k1 + 1, x2) (k2 + 1, y2) → (@LT.lt Nat _ l q.A ∧ AllLt q.A nw) → Fr h₀ L h' m → News h₀ L h' (q.ent :: news) → Q (.ref q.A) { s with heap := h', toks := tk }) :
    wpAny (model prog w) A (call (.builtin "min") [.ref D]) Q E s := by
  refine min_pair hh hu ⟨_, (N _ hD).1, rfl, _, rfl⟩ ⟨_, (N _ h1).1, rfl, _, rfl⟩ ⟨_, (N _ h2).1, rfl, _, rfl⟩ fun h' tk kp => ?_
  have F' : Fr h₀ L h' m := F.keeps kp
  have N' : News h₀ L h' news := fun p hp => ⟨kp _ _ (N p hp).1, (N p hp).2⟩
  by_cases e : tupLt ((k2 : Int) + 1, y2) ((k1 : Int) + 1, x2) = true
  · rw [if_pos e]
    refine k h' tk ⟨T2, k2 + 1, y2, u1, u2⟩ ?_ l2.2.2.2.2.2.2.2.2.2.2 F' (fun p hp => ?_)
    · rw [tmin]
      exact (if_pos e).symm
    · rcases List.mem_cons.mp hp with rfl | hp
      · exact N' _ h2
      · exact N' _ hp
  · rw [if_neg e]
    refine k h' tk ⟨T1, k1 + 1, x2, t1, t2⟩ ?_ l1.2.2.2.2.2.2.2.2.2 F' (fun p hp => ?_)
    · rw [tmin]
      exact (if_neg e).symm
    · rcases List.mem_cons.mp hp with rfl | hp
      · exact N' _ h1
      · exact N' _ hp
end
theorem le_units {dp un : Nat} {gd : Option (List Code)} {cn : Str} {cs : Scope} {L a : Addr} {ccd : Value} {cl : List (Str × Addr)} {outer : List Env} {e : Env} (h : un + 8 * 1 < cLine) : ((ktrTop dp un gd cn cs L a ccd cl outer).deeper e).units + 2 < cLine := by
  show un + 3 + 2 < cLine
  omega
local macro_rules | `(tactic| walk_at "CompEnd") => `(tactic| (k_here; k_dflt (refine' nc_end ?F ?N ?off ?lt ?m0 ?m1 ?m2 ?_; (case F => k_asm); (case N => assumption); (case off => assumption); (case lt => assumption); (case m0 => k_mem); (case m1 => k_mem); (case m2 => k_mem))))
local macro_rules | `(tactic| walk_at "call builtin:min") => `(tactic| (k_here; k_dflt (refine' le_min ?hh ?hu ?F ?N ?hD ?h1 ?h2 ?l1 ?l2 ?_; (case hh => rfl); (case F => k_asm); (case N => k_asm); (case hD => k_mem); (case h1 => k_mem); (case h2 => k_mem); (case l1 => assumption); (case l2 => assumption); (case hu => exact le_units (by assumption))); intro h' tk' q hq lq F' N'))
theorem le_few {fs : List Int} {i a b c : Nat} {x : Int} (h : fs.length ≤ 63) (hx : fs.reverse[i]? = some x) (f : a ≤ i + 1 ∧ b ≤ i + 1 ∧ c ≤ i + 1) : a ≤ 64 ∧ b ≤ 64 ∧ c ≤ 64 := by
  have := (List.getElem?_eq_some_iff.mp hx).1
  rw [List.length_reverse] at this
  omega
theorem le_take {lo hi : Int} {fs : List Int} {i : Nat} {x : Int} (hx : fs[i]? = some x) : leGo lo hi (fs.take (i + 1)) = leStep lo hi (leGo lo hi (fs.take i)) x := by
  rw [List.take_add_one, hx, leGo, List.foldl_append]; rfl
theorem le_next {prog : Program} {w : World} {lo hi : Int} {fs : List Int} {nw : List (Addr × Obj)} {i : Nat} {x : Int} {o o' : Obj} {l : Addr} {ol : Obj} {p1 p2 p3 q1 q2 q : Tp} (hx : fs[i]? = some x) (P : LeInv prog w lo hi fs ((l, ol) :: nw) i o p1 p2 p3) (h12 : (q1, q2) = if x = lo then (p3, p2) else (p1, p3)) (hin : x = lo ∨ x = hi)
    (hd : o'.IsDictOf (PySem.intKind prog w) [(lo, .ref q1.A), (hi, .ref q2.A)]) (hq : (q.k, q.v) = tmin (q1.k + 1, lo * 16 ^ q1.k + q1.v) (q2.k + 1, hi * 16 ^ q2.k + q2.v)) (lq : @LT.lt Nat _ l q.A ∧ AllLt q.A nw) : LeInv prog w lo hi fs ((l, ol) :: nw) (i + 1) o' q1 q2 q := by
  obtain ⟨_, f, _, e⟩ := P
  refine ⟨fun p hp => ktn_ltOf (l := (l, ol) :: nw) lq p hp, ?_, hd, ?_⟩
  · have hk : q.k = q1.k + 1 ∨ q.k = q2.k + 1 := by
      have := congrArg Prod.fst hq
      rw [tmin] at this
      split at this
      · exact .inr this
      · exact .inl this
    by_cases c : x = lo
    · rw [if_pos c] at h12
      obtain ⟨rfl, rfl⟩ := Prod.mk.inj h12
      omega
    · rw [if_neg c] at h12
      obtain ⟨rfl, rfl⟩ := Prod.mk.inj h12
      omega
  · rw [le_take hx, ← e, hq, leStep]
    by_cases c : x = lo
    · rw [if_pos c] at h12 ⊢
      obtain ⟨rfl, rfl⟩ := Prod.mk.inj h12
      rfl
    · rw [if_neg c] at h12
      rw [if_neg c, if_pos (hin.resolve_left c)]
      obtain ⟨rfl, rfl⟩ := Prod.mk.inj h12
      rfl
theorem le_same {prog : Program} {w : World} {lo hi : Int} {fs : List Int} {nw : List (Addr × Obj)} {i : Nat} {x : Int} {o : Obj} {p1 p2 p3 : Tp} (hx : fs[i]? = some x) (P : LeInv prog w lo hi fs nw i o p1 p2 p3) (h1 : x ≠ lo) (h2 : x ≠ hi) : LeInv prog w lo hi fs nw (i + 1) o p1 p2 p3 := by
  obtain ⟨a, f, d, e⟩ := P
  refine ⟨a, by omega, d, ?_⟩
  rw [le_take hx, ← e, leStep, if_neg h1, if_neg h2]
theorem le_end {prog : Program} {w : World} {h₀ h' : Heap} {L : Addr} {s₁ : Shared} {m₀ m' : Str → Option Value} {all nw : List (Addr × Obj)} {d R I : Addr} {oi o' : Obj} {ws : List Value} {nR i tk : Nat} {lo hi : Int} {fs : List Int} {q1 q2 q : Tp}
    (FF : Fr h₀ L h' m') (N : News h₀ L h' all) (hI : (I, oi) ∈ all) (hd : (d, o') ∈ all) (m1 : q1.ent ∈ all) (m2 : q2.ent ∈ all) (m3 : q.ent ∈ all) (hR : (R, listOf ws.toArray nR) ∈ all) (hn : ∀ p ∈ nw, p ∈ all)
    (inv : LeInv prog w lo hi fs nw (i + 1) o' q1 q2 q) (hoi : oi.cls = .type "list_iterator") (lI : @LT.lt Nat _ d I) (aI : AllLt I nw)
    (hb : m' "least" = some (.ref q.A)) (hs : ∀ z : Str, z ≠ "least" → leStored.contains z = false → m' z = m₀ z) :
    UnrEndW h₀ L s₁ [(I, oi)] (fun m' n' => SubL [(R, listOf ws.toArray nR)] n' ∧ FoNext (leLed d R ws nR nw) lePs leStored m₀ (fun c => LeInv prog w lo hi fs nw (i + 1) c.o c.p1 c.p2 c.p3) m' n') { s₁ with heap := h', toks := tk } := by
  have nt : ∀ (c : String), c ≠ "list_iterator" → ∀ (a : Addr) (o : Obj), o.cls = .type c → (a, o) ∈ all → a ≠ I := fun c hc a o ho hm => ne_cls N hm hI (by rw [ho, hoi]; exact fun e => hc (Value.type.inj e))
  refine ⟨h', tk, m', leLed d R ws nR nw ⟨o', q1, q2, q⟩, rfl, FF, fun p hp => ?_, fun p hp r hr => ?_, ⟨.tail _ (.tail _ (.tail _ (.tail _ (.head _)))), trivial⟩, ⟨o', q1, q2, q⟩, rfl, ?_, ?_, inv⟩
  · rcases List.mem_cons.mp hp with rfl | hp
    · exact N _ hI
    · rcases List.mem_cons.mp hp with rfl | hp
      · exact N _ hd
      · rcases List.mem_cons.mp hp with rfl | hp
        · exact N _ m1
        · rcases List.mem_cons.mp hp with rfl | hp
          · exact N _ m2
          · rcases List.mem_cons.mp hp with rfl | hp
            · exact N _ m3
            · rcases List.mem_cons.mp hp with rfl | hp
              · exact N _ hR
              · exact N _ (hn _ hp)
  · rw [List.mem_singleton.mp hr]
    rcases List.mem_cons.mp hp with rfl | hp
    · exact Nat.ne_of_lt lI
    · rcases List.mem_cons.mp hp with rfl | hp
      · exact nt "tuple" (by decide) _ _ rfl m1
      · rcases List.mem_cons.mp hp with rfl | hp
        · exact nt "tuple" (by decide) _ _ rfl m2
        · rcases List.mem_cons.mp hp with rfl | hp
          · exact nt "tuple" (by decide) _ _ rfl m3
          · rcases List.mem_cons.mp hp with rfl | hp
            · exact nt "list" (by decide) _ _ rfl hR
            · exact Nat.ne_of_lt (ktn_ltOf aI p hp)
  · intro p hp
    rw [List.mem_singleton.mp hp]; exact hb
  · intro z h2 h3
    exact hs z (h2 _ (.head _)) h3
theorem le_ret {h₀ h : Heap} {L : Addr} {a b c d : Addr × Obj} {p : Addr × Obj} {nw : List (Addr × Obj)} (N : News h₀ L h (a :: b :: c :: p :: d :: nw)) : News h₀ L h ([p] ++ nw) := fun q hq => by
  rcases List.mem_cons.mp hq with rfl | hq
  · exact N _ (.tail _ (.tail _ (.tail _ (.head _))))
  · exact N _ (.tail _ (.tail _ (.tail _ (.tail _ (.tail _ hq)))))
theorem le_fig {z : Str} (h : leStored.contains z = false) : z ≠ "figure" := fun e => by
  subst e
  revert h
  decide +kernel
theorem c_least {prog : Program} {w : World} {p : Program} {loose : List Str} {mean : ExcName → Option Value} {mg mb : Str → Option Value} (news : List (Addr × Obj)) (l : Addr) (vs : List Value) (nn : Nat) (fs : List Int) (lo hi : Int) (t u : Tok) :
   NClaim prog w (heapK w.params) p loose mean mg mb 123 1 ((l, listOf vs.toArray nn) :: news) (IntsAre vs fs ∧ fs.length ≤ 63 ∧ lo ≠ hi ∧ lo.natAbs < 16 ∧ hi.natAbs < 16) [.ref l, .int lo t, .int hi u] (fun v tl => ∃ a t1 t2, v = .ref a ∧ tl = [(a, tupLL #[.int ((leGo lo hi fs.reverse).2.2.1 : Int) t1, .int (leGo lo hi fs.reverse).2.2.2 t2])]) := by
  dsimp only [NClaim]; intros; rename_i hret
  obtain ⟨hi1, hi2, hi3, hi4, hi5⟩ := (by assumption : IntsAre vs fs ∧ fs.length ≤ 63 ∧ lo ≠ hi ∧ lo.natAbs < 16 ∧ hi.natAbs < 16)
  refine wpAny_call ?_
  k_dflt cell_enter
  refine let_env ?_
  intro env A
  k_with_none
  (k_with "exec For Name Subscript cons nil" => (k_dflt (refine' For_turns ?F ?_; (case F => k_asm))))
  k_steps
  refine' fo_le (lo := lo) (hi := hi) (fs := fs.reverse) (news := (l, listOf vs.toArray nn) :: news) (q1 := ⟨_, 0, 0, _, _⟩) (q2 := ⟨_, 0, 0, _, _⟩) (q3 := ⟨_, 1, lo, _, _⟩) ?I rfl ?F ?N ?hb ?hdR ?hdn ?h0 ?step ?done
  case hdR => exact (by assumption : _ ∧ _ ∧ _ ∧ _ ∧ @LT.lt Nat _ _ _ ∧ @LT.lt Nat _ l _ ∧ AllLt _ news).2.2.2.2.1
  case hdn => assumption
  case I => assumption
  case F => k_asm
  case hb => rfl
  case h0 => exact ⟨fun p hp => ktn_ltOf (l := (l, listOf vs.toArray nn) :: news) (by assumption : _ ∧ _ ∧ _ ∧ @LT.lt Nat _ l _ ∧ AllLt _ news).2.2.2 p hp, ⟨Nat.zero_le _, Nat.zero_le _, Nat.le_refl _⟩, by assumption, rfl⟩
  case N => refine news5 (by assumption) ?_ ?_ ?_ ?_ ?_ ?_ <;> first | k_mem | (intro p hp; exact .tail _ (.tail _ (.tail _ (.tail _ (.tail _ (.tail _ hp))))))
  case done =>
    intro o p1 p2 p3 u h tk P F'' N''
    k_steps
    have e := P.eq
    rw [List.take_length] at e
    exact hret _ [p3.ent] _ _ ⟨_, _, _, rfl, by rw [← e]⟩ (by assumption) (le_ret (by assumption)) (fun q hq p hp => by rw [List.mem_singleton.mp hq]; exact P.up p hp)
  case step =>
    intro I lI hdR hdn hIn i x tx o p1 p2 p3 u h tk hx P F'' oi hoi N''
    have hdat := P.dat
    have hb : p1.k ≤ 64 ∧ p2.k ≤ 64 ∧ p3.k ≤ 64 := le_few hi2 hx P.few
    try k_fold
    k_steps
    · refine le_end (by assumption) (by assumption) (by k_mem) (by k_mem) (by k_mem) (by k_mem) (by k_mem) (by k_mem) (fun p hp => .tail _ (.tail _ (.tail _ (.tail _ (.tail _ (.tail _ hp)))))) (le_same hx P (by assumption) (by assumption)) hoi lI hIn rfl ?_
      intro z h4 h5
      have h6 := le_fig h5
      dsimp +zetaDelta only
      simp only [if_neg h4, if_neg h6, h5, Bool.false_eq_true, if_false]
    · have inv := le_next hx P (by assumption : (_, _) = if x = lo then (p3, p2) else (p1, p3)) (by assumption) (by assumption) (by assumption) (by assumption)
      refine le_end (by assumption) (by assumption) (by k_mem) (by k_mem) (by k_mem) (by k_mem) (by k_mem) (by k_mem) (fun p hp => .tail _ (.tail _ (.tail _ (.tail _ (.tail _ (.tail _ (.tail _ (.tail _ (.tail _ (.tail _ hp)))))))))) inv hoi lI hIn rfl ?_
      intro z h4 h5
      have h6 := le_fig h5
      dsimp +zetaDelta only
      simp only [if_neg h4, if_neg h6, h5, Bool.false_eq_true, if_false]
end Mine
end

section
set_option maxHeartbeats 800000
namespace Mine
open PySem PySem.Calls PyProof.Rows PyProof.V PySem.Spec
/-! a strictly monotone map goes past the heap's sifts -/
theorem getD_map {f : Int → Int} (h0 : f 0 = 0) (ns : List Int) (i : Nat) : (ns.map f).getD i 0 = f (ns.getD i 0) := by
  rw [List.getD_eq_getElem?_getD, List.getD_eq_getElem?_getD, List.getElem?_map]
  cases ns[i]? with
  | none => exact h0.symm
  | some x => rfl
theorem sd_map {f : Int → Int} (h0 : f 0 = 0) (mono : ∀ a b, f a < f b ↔ a < b) (x : Int) (start : Nat) : ∀ (n pos : Nat) (ns : List Int), pos ≤ n → sdGo (f x) start pos (ns.map f) = (sdGo x start pos ns).map f
  | n, pos, ns, hn => by
    rw [sdGo.eq_1 (f x) start pos (ns.map f), sdGo.eq_1 x start pos ns]
    by_cases h : start < pos
    · rw [dif_pos h, dif_pos h, getD_map h0]
      by_cases c : x < ns.getD ((pos - 1) / 2) 0
      · rw [if_pos c, if_pos ((mono _ _).mpr c), ← List.map_set]
        cases n with
        | zero => omega
        | succ n => exact sd_map h0 mono x start n _ _ (by omega)
      · rw [if_neg c, if_neg fun q => c ((mono _ _).mp q), List.map_set]
    · rw [dif_neg h, dif_neg h, List.map_set]
theorem kid_map {f : Int → Int} (h0 : f 0 = 0) (mono : ∀ a b, f a < f b ↔ a < b) (pos : Nat) (ns : List Int) : suKid pos (ns.map f) = suKid pos ns := by
  unfold suKid
  simp only [getD_map h0, List.length_map, mono]
theorem su_map {f : Int → Int} (h0 : f 0 = 0) (mono : ∀ a b, f a < f b ↔ a < b) (x : Int) : ∀ (n pos : Nat) (ns : List Int), ns.length - pos ≤ n → suGo (f x) pos (ns.map f) = (suGo x pos ns).map f
  | n, pos, ns, hn => by
    rw [suGo.eq_1 (f x) pos (ns.map f), suGo.eq_1 x pos ns]
    by_cases h : 2 * pos + 1 < ns.length
    · rw [dif_pos h, dif_pos (by rwa [List.length_map]), kid_map h0 mono, getD_map h0, ← List.map_set]
      have hk : pos < suKid pos ns := by unfold suKid; split <;> omega
      cases n with
      | zero => omega
      | succ n => exact su_map h0 mono x n _ _ (by rw [List.length_set]; omega)
    · rw [dif_neg h, dif_neg (by rwa [List.length_map]), ← List.map_set]
      exact sd_map h0 mono x 0 pos _ _ (Nat.le_refl _)
/-! the same by fuel, to be computed -/
def sdF : Nat → Int → Nat → Nat → List Int → List Int
  | 0, x, _, pos, ns => ns.set pos x
  | k + 1, x, start, pos, ns => if start < pos then (if x < ns.getD ((pos - 1) / 2) 0 then sdF k x start ((pos - 1) / 2) (ns.set pos (ns.getD ((pos - 1) / 2) 0)) else ns.set pos x) else ns.set pos x
theorem sd_fuel (x : Int) (start : Nat) : ∀ (k pos : Nat) (ns : List Int), pos ≤ k → sdGo x start pos ns = sdF k x start pos ns
  | 0, pos, ns, h => by
    have : pos = 0 := Nat.le_zero.mp h
    subst this
    rw [sdGo.eq_1, dif_neg (Nat.not_lt_zero _)]; rfl
  | k + 1, pos, ns, h => by
    rw [sdGo.eq_1]
    show _ = if start < pos then (if x < ns.getD ((pos - 1) / 2) 0 then sdF k x start ((pos - 1) / 2) (ns.set pos (ns.getD ((pos - 1) / 2) 0)) else ns.set pos x) else ns.set pos x
    by_cases c : start < pos
    · rw [dif_pos c, if_pos c]
      by_cases d : x < ns.getD ((pos - 1) / 2) 0
      · rw [if_pos d, if_pos d]
        exact sd_fuel x start k _ _ (by omega)
      · rw [if_neg d, if_neg d]
    · rw [dif_neg c, if_neg c]
def suF : Nat → Int → Nat → List Int → List Int
  | 0, x, pos, ns => sdF pos x 0 pos (ns.set pos x)
  | k + 1, x, pos, ns => if 2 * pos + 1 < ns.length then suF k x (suKid pos ns) (ns.set pos (ns.getD (suKid pos ns) 0)) else sdF pos x 0 pos (ns.set pos x)
theorem su_fuel (x : Int) : ∀ (k pos : Nat) (ns : List Int), ns.length - pos ≤ k → suGo x pos ns = suF k x pos ns
  | 0, pos, ns, h => by
    rw [suGo.eq_1, dif_neg (by omega)]
    exact sd_fuel x 0 pos pos _ (Nat.le_refl _)
  | k + 1, pos, ns, h => by
    rw [suGo.eq_1]
    show _ = if 2 * pos + 1 < ns.length then suF k x (suKid pos ns) (ns.set pos (ns.getD (suKid pos ns) 0)) else sdF pos x 0 pos (ns.set pos x)
    by_cases c : 2 * pos + 1 < ns.length
    · rw [dif_pos c, if_pos c]
      have hk : pos < suKid pos ns := by unfold suKid; split <;> omega
      exact su_fuel x k _ _ (by rw [List.length_set]; omega)
    · rw [dif_neg c, if_neg c]
      exact sd_fuel x 0 pos pos _ (Nat.le_refl _)
/-- the heap's turn on ranks -/
def hStepF (ns : List Int) : List Int :=
  let x := ns.getD 0 0
  let ms := suF ns.length (2 * x + 1) 0 (ns.set 0 (2 * x + 1))
  sdF ms.length (2 * x + 2) 0 ms.length (ms ++ [2 * x + 2])
def hRunF : Nat → List Int
  | 0 => [0]
  | j + 1 => hStepF (hRunF j)
def okRun : Nat → List Int → Int → Bool
  | 0, ns, t => ns.getD 0 0 == t
  | k + 1, ns, t => ns.getD 0 0 == t && okRun k (hStepF ns) (t + 1)
theorem okRun_all : ∀ (k j : Nat) (t : Int), okRun k (hRunF j) t = true → ∀ i, i ≤ k → (hRunF (j + i)).getD 0 0 = t + i
  | 0, j, t, h, i, hi => by
    have : i = 0 := Nat.le_zero.mp hi
    subst this
    rw [Nat.add_zero]
    simpa using (beq_iff_eq.mp h)
  | k + 1, j, t, h, i, hi => by
    obtain ⟨h1, h2⟩ := (Bool.and_eq_true_iff.mp h)
    cases i with
    | zero => rw [Nat.add_zero]; simpa using (beq_iff_eq.mp h1)
    | succ i =>
      have := okRun_all k (j + 1) (t + 1) h2 i (by omega)
      rw [show j + (i + 1) = j + 1 + i by omega, this]
      omega
theorem run31 : okRun 31 [0] 0 = true := by decide +kernel
theorem top_rank {t : Nat} (h : t ≤ 31) : (hRunF t).getD 0 0 = t := by
  have := okRun_all 31 0 0 run31 t h
  rw [Nat.zero_add, Int.zero_add] at this
  exact this
/-! the numbers written with two figures only, by rank -/
def ph (lo hi : Int) (t : Nat) : Int := if h : t = 0 then 0 else 16 * ph lo hi ((t - 1) / 2) + (if t % 2 = 1 then lo else hi)
termination_by t
decreasing_by omega
theorem ph_zero (lo hi : Int) : ph lo hi 0 = 0 := by rw [ph]; simp
theorem ph_pos {lo hi : Int} {t : Nat} (h : t ≠ 0) : ph lo hi t = 16 * ph lo hi ((t - 1) / 2) + (if t % 2 = 1 then lo else hi) := by rw [ph, dif_neg h]
theorem ph_odd (lo hi : Int) (t : Nat) : ph lo hi (2 * t + 1) = ph lo hi t * 16 + lo := by
  rw [ph_pos (by omega), if_pos (by omega), show (2 * t + 1 - 1) / 2 = t by omega]; omega
theorem ph_even (lo hi : Int) (t : Nat) : ph lo hi (2 * t + 2) = ph lo hi t * 16 + hi := by
  rw [ph_pos (by omega), if_neg (by omega), show (2 * t + 2 - 1) / 2 = t by omega]; omega
section
variable {lo hi : Int} (h1 : 1 ≤ lo) (h2 : lo < hi) (h3 : hi ≤ 15)
include h1 h2
theorem ph_nonneg : ∀ (n t : Nat), t ≤ n → 0 ≤ ph lo hi t
  | n, t, h => by
    by_cases c : t = 0
    · subst c; rw [ph_zero]; exact Int.le_refl _
    · rw [ph_pos c]
      cases n with
      | zero => omega
      | succ n =>
        have := ph_nonneg n ((t - 1) / 2) (by omega)
        split <;> omega
include h3
theorem ph_lt : ∀ (n a b : Nat), b ≤ n → a < b → ph lo hi a < ph lo hi b
  | n, a, b, h, hab => by
    have hb : b ≠ 0 := by omega
    have nb := ph_nonneg h1 h2 _ _ (Nat.le_refl ((b - 1) / 2))
    cases n with
    | zero => omega
    | succ n =>
      by_cases c : a = 0
      · subst c
        rw [ph_zero, ph_pos hb]
        split <;> omega
      · rw [ph_pos hb, ph_pos c]
        by_cases e : (a - 1) / 2 = (b - 1) / 2
        · rw [e, if_pos (by omega), if_neg (by omega)]; omega
        · have := ph_lt n ((a - 1) / 2) ((b - 1) / 2) (by omega) (by omega)
          split <;> split <;> omega
/-- on all the integers -/
def phI (lo hi n : Int) : Int := if n < 0 then n else ph lo hi n.toNat
omit h1 h2 h3 in
theorem phI_zero (lo hi : Int) : phI lo hi 0 = 0 := by rw [phI, if_neg (by decide)]; exact ph_zero lo hi
omit h1 h2 h3 in
theorem phI_nat (lo hi : Int) (t : Nat) : phI lo hi t = ph lo hi t := by rw [phI, if_neg (by omega)]; rfl
theorem phI_lt {a b : Int} (h : a < b) : phI lo hi a < phI lo hi b := by
  unfold phI
  by_cases ca : a < 0
  · rw [if_pos ca]
    by_cases cb : b < 0
    · rw [if_pos cb]; exact h
    · rw [if_neg cb]
      have := ph_nonneg h1 h2 _ _ (Nat.le_refl b.toNat)
      omega
  · rw [if_neg ca, if_neg (by omega)]
    exact ph_lt h1 h2 h3 _ _ _ (Nat.le_refl _) (by omega)
theorem phI_iff (a b : Int) : phI lo hi a < phI lo hi b ↔ a < b := by
  refine ⟨fun h => ?_, fun h => phI_lt h1 h2 h3 h⟩
  rcases Int.lt_trichotomy a b with q | q | q
  · exact q
  · subst q; omega
  · have := phI_lt h1 h2 h3 q
    omega
theorem run_map : ∀ t, t ≤ 31 → hRun lo hi t = (hRunF t).map (phI lo hi)
  | 0, _ => by
    show [0] = [phI lo hi 0]
    rw [phI_zero]
  | t + 1, h => by
    have ih := run_map t (by omega)
    have ht := top_rank (t := t) (by omega)
    show hStep lo hi (hRun lo hi t) = (hStepF (hRunF t)).map (phI lo hi)
    have h0 := phI_zero lo hi
    have mono := phI_iff h1 h2 h3
    have e1 : ph lo hi t * 16 + lo = phI lo hi (2 * (t : Int) + 1) := by rw [← ph_odd, ← phI_nat]; rfl
    have e2 : ph lo hi t * 16 + hi = phI lo hi (2 * (t : Int) + 2) := by rw [← ph_even, ← phI_nat]; rfl
    unfold hStep hStepF
    simp only [ih, getD_map h0, ht, phI_nat, e1, e2]
    rw [← List.map_set, su_map h0 mono _ _ _ _ (Nat.le_refl _), List.length_map, su_fuel _ (hRunF t).length _ _ (by rw [List.length_set]; omega), show ([phI lo hi (2 * (t : Int) + 2)] : List Int) = [2 * (t : Int) + 2].map (phI lo hi) from rfl, ← List.map_append, sd_map h0 mono _ _ _ _ _ (Nat.le_refl _), sd_fuel _ _ _ _ _ (Nat.le_refl _)]
theorem top_ph {t : Nat} (h : t ≤ 31) : hTop lo hi t = ph lo hi t := by
  rw [hTop, run_map h1 h2 h3 t h, getD_map (phI_zero lo hi), top_rank h, phI_nat]
end
end Mine
end

section
set_option maxHeartbeats 400000
namespace Mine
open PySem PySem.Calls PyProof.Rows PyProof.V PySem.Spec
/-! figures by kind: 0 the lower, 1 the higher, 2 another -/
def kindOf (lo hi f : Int) : Nat := if f = lo then 0 else if f = hi then 1 else 2
def bits : Nat → Nat → List Bool
  | 0, _ => []
  | k + 1, t => if t = 0 then [] else bits k ((t - 1) / 2) ++ [t % 2 == 0]
def rkB (b : List Bool) : Nat := b.foldl (fun n c => 2 * n + (if c then 2 else 1)) 0
def valB (lo hi : Int) (b : List Bool) : Int := b.foldl (fun n c => n * 16 + (if c then hi else lo)) 0
def tB (a b : List Bool) : List Bool := if b.length < a.length ∨ (b.length = a.length ∧ rkB b < rkB a) then b else a
def stB (s : List Bool × List Bool × List Bool) (k : Nat) : List Bool × List Bool × List Bool :=
  if k = 0 then (s.2.2, s.2.1, tB (false :: s.2.2) (true :: s.2.1)) else if k = 1 then (s.1, s.2.2, tB (false :: s.1) (true :: s.2.2)) else s
def goB (ks : List Nat) : List Bool × List Bool × List Bool := ks.foldl stB ([], [], [false])
def subK (b : List Bool) (ks : List Nat) : Bool := (b.map Bool.toNat).isSublist ks
def arK (s : Nat × List Nat) (k : Nat) : Nat × List Nat :=
  let lk := s.2.filter fun o => o != k
  if lk = [] then (s.1 + 1, [0, 1]) else (s.1, lk)
def arB (ks : List Nat) : Nat × List Nat := ks.foldl arK (0, [0, 1])
def lastB (ks : List Nat) : List Bool := (goB ks.reverse).2.2
def okB (ks : List Nat) : Bool :=
  let T := rkB (lastB ks)
  Nat.ble T 30 && (lastB ks).length == (arB ks).1 + 1 && ((List.range T).all fun t => subK (bits 6 t) ks) && !subK (bits 6 T) ks
def allK : Nat → List Nat → Bool
  | 0, ks => okB ks
  | n + 1, ks => allK n (0 :: ks) && allK n (1 :: ks) && allK n (2 :: ks)
theorem all6 : allK 6 [] = true := by decide +kernel
theorem allK_app : ∀ (n : Nat) (ks qs : List Nat), allK n ks = true → qs.length = n → (∀ q ∈ qs, q ≤ 2) → okB (qs.reverse ++ ks) = true
  | 0, ks, [], h, _, _ => h
  | n + 1, ks, q :: qs, h, hl, hq => by
    obtain ⟨h12, h3⟩ := Bool.and_eq_true_iff.mp h
    obtain ⟨h1, h2⟩ := Bool.and_eq_true_iff.mp h12
    have hl' : qs.length = n := Nat.succ.inj hl
    have hq' : ∀ r ∈ qs, r ≤ 2 := fun r hr => hq r (.tail _ hr)
    have hb := hq q (.head _)
    rw [List.reverse_cons, List.append_assoc]
    match q, hb with
    | 0, _ => exact allK_app n _ _ h1 hl' hq'
    | 1, _ => exact allK_app n _ _ h2 hl' hq'
    | 2, _ => exact allK_app n _ _ h3 hl' hq'
theorem okB_all {ks : List Nat} (hl : ks.length = 6) (hk : ∀ k ∈ ks, k ≤ 2) : okB ks = true := by
  have := allK_app 6 [] ks.reverse all6 (by rw [List.length_reverse, hl]) (fun k h => hk k (List.mem_reverse.mp h))
  rwa [List.reverse_reverse, List.append_nil] at this
theorem val_ph (lo hi : Int) : ∀ (b : List Bool) (n : Nat), b.foldl (fun n c => n * 16 + (if c then hi else lo)) (ph lo hi n) = ph lo hi (b.foldl (fun n c => 2 * n + (if c then 2 else 1)) n)
  | [], n => rfl
  | c :: b, n => by
    rw [List.foldl_cons, List.foldl_cons]
    have e : ph lo hi n * 16 + (if c then hi else lo) = ph lo hi (2 * n + (if c then 2 else 1)) := by
      cases c
      · exact (ph_odd lo hi n).symm
      · exact (ph_even lo hi n).symm
    rw [e]
    exact val_ph lo hi b _
theorem valB_ph (lo hi : Int) (b : List Bool) : valB lo hi b = ph lo hi (rkB b) := by
  have := val_ph lo hi b 0
  rwa [ph_zero] at this
theorem val_from (lo hi : Int) : ∀ (b : List Bool) (n : Int), b.foldl (fun n c => n * 16 + (if c then hi else lo)) n = n * 16 ^ b.length + valB lo hi b
  | [], n => by simp [valB]
  | c :: b, n => by
    have e : valB lo hi (c :: b) = (0 * 16 + (if c then hi else lo)) * 16 ^ b.length + valB lo hi b := by rw [valB, List.foldl_cons, val_from lo hi b]
    rw [List.foldl_cons, val_from lo hi b, e, List.length_cons, Int.pow_succ, Int.zero_mul, Int.zero_add, Int.add_mul, Int.add_assoc, Int.mul_assoc, Int.mul_comm 16 (16 ^ b.length)]
theorem valB_cons (lo hi : Int) (c : Bool) (b : List Bool) : valB lo hi (c :: b) = (if c then hi else lo) * 16 ^ b.length + valB lo hi b := by
  rw [valB, List.foldl_cons, val_from, Int.zero_mul, Int.zero_add]
/-- the number of a string of figures, with its length -/
def prB (lo hi : Int) (b : List Bool) : Nat × Int := (b.length, valB lo hi b)
section
variable {lo hi : Int} (h1 : 1 ≤ lo) (h2 : lo < hi) (h3 : hi ≤ 15)
include h1 h2 h3
theorem ph_iff (a b : Nat) : ph lo hi a < ph lo hi b ↔ a < b := by
  rw [← phI_nat, ← phI_nat, phI_iff h1 h2 h3]; omega
theorem tmin_B (a b : List Bool) : tmin (prB lo hi a) (prB lo hi b) = prB lo hi (tB a b) := by
  have e : tupLt ((b.length : Int), valB lo hi b) ((a.length : Int), valB lo hi a) = true ↔ (b.length < a.length ∨ (b.length = a.length ∧ rkB b < rkB a)) := by
    rw [valB_ph, valB_ph]
    unfold tupLt
    dsimp only
    by_cases c : b.length = a.length
    · rw [if_pos (by rw [c]), decide_eq_true_iff, ph_iff h1 h2 h3]
      omega
    · rw [if_neg (by omega), decide_eq_true_iff]
      omega
  unfold tmin tB
  show (if tupLt ((b.length : Int), valB lo hi b) ((a.length : Int), valB lo hi a) = true then prB lo hi b else prB lo hi a) = _
  by_cases c : b.length < a.length ∨ (b.length = a.length ∧ rkB b < rkB a)
  · rw [if_pos c, if_pos (e.mpr c)]
  · rw [if_neg c, if_neg fun q => c (e.mp q)]
theorem le_B : ∀ (fs : List Int) (s : List Bool × List Bool × List Bool), fs.foldl (leStep lo hi) (prB lo hi s.1, prB lo hi s.2.1, prB lo hi s.2.2) = (let r := (fs.map (kindOf lo hi)).foldl stB s; (prB lo hi r.1, prB lo hi r.2.1, prB lo hi r.2.2))
  | [], s => rfl
  | f :: fs, s => by
    rw [List.foldl_cons, List.map_cons, List.foldl_cons]
    have up : ∀ (c : Bool) (b : List Bool), leUp (if c then hi else lo) (prB lo hi b) = prB lo hi (c :: b) := fun c b => by
      unfold leUp prB; rw [valB_cons]; rfl
    have e : leStep lo hi (prB lo hi s.1, prB lo hi s.2.1, prB lo hi s.2.2) f = (let r := stB s (kindOf lo hi f); (prB lo hi r.1, prB lo hi r.2.1, prB lo hi r.2.2)) := by
      unfold leStep kindOf
      by_cases c1 : f = lo
      · rw [if_pos c1, if_pos c1]
        have u1 := up false s.2.2
        have u2 := up true s.2.1
        simp only [Bool.false_eq_true, if_false, if_true] at u1 u2
        simp only [stB, if_true, u1, u2, tmin_B h1 h2 h3]
      · rw [if_neg c1, if_neg c1]
        by_cases c2 : f = hi
        · rw [if_pos c2, if_pos c2]
          have u1 := up false s.1
          have u2 := up true s.2.2
          simp only [Bool.false_eq_true, if_false, if_true] at u1 u2
          simp only [stB, if_true, u1, u2, tmin_B h1 h2 h3, Nat.one_ne_zero, if_false]
        · rw [if_neg c2, if_neg c2]
          simp only [stB, if_neg (show ¬ (2 = 0) by decide), if_neg (show ¬ (2 = 1) by decide)]
    rw [e]
    exact le_B fs _
theorem leGo_B (fs : List Int) : (leGo lo hi fs).2.2 = prB lo hi (goB (fs.map (kindOf lo hi))).2.2 := by
  have e := le_B h1 h2 h3 fs ([], [], [false])
  have e0 : (prB lo hi ([] : List Bool), prB lo hi ([] : List Bool), prB lo hi [false]) = (((0 : Nat), (0 : Int)), ((0 : Nat), (0 : Int)), ((1 : Nat), lo)) := by
    unfold prB
    rw [valB_cons]
    simp [valB]
  show (leGo lo hi fs).2.2 = _
  unfold leGo
  rw [← e0, e]
  rfl
end
end Mine
end

section
set_option maxHeartbeats 400000
namespace Mine
open PySem PySem.Calls PyProof.Rows PyProof.V PySem.Spec
structure Figs (lo hi : Int) (fs : List Int) : Prop where
  l1 : 1 ≤ lo
  l2 : lo < hi
  l3 : hi ≤ 15
  six : fs.length = 6
  fig : ∀ f ∈ fs, 0 ≤ f ∧ f ≤ 15
abbrev numOf (fs : List Int) : Int := List.foldl (fun a' => HAdd.hAdd (a' * 16)) 0 fs
def lawT (lo hi : Int) (fs : List Int) : Nat := rkB (lastB (fs.map (kindOf lo hi)))
theorem kind_le (lo hi f : Int) : kindOf lo hi f ≤ 2 := by unfold kindOf; split <;> (try split) <;> omega
theorem law_ok {lo hi : Int} {fs : List Int} (h : Figs lo hi fs) : okB (fs.map (kindOf lo hi)) = true :=
  okB_all (by rw [List.length_map, h.six]) fun k hk => by obtain ⟨f, _, rfl⟩ := List.mem_map.mp hk; exact kind_le lo hi f
structure LawOk (ks : List Nat) : Prop where
  few : rkB (lastB ks) ≤ 30
  len : (lastB ks).length = (arB ks).1 + 1
  yes : ∀ t, t < rkB (lastB ks) → subK (bits 6 t) ks = true
  no : subK (bits 6 (rkB (lastB ks))) ks = false
theorem LawOk.of {ks : List Nat} (h : okB ks = true) : LawOk ks := by
  unfold okB at h
  simp only [Bool.and_eq_true, List.all_eq_true, List.mem_range, beq_iff_eq, Bool.not_eq_true'] at h
  obtain ⟨⟨⟨a, b⟩, c⟩, d⟩ := h
  exact ⟨Nat.le_of_ble_eq_true a, b, c, d⟩
/-! the arches -/
def dig (lo hi : Int) (k : Nat) : Int := if k = 0 then lo else hi
theorem ar_B {lo hi : Int} (h2 : lo < hi) : ∀ (fs : List Int) (n : Nat) (lk : List Nat), (∀ k ∈ lk, k ≤ 1) → fs.foldl (arStep lo hi) ((n : Int), lk.map (dig lo hi)) = (let r := (fs.map (kindOf lo hi)).foldl arK (n, lk); ((r.1 : Int), r.2.map (dig lo hi)))
  | [], n, lk, _ => rfl
  | f :: fs, n, lk, hlk => by
    have ef : (lk.map (dig lo hi)).filter (fun o => o != f) = (lk.filter fun o => o != kindOf lo hi f).map (dig lo hi) := by
      rw [List.filter_map]
      congr 1
      apply List.filter_congr
      intro k hk
      have := hlk k hk
      have hk01 : k = 0 ∨ k = 1 := by omega
      unfold Function.comp dig kindOf
      rcases hk01 with rfl | rfl
      · by_cases c : f = lo
        · subst c; simp
        · by_cases c2 : f = hi
          · subst c2; simp [c]; exact fun q => c q.symm
          · simp [c, c2]; exact fun q => c q.symm
      · by_cases c : f = lo
        · subst c; simp [show hi ≠ f by omega]
        · by_cases c2 : f = hi
          · subst c2; simp [c]
          · simp [c, c2]; exact fun q => c2 q.symm
    have hlk' : ∀ k ∈ lk.filter (fun o => o != kindOf lo hi f), k ≤ 1 := fun k hk => hlk k (List.mem_filter.mp hk).1
    rw [List.foldl_cons, List.map_cons, List.foldl_cons]
    unfold arStep arK
    simp only [ef, List.map_eq_nil_iff]
    by_cases c : (lk.filter fun o => o != kindOf lo hi f) = []
    · rw [if_pos c, if_pos c]
      exact ar_B h2 fs (n + 1) [0, 1] (by decide)
    · rw [if_neg c, if_neg c]
      exact ar_B h2 fs n _ hlk'
theorem arGo_B {lo hi : Int} (h2 : lo < hi) (fs : List Int) : (arGo lo hi fs).1 = ((arB (fs.map (kindOf lo hi))).1 : Int) := by
  have := ar_B h2 fs 0 [0, 1] (by decide)
  exact congrArg Prod.fst this
theorem law_least {lo hi : Int} {fs : List Int} (h : Figs lo hi fs) : (leGo lo hi fs.reverse).2.2.2 = hTop lo hi (lawT lo hi fs) ∧ ((leGo lo hi fs.reverse).2.2.1 : Int) = (arGo lo hi fs).1 + 1 := by
  have ok := LawOk.of (law_ok h)
  rw [leGo_B h.l1 h.l2 h.l3, List.map_reverse, arGo_B h.l2]
  refine ⟨?_, ?_⟩
  · show valB lo hi (lastB (fs.map (kindOf lo hi))) = _
    rw [valB_ph, top_ph h.l1 h.l2 h.l3 (by have := ok.few; unfold lawT; omega)]; rfl
  · show ((lastB (fs.map (kindOf lo hi))).length : Int) = _
    rw [ok.len]; rfl
/-! sizes and ranks -/
section
variable {lo hi : Int} (h1 : 1 ≤ lo) (h2 : lo < hi) (h3 : hi ≤ 15)
include h1 h2 h3
theorem ph_small : ∀ (k t : Nat), t < 2 ^ k → ph lo hi t < 16 ^ k
  | 0, t, h => by
    have : t = 0 := by simpa using h
    subst this; rw [ph_zero]; decide
  | k + 1, t, h => by
    by_cases c : t = 0
    · subst c; rw [ph_zero]; exact Int.pow_pos (by decide)
    · have := ph_small k ((t - 1) / 2) (by rw [Nat.pow_succ] at h; omega)
      rw [ph_pos c, Int.pow_succ]
      split <;> omega
theorem rk_ph : ∀ (k t : Nat), t < 2 ^ k → rkN lo (ph lo hi t).toNat = t
  | 0, t, h => by
    have : t = 0 := by simpa using h
    subst this; rw [ph_zero]; exact rkN_zero lo
  | k + 1, t, h => by
    by_cases c : t = 0
    · subst c; rw [ph_zero]; exact rkN_zero lo
    · have ih := rk_ph k ((t - 1) / 2) (by rw [Nat.pow_succ] at h; omega)
      have nb := ph_nonneg h1 h2 _ _ (Nat.le_refl ((t - 1) / 2))
      have e := ph_pos (lo := lo) (hi := hi) c
      by_cases o : t % 2 = 1
      · rw [if_pos o] at e
        rw [e, rkN_pos (by omega), show (16 * ph lo hi ((t - 1) / 2) + lo).toNat / 16 = (ph lo hi ((t - 1) / 2)).toNat by omega, ih, if_pos (by omega)]; omega
      · rw [if_neg o] at e
        rw [e, rkN_pos (by omega), show (16 * ph lo hi ((t - 1) / 2) + hi).toNat / 16 = (ph lo hi ((t - 1) / 2)).toNat by omega, ih, if_neg (by omega)]; omega
/-- the letter of a figure -/
def dgl (lo hi : Int) (c : Bool) : Nat := 65 + (if c then hi else lo).natAbs
theorem lt_ph : ∀ (k t : Nat), t < 2 ^ k → ltN (ph lo hi t).natAbs = (bits k t).map (dgl lo hi)
  | 0, t, h => by
    have : t = 0 := by simpa using h
    subst this; rw [ph_zero]; show (apL 0).map _ = _; rw [apL_zero]; rfl
  | k + 1, t, h => by
    unfold bits
    by_cases c : t = 0
    · subst c; rw [ph_zero, if_pos rfl]; show (apL 0).map _ = _; rw [apL_zero]; rfl
    · have ih := lt_ph k ((t - 1) / 2) (by rw [Nat.pow_succ] at h; omega)
      have nb := ph_nonneg h1 h2 _ _ (Nat.le_refl ((t - 1) / 2))
      have e := ph_pos (lo := lo) (hi := hi) c
      rw [if_neg c, List.map_append, ← ih]
      unfold ltN
      have hd : ∃ d : Int, 1 ≤ d ∧ d ≤ 15 ∧ ph lo hi t = 16 * ph lo hi ((t - 1) / 2) + d ∧ dgl lo hi (t % 2 == 0) = 65 + d.natAbs := by
        by_cases o : t % 2 = 1
        · rw [if_pos o] at e
          exact ⟨lo, by omega, by omega, e, by unfold dgl; rw [if_neg (by simp [o])]⟩
        · rw [if_neg o] at e
          exact ⟨hi, by omega, by omega, e, by unfold dgl; rw [if_pos (by simp; omega)]⟩
      obtain ⟨d, d1, d2, ed, el⟩ := hd
      rw [ed, apL_pos (by omega), show (16 * ph lo hi ((t - 1) / 2) + d).natAbs / 16 = (ph lo hi ((t - 1) / 2)).natAbs by omega, show (16 * ph lo hi ((t - 1) / 2) + d).natAbs % 16 = d.natAbs by omega, List.map_append, List.map_singleton, List.map_singleton, el, UInt8.toNat_ofNat_of_lt' (by show _ < 256; omega)]
end
theorem law_rank {lo hi : Int} {fs : List Int} (h : Figs lo hi fs) : (0 ≤ hTop lo hi (lawT lo hi fs) ∧ hTop lo hi (lawT lo hi fs) < 16 ^ 6) ∧ rkN lo (hTop lo hi (lawT lo hi fs)).toNat = (lawT lo hi fs : Int) := by
  have ok : lawT lo hi fs ≤ 30 := (LawOk.of (law_ok h)).few
  rw [top_ph h.l1 h.l2 h.l3 (by omega)]
  exact ⟨⟨ph_nonneg h.l1 h.l2 _ _ (Nat.le_refl _), ph_small h.l1 h.l2 h.l3 6 _ (by omega)⟩, rk_ph h.l1 h.l2 h.l3 6 _ (by omega)⟩
end Mine
end

section
set_option maxHeartbeats 400000
namespace Mine
open PySem PySem.Calls PyProof.Rows PyProof.V PySem.Spec
def lett (f : Int) : Nat := 65 + f.natAbs
def no65 (l : List Nat) : List Nat := l.filter fun c => c != 65
theorem no65_app (a b : List Nat) : no65 (a ++ b) = no65 a ++ no65 b := List.filter_append ..
theorem num_go : ∀ (fs : List Int) (m : Nat), (∀ f ∈ fs, 0 ≤ f ∧ f ≤ 15) → ∃ n : Nat, fs.foldl (fun a x => a * 16 + x) (m : Int) = n ∧ n < (m + 1) * 16 ^ fs.length ∧ no65 (ltN n) = no65 (ltN m) ++ no65 (fs.map lett)
  | [], m, _ => ⟨m, rfl, by simp, by simp [no65]⟩
  | f :: fs, m, h => by
    have hf := h f (.head _)
    have e0 : (m : Int) * 16 + f = ((m * 16 + f.natAbs : Nat) : Int) := by omega
    obtain ⟨n, e, hn, hw⟩ := num_go fs (m * 16 + f.natAbs) fun g hg => h g (.tail _ hg)
    refine ⟨n, by rw [List.foldl_cons, e0]; exact e, Nat.lt_of_lt_of_le hn ?_, ?_⟩
    · rw [List.length_cons, Nat.pow_succ, Nat.mul_comm (16 ^ fs.length) 16, ← Nat.mul_assoc]
      exact Nat.mul_le_mul_right _ (by omega)
    · rw [hw, List.map_cons, show lett f :: fs.map lett = [lett f] ++ fs.map lett from rfl, no65_app [lett f], ← List.append_assoc]
      congr 1
      by_cases c : m * 16 + f.natAbs = 0
      · have hm : m = 0 := by omega
        have hz : f.natAbs = 0 := by omega
        rw [c, hm]
        show no65 ((apL 0).map _) = no65 ((apL 0).map _) ++ no65 [65 + f.natAbs]
        rw [apL_zero, hz]; rfl
      · unfold ltN
        rw [apL_pos c, show (m * 16 + f.natAbs) / 16 = m by omega, show (m * 16 + f.natAbs) % 16 = f.natAbs by omega, List.map_append, no65_app, List.map_singleton, UInt8.toNat_ofNat_of_lt' (by show _ < 256; omega)]
        rfl
theorem num_is {lo hi : Int} {fs : List Int} (h : Figs lo hi fs) : ∃ n : Nat, numOf fs = n ∧ n < 16 ^ 6 ∧ no65 (ltN n) = no65 (fs.map lett) := by
  obtain ⟨n, e, hn, hw⟩ := num_go fs 0 h.fig
  refine ⟨n, e, by rw [h.six] at hn; omega, ?_⟩
  rw [hw]
  show no65 ((apL 0).map _) ++ _ = _
  rw [apL_zero]; rfl
theorem num_small {lo hi : Int} {fs : List Int} (h : Figs lo hi fs) : (-(numOf fs)).natAbs < 16 ^ 7 := by
  obtain ⟨n, e, hn, _⟩ := num_is h
  rw [e]; omega
theorem sub_no65 {a b : List Nat} (ha : ∀ c ∈ a, c ≠ 65) : a.Sublist b ↔ a.Sublist (no65 b) := by
  refine ⟨fun h => ?_, fun h => h.trans List.filter_sublist⟩
  have := h.filter (fun c => c != 65)
  rwa [List.filter_eq_self.mpr fun c hc => by simpa using ha c hc] at this
theorem map_kind {lo hi : Int} (h1 : 1 ≤ lo) (h2 : lo < hi) : ∀ (b : List Bool) (l : List Int), (∀ f ∈ l, 0 ≤ f) → (b.map (dgl lo hi) = l.map lett ↔ b.map Bool.toNat = l.map (kindOf lo hi))
  | [], [], _ => ⟨fun _ => rfl, fun _ => rfl⟩
  | [], f :: l, _ => by simp
  | c :: b, [], _ => by simp
  | c :: b, f :: l, h => by
    have hf := h f (.head _)
    have ih := map_kind h1 h2 b l fun g hg => h g (.tail _ hg)
    have e : dgl lo hi c = lett f ↔ c.toNat = kindOf lo hi f := by
      unfold dgl lett kindOf
      cases c
      · by_cases q : f = lo
        · subst q; simp
        · by_cases r : f = hi
          · subst r; simp [q]; omega
          · simp [q, r]; omega
      · by_cases q : f = lo
        · subst q; simp; omega
        · by_cases r : f = hi
          · subst r; simp [q]
          · simp [q, r]; omega
    simp only [List.map_cons, List.cons.injEq, e, ih]
theorem sub_iff {lo hi : Int} {fs : List Int} (h : Figs lo hi fs) (b : List Bool) : (b.map (dgl lo hi)).Sublist (fs.map lett) ↔ (b.map Bool.toNat).Sublist (fs.map (kindOf lo hi)) := by
  rw [List.sublist_map_iff, List.sublist_map_iff]
  constructor
  · rintro ⟨l, hl, e⟩
    exact ⟨l, hl, (map_kind h.l1 h.l2 b l fun f hf => (h.fig f (hl.subset hf)).1).mp e⟩
  · rintro ⟨l, hl, e⟩
    exact ⟨l, hl, (map_kind h.l1 h.l2 b l fun f hf => (h.fig f (hl.subset hf)).1).mpr e⟩
theorem word_sub {lo hi : Int} {fs : List Int} (h : Figs lo hi fs) {t : Nat} (ht : t < 64) : (ltN (ph lo hi t).natAbs).isSublist ((apL (-(numOf fs)).natAbs).map (·.toNat) ++ [65]) = subK (bits 6 t) (fs.map (kindOf lo hi)) := by
  obtain ⟨n, e, hn, hw⟩ := num_is h
  have e1 : (-(numOf fs)).natAbs = n := by rw [e]; omega
  have key : (ltN (ph lo hi t).natAbs).Sublist (ltN n ++ [65]) ↔ ((bits 6 t).map Bool.toNat).Sublist (fs.map (kindOf lo hi)) := by
    rw [lt_ph h.l1 h.l2 h.l3 6 t ht]
    have ne : ∀ c ∈ (bits 6 t).map (dgl lo hi), c ≠ 65 := fun c hc => by
      obtain ⟨x, _, rfl⟩ := List.mem_map.mp hc
      have := h.l1; have := h.l2
      unfold dgl
      split <;> omega
    rw [sub_no65 ne, no65_app, hw, show no65 [65] = [] from rfl, List.append_nil, ← sub_no65 ne]
    exact sub_iff h _
  rw [e1]
  unfold subK
  rw [Bool.eq_iff_iff, List.isSublist_iff_sublist, List.isSublist_iff_sublist]
  exact key
theorem law_turns {lo hi : Int} {fs : List Int} (h : Figs lo hi fs) : Turns lo hi ((apL (-(numOf fs)).natAbs).map (·.toNat)) (lawT lo hi fs) := by
  have ok := LawOk.of (law_ok h)
  have few : lawT lo hi fs ≤ 30 := ok.few
  refine ⟨fun j hj => ?_, ?_, fun j hj => ?_, by omega, ?_⟩
  · rw [top_ph h.l1 h.l2 h.l3 (by omega), word_sub h (by omega)]
    exact ok.yes j hj
  · rw [top_ph h.l1 h.l2 h.l3 (by omega), word_sub h (by omega)]
    exact ok.no
  · rw [top_ph h.l1 h.l2 h.l3 (by omega)]
    have a := ph_nonneg h.l1 h.l2 _ _ (Nat.le_refl j)
    have b := ph_small h.l1 h.l2 h.l3 6 j (by omega)
    exact ⟨a, by omega⟩
  · exact Nat.le_trans (lt_few (num_small h)) (by decide)
end Mine
end

section
set_option maxHeartbeats 400000
namespace Mine
open PySem PySem.Calls PyProof.Rows PyProof.V PySem.Spec
theorem figs_with {P : Prop} {ys : List Value} {cs : List Int} {lo hi : Int} (h : IntsAre ys (List.map (fun k' => if k'.fmod 5 = 0 then lo else if k'.fmod 5 = 1 then lo else if k'.fmod 5 = 2 then hi else if k'.fmod 5 = 3 then hi else if k'.fmod 5 = 4 then (k'.fdiv 5).fmod 16 else k') (List.drop 1 cs)))
    (hc : cs.length = 7) (l1 : 1 ≤ lo) (l2 : lo < hi) (l3 : hi ≤ 15) (k : ∀ fs, IntsAre ys fs → Figs lo hi fs → P) : P := by
  refine k _ h ⟨l1, l2, l3, by rw [List.length_map, List.length_drop, hc], fun f hf => ?_⟩
  obtain ⟨x, _, rfl⟩ := List.mem_map.mp hf
  have a1 := Int.fmod_nonneg_of_pos x (b := 5) (by decide)
  have a2 := Int.fmod_lt_of_pos x (b := 5) (by decide)
  have b1 := Int.fmod_nonneg_of_pos (x.fdiv 5) (b := 16) (by decide)
  have b2 := Int.fmod_lt_of_pos (x.fdiv 5) (b := 16) (by decide)
  split
  · omega
  · split
    · omega
    · split
      · omega
      · split
        · omega
        · split <;> omega
theorem figs_least {lo hi : Int} {fs : List Int} {vs : List Value} (h : Figs lo hi fs) (hi' : IntsAre vs fs) : IntsAre vs fs ∧ fs.length ≤ 63 ∧ lo ≠ hi ∧ lo.natAbs < 16 ∧ hi.natAbs < 16 := by
  have := h.l1; have := h.l2; have := h.l3; have := h.six
  exact ⟨hi', by omega, by omega, by omega, by omega⟩
section
variable {prog : Program} {w : World} {K : Frag} {p : Program} {loose : List PySem.Str} {mean : ExcName → Option Value} {mg mb : PySem.Str → Option Value} {f l : Addr} {d nn : Nat} {vs : List Value} {all : List (Addr × Obj)} {pre : Prop} {args : List Value} {R : Value → List (Addr × Obj) → Prop}
  {dp un : Nat} {gd : Option (List Code)} {cn : PySem.Str} {cs : Scope} {a : Addr} {ccd : Value} {cl : List (PySem.Str × Addr)} {outer : List Env} {A₀ : Around} {base h₀ : Heap} {L : Addr} {m : PySem.Str → Option Value} {s : Shared} {Q E : Value → Shared → Prop}
/-- a call that reads a list of the ledger, wherever it lies there -/
theorem nl_use (B : Below A₀ base outer h₀) (F : Fr h₀ L s.heap m) (X : K.In h₀) (N : News h₀ L s.heap all) (T : Top p loose mean mg mb h₀) (hk : cs.kind = .function) (hm : (l, listOf vs.toArray nn) ∈ all)
    (C : NClaim prog w K p loose mean mg mb f d ((l, listOf vs.toArray nn) :: all.filter (fun q => decide (@Ne Nat q.1 l))) pre args R) (hp : pre) (hd : dp + d < recursionLimit) (hu : un + 8 * d < cLine)
    (ret : ∀ (v : Value) (tl : List (Addr × Obj)) (h' : Heap) (tk' : Nat), R v tl → Fr h₀ L h' m → News h₀ L h' (tl ++ all) → Q v { s with heap := h', toks := tk' }) :
    wpAny (model prog w) (ktrTop dp un gd cn cs L a ccd cl outer) (call (.ref f) args) Q E s := by
  refine nc_use B F X (news := (l, listOf vs.toArray nn) :: all.filter (fun q => decide (@Ne Nat q.1 l))) (fun q hq => ?_) T hk C hp hd hu fun v tl h' tk' r F' N' O' => ret v tl h' tk' r F' fun q hq => ?_
  · rcases List.mem_cons.mp hq with rfl | hq
    · exact N _ hm
    · exact N _ (List.mem_filter.mp hq).1
  · rcases List.mem_append.mp hq with hq | hq
    · exact N' _ (List.mem_append_left _ hq)
    · by_cases e : q.1 = l
      · have e1 := (N q hq).1
        rw [e, (N _ hm).1] at e1
        have e2 : q = (l, listOf vs.toArray nn) := Prod.ext e (Option.some.inj e1).symm
        rw [e2]
        exact N' _ (List.mem_append_right _ (.head _))
      · exact N' _ (List.mem_append_right _ (.tail _ (List.mem_filter.mpr ⟨hq, decide_eq_true e⟩)))
end
theorem off_filter {all : List (Addr × Obj)} {l : Addr} : ∀ p ∈ all.filter (fun q => decide (@Ne Nat q.1 l)), p.1 ≠ l := fun p hp => of_decide_eq_true (List.mem_filter.mp hp).2
end Mine
end

section
set_option maxHeartbeats 4000000
namespace Mine
open PySem PySem.Calls PyProof.Rows PyProof.V PySem.Spec
theorem from_n {vs : List Value} {ns : List Int} {k : Nat} (h : IntsAre vs ns) : IntsAre (slicePick vs.toArray (some (k : Int)) none none).toList (ns.drop (k : Int).toNat) := kmk_from h (Int.natCast_nonneg _)
theorem from_1 {vs : List Value} {ns : List Int} (h : IntsAre vs ns) : IntsAre (slicePick vs.toArray (some 1) none none).toList (ns.drop (Int.toNat 1)) := kmk_from h (by decide)
def Stop (p : Prop) : Prop := p
theorem stop {p : Prop} (h : Stop p) : p := h
theorem go {p : Prop} (h : p) : Stop p := h
local macro_rules | `(tactic| walk_at "subscriptTail Name Slice ref ref") => `(tactic| (k_here; (with_reducible show wpAny _ _ (subscriptTail _ (PySem.Expr.Slice (some _) none none _) (Value.ref _) (Value.ref _)) _ _ _); k_dflt (refine' kmk_slice_ints ?yF ?yN ?yl ?yp ?yq ?yi ?ym ?yc ?_ ?ys ?yt ?yz; (case yF => k_asm); (case yN => k_asm); (case yl => kmk_list); (case yp => kmk_part); (case yq => kmk_part); (case yi => l_ints); (case ym => first | (with_reducible exact from_n (by l_ints)) | (with_reducible exact from_1 (by l_ints))); (case yc => kmk_len); (case ys => with_unfolding_all rfl); (case yt => kmk_pure); (case yz => kmk_size)); intro D' ws' h' F' N' l1 hI' hC' hL'; (try simp only [Int.reduceNeg, Int.neg_neg, Int.reduceToNat] at hI' hC' hL'); (try k_lt l1); (try k_sweep)))
local macro_rules | `(tactic| walk_at "execs cons") => `(tactic| (k_here; first | (with_reducible show wpAny _ _ (execs (Stmt.Assign [PySem.Expr.Name (Str.ofString "cells") _] _ _ :: _) _) _ _ _) | (with_reducible show wpAny _ _ (execs (Stmt.Assign [PySem.Expr.Name (Str.ofString "lower") _] _ _ :: _) _) _ _ _) | (with_reducible show wpAny _ _ (execs (Stmt.Assign [PySem.Expr.Name (Str.ofString "higher") _] _ _ :: _) _) _ _ _) | (with_reducible show wpAny _ _ (execs (Stmt.Assign [PySem.Expr.Name (Str.ofString "figures") _] _ _ :: _) _) _ _ _) | (with_reducible show wpAny _ _ (execs (Stmt.Assign [PySem.Expr.Name (Str.ofString "number") _] (PySem.Expr.Constant _ _ _) _ :: _) _) _ _ _) | (with_reducible show wpAny _ _ (execs (Stmt.Assign [PySem.Expr.Tuple _ _ _] _ _ :: _) _) _ _ _)); refine stop ?_)
theorem drawn_any {ys : List Value} {ws : List Int} (h : IntsAre ys (List.map (fun k => k.fmod (10 ^ Int.toNat 6)) (List.take 7 ws))) : ∃ ds : List Int, IntsAre ys ds ∧ ds.length ≤ 7 ∧ ∀ d ∈ ds, 0 ≤ d := by
  refine ⟨_, h, ?_, fun d hd => ?_⟩
  · rw [List.length_map, List.length_take]; exact Nat.min_le_left _ _
  · obtain ⟨k, _, rfl⟩ := List.mem_map.mp hd
    exact Int.fmod_nonneg_of_pos _ (by decide)
theorem cells_any {ys : List Value} {ds : List Int} (h : IntsAre ys (ds ++ List.drop (ds.length : Int).toNat [31, 2, 54, 0, 1, 10, 3])) (hl : ds.length ≤ 7) (hb : ∀ d ∈ ds, 0 ≤ d) : ∃ cs : List Int, IntsAre ys cs ∧ cs.length = 7 ∧ ∀ c ∈ cs, 0 ≤ c := by
  refine ⟨_, h, ?_, fun c hc => ?_⟩
  · rw [List.length_append, List.length_drop, Int.toNat_natCast]
    simp only [List.length_cons, List.length_nil]; omega
  · rcases List.mem_append.mp hc with hc | hc
    · exact hb c hc
    · have := List.mem_of_mem_drop hc
      simp only [List.mem_cons, List.not_mem_nil, or_false] at this
      omega
theorem lo_with {P : Prop} {o : Obj} {t : Tok} {x : Int} (h : o.data = .cell (some (.int (1 + x.fmod 14) t))) (k : ∀ lo t, 1 ≤ lo → lo ≤ 14 → o.data = .cell (some (.int lo t)) → P) : P := by
  have h1 := Int.fmod_nonneg_of_pos x (b := 14) (by decide)
  have h2 := Int.fmod_lt_of_pos x (b := 14) (by decide)
  exact k (1 + x.fmod 14) t (by omega) (by omega) h
theorem hi_with {P : Prop} {o : Obj} {t : Tok} {lo x : Int} (h : o.data = .cell (some (.int (lo + 1 + x.fmod (15 - lo)) t))) (hl : lo ≤ 14) (k : ∀ hi t, lo < hi → hi ≤ 15 → o.data = .cell (some (.int hi t)) → P) : P := by
  have h1 := Int.fmod_nonneg_of_pos x (b := 15 - lo) (by omega)
  have h2 := Int.fmod_lt_of_pos x (b := 15 - lo) (by omega)
  exact k (lo + 1 + x.fmod (15 - lo)) t (by omega) (by omega) h
local macro_rules | `(tactic| walk_at "call ref") => `(tactic| (k_here; (with_reducible show wpAny _ _ (call (Value.ref 104) _) _ _ _); k_dflt (refine' cb_use ?k1 ?k2 ?k3 ?k4 ?k5 ?kK (c_ap _ _ _) ?kp ?kd ?ku ?_; (case k1 => k_asm); (case k2 => k_asm); (case k3 => k_asm); (case k4 => k_asm); (case k5 => k_asm); (case kK => rfl); (case kp => exact num_small (by assumption)); (case kd => ktr_room); (case ku => ktr_units)); intro t9 h9 tk9 F9 N9; (try dsimp only); (try k_fold)))
local macro_rules | `(tactic| walk_at "call builtin:bytes.decode") => `(tactic| (k_here; k_dflt (refine' decode_ascii ?a ?b ?_; (case a => exact td_abc); (case b => exact td_few (num_small (by assumption)))); intro t9 k9; (try dsimp only)))
local macro_rules | `(tactic| walk_at "call ref") => `(tactic| (k_here; (with_reducible show wpAny _ _ (call (Value.ref 118) _) _ _ _); k_dflt (refine' nc_use ?k1 ?k2 ?k3 ?k4 ?k5 ?kK (c_tried _ _ _ _ _ _ _ _) ?kp ?kd ?ku ?_; (case k1 => k_asm); (case k2 => k_asm); (case k3 => k_asm); (case k4 => k_asm); (case k5 => k_asm); (case kK => rfl); (case kp => exact law_turns (by assumption)); (case kd => ktr_room); (case ku => ktr_units)); intro v9 tl9 h9 tk9 R9 F9 N9 O9; obtain ⟨a9, t91, t92, e8, e9⟩ := R9; subst e8; subst e9; dsimp only [List.cons_append, List.nil_append] at N9; clear O9; (try dsimp only); (try k_fold)))
local macro_rules | `(tactic| walk_at "call ref") => `(tactic| (k_here; (with_reducible show wpAny _ _ (call (Value.ref 123) _) _ _ _); k_dflt (refine' nl_use ?k1 ?k2 ?k3 ?k4 ?k5 ?kK ?hm (c_least _ _ _ _ _ _ _ _ _) ?kp ?kd ?ku ?_; (case k1 => k_asm); (case k2 => k_asm); (case k3 => k_asm); (case k4 => k_asm); (case k5 => k_asm); (case kK => rfl); (case hm => k_mem); (case kp => exact figs_least (by assumption) (by assumption)); (case kd => ktr_room); (case ku => ktr_units)); intro v9 tl9 h9 tk9 R9 F9 N9; obtain ⟨a9, t91, t92, e8, e9⟩ := R9; subst e8; subst e9; dsimp only [List.cons_append, List.nil_append] at N9; (try dsimp only); (try k_fold)))
local macro_rules | `(tactic| walk_at "call ref") => `(tactic| (k_here; (with_reducible show wpAny _ _ (call (Value.ref 128) _) _ _ _); k_dflt (refine' nl_use ?k1 ?k2 ?k3 ?k4 ?k5 ?kK ?hm (c_arches _ _ _ _ _ _ _ _ _) ?kp ?kd ?ku ?_; (case k1 => k_asm); (case k2 => k_asm); (case k3 => k_asm); (case k4 => k_asm); (case k5 => k_asm); (case kK => rfl); (case hm => k_mem); (case kp => exact ⟨(figs_least (by assumption) (by assumption)).1, (figs_least (by assumption) (by assumption)).2.1, off_filter⟩); (case kd => ktr_room); (case ku => ktr_units)); intro v9 tl9 h9 tk9 R9 F9 N9; obtain ⟨t91, e8, e9⟩ := R9; subst e8; subst e9; dsimp only [List.nil_append] at N9; (try dsimp only); (try k_fold)))
local macro_rules | `(tactic| walk_at "call ref") => `(tactic| (k_here; (with_reducible show wpAny _ _ (call (Value.ref 135) _) _ _ _); k_dflt (refine' cb_use ?k1 ?k2 ?k3 ?k4 ?k5 ?kK (c_rank2 _ _ _ _ _) ?kp ?kd ?ku ?_; (case k1 => k_asm); (case k2 => k_asm); (case k3 => k_asm); (case k4 => k_asm); (case k5 => k_asm); (case kK => rfl); (case kp => exact (law_rank (by assumption)).1); (case kd => ktr_room); (case ku => ktr_units)); intro t9 h9 tk9 F9 N9; (try dsimp only); (try k_fold)))
theorem walked {P : Prop} (head : Need P) : P := by
  refine head rfl rfl rfl ?_
  clear head P
  k_go0
  all_goals (try k_fold)
  rename Heap.CodeRec _ _ _ => hcd
  rename Dflts _ _ _ _ _ _ => hD
  rename Tables _ _ _ _ => tb
  rename TopE _ _ _ _ => te
  rename TopW _ _ _ => tw
  rename CellsAre _ _ _ => X0
  clear hcd hD tb te tw X0
  rename Obj.data _ = Data.cell _ => c2
  have c2' : _ = Data.cell none := c2
  revert c2'
  clear c2
  rename Obj.data _ = Data.cell _ => c1
  have c1' : _ = Data.cell none := c1
  clear c1
  intro c2'
  refine let_env ?_
  intro env A
  k_steps
  refine go ?_
  try dsimp only
  have hI8 := drawn_any (by assumption)
  obtain ⟨ds, hds, hdl, hdb⟩ := hI8
  rename IntsAre _ (List.map _ _) => hx1
  clear hx1
  refine wpAny_execs_cons ?_
  try dsimp only
  k_steps
  refine go ?_
  try dsimp only
  obtain ⟨cs, hcs, hcl, hcb⟩ := cells_any (by assumption) hdl hdb
  rename IntsAre _ (_ ++ _) => hz1
  rename IntsAre _ (List.drop _ _) => hz2
  rename (List.drop _ _).length = _ => hz3
  rename (List.drop _ _).length ≤ _ => hz4
  clear hz1 hz2 hz3 hz4
  refine wpAny_execs_cons ?_
  try dsimp only
  k_steps
  refine go ?_
  try dsimp only
  rename Obj.data _ = Data.cell (some (Value.int (_ + _) _)) => dd
  try dsimp only at dd
  refine lo_with dd ?_
  intro lo tlo hlo1 hlo2 dlo
  clear dd
  refine wpAny_execs_cons ?_
  try dsimp only
  k_steps
  refine go ?_
  try dsimp only
  rename Obj.data _ = Data.cell (some (Value.int (_ + _) _)) => dd
  try dsimp only at dd
  refine hi_with dd hlo2 ?_
  intro hi thi hhi1 hhi2 dhi
  clear dd
  refine wpAny_execs_cons ?_
  try dsimp only
  k_steps
  refine go ?_
  try dsimp only
  rename IntsAre _ (List.map _ (List.drop 1 _)) => hf0
  refine figs_with hf0 hcl hlo1 hhi1 hhi2 ?_
  intro fs hfs hF
  clear hf0
  rename IntsAre _ (List.drop 1 _) => hz1
  rename (List.drop 1 _).length = _ => hz2
  rename (List.drop 1 _).length ≤ _ => hz3
  clear hz1 hz2 hz3
  refine wpAny_execs_cons ?_
  try dsimp only
  k_steps
  refine go ?_
  try dsimp only
  refine wpAny_execs_cons ?_
  try dsimp only
  k_steps
  refine go ?_
  try dsimp only
  refine wpAny_execs_cons ?_
  try dsimp only
  k_steps
  · exact absurd (law_least hF).1.symm (by assumption)
  · exact absurd (law_least hF).2 (by assumption)
  · have e : ((lawT lo hi fs : Int) == rkN lo (hTop lo hi (lawT lo hi fs)).toNat) = true := by rw [(law_rank hF).2]; exact beq_self_eq_true _
    rw [e]
    k_end
    wrow_close
end Mine
end

section
set_option maxHeartbeats 8000000
namespace Mine
open PySem PySem.Calls PyProof.Rows PyProof.V PySem.Spec
theorem head (left : LeftO rowO.prog view loose2 Xt2 hook.obs hook.val 3852) {d : DefRec} {kwd : List (Str × PySem.Expr)} (hdef : defOf view rowO.name = some (d, kwd)) (hp : rowO.prog.theDef rowO.name = some (d.params, d.body, d.scope)) (hk : kwWritten? d.params.kwonlyargs d.params.kw_defaults = some kwd)
    (call : WalkO view loose2 (XL view []) (kHook heapK addrs addrs_ok).says rowO.toRowW d kwd fun f vs => PySem.call f vs) : PySem.Challenge.rw_in0244_01.Holds := by
  o_law
  refine holds_open (q := view) (loose := loose2) (Xt := Xt2) (XP := XL view []) (Yf := hook.obs) (Ya := hook.val) (YP := (kHook heapK addrs addrs_ok).says) (N := 3852) left hook.of hook.keeps (fun s e => xl_of s (Bool.and_eq_true_iff.mp e).1) XL.keeps hdef hp hk (fun s e => recFacts_of (Bool.and_eq_true_iff.mp e).2) rfl (by assumption) (by decide +kernel) ⟨rfl, rfl, rfl, rfl, rfl, by decide +kernel⟩ ?hw call
  case hw => w_witness2
end Mine
end

section
set_option maxHeartbeats 8000000
namespace Mine.Hd
open PySem PySem.Calls PyProof.Rows PyProof.V PySem.Spec
noncomputable def b0 (P : Params) : Obj := { cls := Value.type "dict", data := Data.dict #[{ hash := PyData.keyHash P (Str.ofString "__name__"), key := Value.str (Str.ofString "__name__") 1, val := Value.str (Str.ofString "builtins") 160 }, { hash := PyData.keyHash P (Str.ofString "__doc__"), key := Value.str (Str.ofString "__doc__") 2, val := Value.builtin "builtins.__doc__:str#opaque" }, { hash := PyData.keyHash P (Str.ofString "__package__"), key := Value.str (Str.ofString "__package__") 3, val := Value.builtin "builtins.__package__:str#opaque" }, { hash := PyData.keyHash P (Str.ofString "__loader__"), key := Value.str (Str.ofString "__loader__") 4, val := Value.builtin "builtins.__loader__:shared#opaque" }, { hash := PyData.keyHash P (Str.ofString "__spec__"), key := Value.str (Str.ofString "__spec__") 5, val := Value.builtin "builtins.__spec__#opaque" }, { hash := PyData.keyHash P (Str.ofString "__build_class__"), key := Value.str (Str.ofString "__build_class__") 6, val := Value.builtin "__build_class__" }, { hash := PyData.keyHash P (Str.ofString "__import__"), key := Value.str (Str.ofString "__import__") 7, val := Value.builtin "__import__" }, { hash := PyData.keyHash P (Str.ofString "abs"), key := Value.str (Str.ofString "abs") 8, val := Value.builtin "abs" }, { hash := PyData.keyHash P (Str.ofString "all"), key := Value.str (Str.ofString "all") 9, val := Value.builtin "all" }, { hash := PyData.keyHash P (Str.ofString "any"), key := Value.str (Str.ofString "any") 10, val := Value.builtin "any" }, { hash := PyData.keyHash P (Str.ofString "ascii"), key := Value.str (Str.ofString "ascii") 11, val := Value.builtin "ascii" }, { hash := PyData.keyHash P (Str.ofString "bin"), key := Value.str (Str.ofString "bin") 12, val := Value.builtin "bin" }, { hash := PyData.keyHash P (Str.ofString "breakpoint"), key := Value.str (Str.ofString "breakpoint") 13, val := Value.builtin "breakpoint" }, { hash := PyData.keyHash P (Str.ofString "callable"), key := Value.str (Str.ofString "callable") 14, val := Value.builtin "callable" }, { hash := PyData.keyHash P (Str.ofString "chr"), key := Value.str (Str.ofString "chr") 15, val := Value.builtin "chr" }, { hash := PyData.keyHash P (Str.ofString "compile"), key := Value.str (Str.ofString "compile") 16, val := Value.builtin "compile" }, { hash := PyData.keyHash P (Str.ofString "delattr"), key := Value.str (Str.ofString "delattr") 17, val := Value.builtin "delattr" }, { hash := PyData.keyHash P (Str.ofString "dir"), key := Value.str (Str.ofString "dir") 18, val := Value.builtin "dir" }, { hash := PyData.keyHash P (Str.ofString "divmod"), key := Value.str (Str.ofString "divmod") 19, val := Value.builtin "divmod" }, { hash := PyData.keyHash P (Str.ofString "eval"), key := Value.str (Str.ofString "eval") 20, val := Value.builtin "eval" }, { hash := PyData.keyHash P (Str.ofString "exec"), key := Value.str (Str.ofString "exec") 21, val := Value.builtin "exec" }, { hash := PyData.keyHash P (Str.ofString "format"), key := Value.str (Str.ofString "format") 22, val := Value.builtin "format" }, { hash := PyData.keyHash P (Str.ofString "getattr"), key := Value.str (Str.ofString "getattr") 23, val := Value.builtin "getattr" }, { hash := PyData.keyHash P (Str.ofString "globals"), key := Value.str (Str.ofString "globals") 24, val := Value.builtin "globals" }, { hash := PyData.keyHash P (Str.ofString "hasattr"), key := Value.str (Str.ofString "hasattr") 25, val := Value.builtin "hasattr" }, { hash := PyData.keyHash P (Str.ofString "hash"), key := Value.str (Str.ofString "hash") 26, val := Value.builtin "hash" }, { hash := PyData.keyHash P (Str.ofString "hex"), key := Value.str (Str.ofString "hex") 27, val := Value.builtin "hex" }, { hash := PyData.keyHash P (Str.ofString "id"), key := Value.str (Str.ofString "id") 28, val := Value.builtin "id" }, { hash := PyData.keyHash P (Str.ofString "input"), key := Value.str (Str.ofString "input") 29, val := Value.builtin "input" }, { hash := PyData.keyHash P (Str.ofString "isinstance"), key := Value.str (Str.ofString "isinstance") 30, val := Value.builtin "isinstance" }, { hash := PyData.keyHash P (Str.ofString "issubclass"), key := Value.str (Str.ofString "issubclass") 31, val := Value.builtin "issubclass" }, { hash := PyData.keyHash P (Str.ofString "iter"), key := Value.str (Str.ofString "iter") 32, val := Value.builtin "iter" }, { hash := PyData.keyHash P (Str.ofString "aiter"), key := Value.str (Str.ofString "aiter") 33, val := Value.builtin "aiter" }, { hash := PyData.keyHash P (Str.ofString "len"), key := Value.str (Str.ofString "len") 34, val := Value.builtin "len" }, { hash := PyData.keyHash P (Str.ofString "locals"), key := Value.str (Str.ofString "locals") 35, val := Value.builtin "locals" }, { hash := PyData.keyHash P (Str.ofString "max"), key := Value.str (Str.ofString "max") 36, val := Value.builtin "max" }, { hash := PyData.keyHash P (Str.ofString "min"), key := Value.str (Str.ofString "min") 37, val := Value.builtin "min" }, { hash := PyData.keyHash P (Str.ofString "next"), key := Value.str (Str.ofString "next") 38, val := Value.builtin "next" }, { hash := PyData.keyHash P (Str.ofString "anext"), key := Value.str (Str.ofString "anext") 39, val := Value.builtin "anext" }, { hash := PyData.keyHash P (Str.ofString "oct"), key := Value.str (Str.ofString "oct") 40, val := Value.builtin "oct" }, { hash := PyData.keyHash P (Str.ofString "ord"), key := Value.str (Str.ofString "ord") 41, val := Value.builtin "ord" }, { hash := PyData.keyHash P (Str.ofString "pow"), key := Value.str (Str.ofString "pow") 42, val := Value.builtin "pow" }, { hash := PyData.keyHash P (Str.ofString "print"), key := Value.str (Str.ofString "print") 43, val := Value.builtin "print" }, { hash := PyData.keyHash P (Str.ofString "repr"), key := Value.str (Str.ofString "repr") 44, val := Value.builtin "repr" }, { hash := PyData.keyHash P (Str.ofString "round"), key := Value.str (Str.ofString "round") 45, val := Value.builtin "round" }, { hash := PyData.keyHash P (Str.ofString "setattr"), key := Value.str (Str.ofString "setattr") 46, val := Value.builtin "setattr" }, { hash := PyData.keyHash P (Str.ofString "sorted"), key := Value.str (Str.ofString "sorted") 47, val := Value.builtin "sorted" }, { hash := PyData.keyHash P (Str.ofString "sum"), key := Value.str (Str.ofString "sum") 48, val := Value.builtin "sum" }, { hash := PyData.keyHash P (Str.ofString "vars"), key := Value.str (Str.ofString "vars") 49, val := Value.builtin "vars" }, { hash := PyData.keyHash P (Str.ofString "None"), key := Value.str (Str.ofString "None") 50, val := Value.none }, { hash := PyData.keyHash P (Str.ofString "Ellipsis"), key := Value.str (Str.ofString "Ellipsis") 51, val := Value.ellipsis }, { hash := PyData.keyHash P (Str.ofString "NotImplemented"), key := Value.str (Str.ofString "NotImplemented") 52, val := Value.notImplemented }, { hash := PyData.keyHash P (Str.ofString "False"), key := Value.str (Str.ofString "False") 53, val := Value.bool false }, { hash := PyData.keyHash P (Str.ofString "True"), key := Value.str (Str.ofString "True") 54, val := Value.bool true }, { hash := PyData.keyHash P (Str.ofString "bool"), key := Value.str (Str.ofString "bool") 55, val := Value.type "bool" }, { hash := PyData.keyHash P (Str.ofString "memoryview"), key := Value.str (Str.ofString "memoryview") 56, val := Value.type "memoryview" }, { hash := PyData.keyHash P (Str.ofString "bytearray"), key := Value.str (Str.ofString "bytearray") 57, val := Value.type "bytearray" }, { hash := PyData.keyHash P (Str.ofString "bytes"), key := Value.str (Str.ofString "bytes") 58, val := Value.type "bytes" }, { hash := PyData.keyHash P (Str.ofString "classmethod"), key := Value.str (Str.ofString "classmethod") 59, val := Value.type "classmethod" }, { hash := PyData.keyHash P (Str.ofString "complex"), key := Value.str (Str.ofString "complex") 60, val := Value.type "complex" }, { hash := PyData.keyHash P (Str.ofString "dict"), key := Value.str (Str.ofString "dict") 61, val := Value.type "dict" }, { hash := PyData.keyHash P (Str.ofString "enumerate"), key := Value.str (Str.ofString "enumerate") 62, val := Value.type "enumerate" }, { hash := PyData.keyHash P (Str.ofString "filter"), key := Value.str (Str.ofString "filter") 63, val := Value.type "filter" }, { hash := PyData.keyHash P (Str.ofString "float"), key := Value.str (Str.ofString "float") 64, val := Value.type "float" }, { hash := PyData.keyHash P (Str.ofString "frozenset"), key := Value.str (Str.ofString "frozenset") 65, val := Value.type "frozenset" }, { hash := PyData.keyHash P (Str.ofString "property"), key := Value.str (Str.ofString "property") 66, val := Value.type "property" }, { hash := PyData.keyHash P (Str.ofString "int"), key := Value.str (Str.ofString "int") 67, val := Value.type "int" }, { hash := PyData.keyHash P (Str.ofString "list"), key := Value.str (Str.ofString "list") 68, val := Value.type "list" }, { hash := PyData.keyHash P (Str.ofString "map"), key := Value.str (Str.ofString "map") 69, val := Value.type "map" }, { hash := PyData.keyHash P (Str.ofString "object"), key := Value.str (Str.ofString "object") 70, val := Value.type "object" }, { hash := PyData.keyHash P (Str.ofString "range"), key := Value.str (Str.ofString "range") 71, val := Value.type "range" }, { hash := PyData.keyHash P (Str.ofString "reversed"), key := Value.str (Str.ofString "reversed") 72, val := Value.type "reversed" }, { hash := PyData.keyHash P (Str.ofString "set"), key := Value.str (Str.ofString "set") 73, val := Value.type "set" }, { hash := PyData.keyHash P (Str.ofString "slice"), key := Value.str (Str.ofString "slice") 74, val := Value.type "slice" }, { hash := PyData.keyHash P (Str.ofString "staticmethod"), key := Value.str (Str.ofString "staticmethod") 75, val := Value.type "staticmethod" }, { hash := PyData.keyHash P (Str.ofString "str"), key := Value.str (Str.ofString "str") 76, val := Value.type "str" }, { hash := PyData.keyHash P (Str.ofString "super"), key := Value.str (Str.ofString "super") 77, val := Value.type "super" }, { hash := PyData.keyHash P (Str.ofString "tuple"), key := Value.str (Str.ofString "tuple") 78, val := Value.type "tuple" }, { hash := PyData.keyHash P (Str.ofString "type"), key := Value.str (Str.ofString "type") 79, val := Value.type "type" }, { hash := PyData.keyHash P (Str.ofString "zip"), key := Value.str (Str.ofString "zip") 80, val := Value.type "zip" }, { hash := PyData.keyHash P (Str.ofString "__debug__"), key := Value.str (Str.ofString "__debug__") 81, val := Value.bool true }, { hash := PyData.keyHash P (Str.ofString "BaseException"), key := Value.str (Str.ofString "BaseException") 82, val := Value.type "BaseException" }, { hash := PyData.keyHash P (Str.ofString "BaseExceptionGroup"), key := Value.str (Str.ofString "BaseExceptionGroup") 83, val := Value.type "BaseExceptionGroup" }, { hash := PyData.keyHash P (Str.ofString "Exception"), key := Value.str (Str.ofString "Exception") 84, val := Value.type "Exception" }, { hash := PyData.keyHash P (Str.ofString "GeneratorExit"), key := Value.str (Str.ofString "GeneratorExit") 85, val := Value.type "GeneratorExit" }, { hash := PyData.keyHash P (Str.ofString "KeyboardInterrupt"), key := Value.str (Str.ofString "KeyboardInterrupt") 86, val := Value.type "KeyboardInterrupt" }, { hash := PyData.keyHash P (Str.ofString "SystemExit"), key := Value.str (Str.ofString "SystemExit") 87, val := Value.type "SystemExit" }, { hash := PyData.keyHash P (Str.ofString "ArithmeticError"), key := Value.str (Str.ofString "ArithmeticError") 88, val := Value.type "ArithmeticError" }, { hash := PyData.keyHash P (Str.ofString "AssertionError"), key := Value.str (Str.ofString "AssertionError") 89, val := Value.type "AssertionError" }, { hash := PyData.keyHash P (Str.ofString "AttributeError"), key := Value.str (Str.ofString "AttributeError") 90, val := Value.type "AttributeError" }, { hash := PyData.keyHash P (Str.ofString "BufferError"), key := Value.str (Str.ofString "BufferError") 91, val := Value.type "BufferError" }, { hash := PyData.keyHash P (Str.ofString "EOFError"), key := Value.str (Str.ofString "EOFError") 92, val := Value.type "EOFError" }, { hash := PyData.keyHash P (Str.ofString "ImportError"), key := Value.str (Str.ofString "ImportError") 93, val := Value.type "ImportError" }, { hash := PyData.keyHash P (Str.ofString "LookupError"), key := Value.str (Str.ofString "LookupError") 94, val := Value.type "LookupError" }, { hash := PyData.keyHash P (Str.ofString "MemoryError"), key := Value.str (Str.ofString "MemoryError") 95, val := Value.type "MemoryError" }, { hash := PyData.keyHash P (Str.ofString "NameError"), key := Value.str (Str.ofString "NameError") 96, val := Value.type "NameError" }, { hash := PyData.keyHash P (Str.ofString "OSError"), key := Value.str (Str.ofString "OSError") 97, val := Value.type "OSError" }, { hash := PyData.keyHash P (Str.ofString "ReferenceError"), key := Value.str (Str.ofString "ReferenceError") 98, val := Value.type "ReferenceError" }, { hash := PyData.keyHash P (Str.ofString "RuntimeError"), key := Value.str (Str.ofString "RuntimeError") 99, val := Value.type "RuntimeError" }, { hash := PyData.keyHash P (Str.ofString "StopAsyncIteration"), key := Value.str (Str.ofString "StopAsyncIteration") 100, val := Value.type "StopAsyncIteration" }, { hash := PyData.keyHash P (Str.ofString "StopIteration"), key := Value.str (Str.ofString "StopIteration") 101, val := Value.type "StopIteration" }, { hash := PyData.keyHash P (Str.ofString "SyntaxError"), key := Value.str (Str.ofString "SyntaxError") 102, val := Value.type "SyntaxError" }, { hash := PyData.keyHash P (Str.ofString "SystemError"), key := Value.str (Str.ofString "SystemError") 103, val := Value.type "SystemError" }, { hash := PyData.keyHash P (Str.ofString "TypeError"), key := Value.str (Str.ofString "TypeError") 104, val := Value.type "TypeError" }, { hash := PyData.keyHash P (Str.ofString "ValueError"), key := Value.str (Str.ofString "ValueError") 105, val := Value.type "ValueError" }, { hash := PyData.keyHash P (Str.ofString "Warning"), key := Value.str (Str.ofString "Warning") 106, val := Value.type "Warning" }, { hash := PyData.keyHash P (Str.ofString "FloatingPointError"), key := Value.str (Str.ofString "FloatingPointError") 107, val := Value.type "FloatingPointError" }, { hash := PyData.keyHash P (Str.ofString "OverflowError"), key := Value.str (Str.ofString "OverflowError") 108, val := Value.type "OverflowError" }, { hash := PyData.keyHash P (Str.ofString "ZeroDivisionError"), key := Value.str (Str.ofString "ZeroDivisionError") 109, val := Value.type "ZeroDivisionError" }, { hash := PyData.keyHash P (Str.ofString "BytesWarning"), key := Value.str (Str.ofString "BytesWarning") 110, val := Value.type "BytesWarning" }, { hash := PyData.keyHash P (Str.ofString "DeprecationWarning"), key := Value.str (Str.ofString "DeprecationWarning") 111, val := Value.type "DeprecationWarning" }, { hash := PyData.keyHash P (Str.ofString "EncodingWarning"), key := Value.str (Str.ofString "EncodingWarning") 112, val := Value.type "EncodingWarning" }, { hash := PyData.keyHash P (Str.ofString "FutureWarning"), key := Value.str (Str.ofString "FutureWarning") 113, val := Value.type "FutureWarning" }, { hash := PyData.keyHash P (Str.ofString "ImportWarning"), key := Value.str (Str.ofString "ImportWarning") 114, val := Value.type "ImportWarning" }, { hash := PyData.keyHash P (Str.ofString "PendingDeprecationWarning"), key := Value.str (Str.ofString "PendingDeprecationWarning") 115, val := Value.type "PendingDeprecationWarning" }, { hash := PyData.keyHash P (Str.ofString "ResourceWarning"), key := Value.str (Str.ofString "ResourceWarning") 116, val := Value.type "ResourceWarning" }, { hash := PyData.keyHash P (Str.ofString "RuntimeWarning"), key := Value.str (Str.ofString "RuntimeWarning") 117, val := Value.type "RuntimeWarning" }, { hash := PyData.keyHash P (Str.ofString "SyntaxWarning"), key := Value.str (Str.ofString "SyntaxWarning") 118, val := Value.type "SyntaxWarning" }, { hash := PyData.keyHash P (Str.ofString "UnicodeWarning"), key := Value.str (Str.ofString "UnicodeWarning") 119, val := Value.type "UnicodeWarning" }, { hash := PyData.keyHash P (Str.ofString "UserWarning"), key := Value.str (Str.ofString "UserWarning") 120, val := Value.type "UserWarning" }, { hash := PyData.keyHash P (Str.ofString "BlockingIOError"), key := Value.str (Str.ofString "BlockingIOError") 121, val := Value.type "BlockingIOError" }, { hash := PyData.keyHash P (Str.ofString "ChildProcessError"), key := Value.str (Str.ofString "ChildProcessError") 122, val := Value.type "ChildProcessError" }, { hash := PyData.keyHash P (Str.ofString "ConnectionError"), key := Value.str (Str.ofString "ConnectionError") 123, val := Value.type "ConnectionError" }, { hash := PyData.keyHash P (Str.ofString "FileExistsError"), key := Value.str (Str.ofString "FileExistsError") 124, val := Value.type "FileExistsError" }, { hash := PyData.keyHash P (Str.ofString "FileNotFoundError"), key := Value.str (Str.ofString "FileNotFoundError") 125, val := Value.type "FileNotFoundError" }, { hash := PyData.keyHash P (Str.ofString "InterruptedError"), key := Value.str (Str.ofString "InterruptedError") 126, val := Value.type "InterruptedError" }, { hash := PyData.keyHash P (Str.ofString "IsADirectoryError"), key := Value.str (Str.ofString "IsADirectoryError") 127, val := Value.type "IsADirectoryError" }, { hash := PyData.keyHash P (Str.ofString "NotADirectoryError"), key := Value.str (Str.ofString "NotADirectoryError") 128, val := Value.type "NotADirectoryError" }, { hash := PyData.keyHash P (Str.ofString "PermissionError"), key := Value.str (Str.ofString "PermissionError") 129, val := Value.type "PermissionError" }, { hash := PyData.keyHash P (Str.ofString "ProcessLookupError"), key := Value.str (Str.ofString "ProcessLookupError") 130, val := Value.type "ProcessLookupError" }, { hash := PyData.keyHash P (Str.ofString "TimeoutError"), key := Value.str (Str.ofString "TimeoutError") 131, val := Value.type "TimeoutError" }, { hash := PyData.keyHash P (Str.ofString "IndentationError"), key := Value.str (Str.ofString "IndentationError") 132, val := Value.type "IndentationError" }, { hash := PyData.keyHash P (Str.ofString "_IncompleteInputError"), key := Value.str (Str.ofString "_IncompleteInputError") 133, val := Value.type "_IncompleteInputError" }, { hash := PyData.keyHash P (Str.ofString "IndexError"), key := Value.str (Str.ofString "IndexError") 134, val := Value.type "IndexError" }, { hash := PyData.keyHash P (Str.ofString "KeyError"), key := Value.str (Str.ofString "KeyError") 135, val := Value.type "KeyError" }, { hash := PyData.keyHash P (Str.ofString "ModuleNotFoundError"), key := Value.str (Str.ofString "ModuleNotFoundError") 136, val := Value.type "ModuleNotFoundError" }, { hash := PyData.keyHash P (Str.ofString "NotImplementedError"), key := Value.str (Str.ofString "NotImplementedError") 137, val := Value.type "NotImplementedError" }, { hash := PyData.keyHash P (Str.ofString "PythonFinalizationError"), key := Value.str (Str.ofString "PythonFinalizationError") 138, val := Value.type "PythonFinalizationError" }, { hash := PyData.keyHash P (Str.ofString "RecursionError"), key := Value.str (Str.ofString "RecursionError") 139, val := Value.type "RecursionError" }, { hash := PyData.keyHash P (Str.ofString "UnboundLocalError"), key := Value.str (Str.ofString "UnboundLocalError") 140, val := Value.type "UnboundLocalError" }, { hash := PyData.keyHash P (Str.ofString "UnicodeError"), key := Value.str (Str.ofString "UnicodeError") 141, val := Value.type "UnicodeError" }, { hash := PyData.keyHash P (Str.ofString "BrokenPipeError"), key := Value.str (Str.ofString "BrokenPipeError") 142, val := Value.type "BrokenPipeError" }, { hash := PyData.keyHash P (Str.ofString "ConnectionAbortedError"), key := Value.str (Str.ofString "ConnectionAbortedError") 143, val := Value.type "ConnectionAbortedError" }, { hash := PyData.keyHash P (Str.ofString "ConnectionRefusedError"), key := Value.str (Str.ofString "ConnectionRefusedError") 144, val := Value.type "ConnectionRefusedError" }, { hash := PyData.keyHash P (Str.ofString "ConnectionResetError"), key := Value.str (Str.ofString "ConnectionResetError") 145, val := Value.type "ConnectionResetError" }, { hash := PyData.keyHash P (Str.ofString "TabError"), key := Value.str (Str.ofString "TabError") 146, val := Value.type "TabError" }, { hash := PyData.keyHash P (Str.ofString "UnicodeDecodeError"), key := Value.str (Str.ofString "UnicodeDecodeError") 147, val := Value.type "UnicodeDecodeError" }, { hash := PyData.keyHash P (Str.ofString "UnicodeEncodeError"), key := Value.str (Str.ofString "UnicodeEncodeError") 148, val := Value.type "UnicodeEncodeError" }, { hash := PyData.keyHash P (Str.ofString "UnicodeTranslateError"), key := Value.str (Str.ofString "UnicodeTranslateError") 149, val := Value.type "UnicodeTranslateError" }, { hash := PyData.keyHash P (Str.ofString "ExceptionGroup"), key := Value.str (Str.ofString "ExceptionGroup") 150, val := Value.type "ExceptionGroup" }, { hash := PyData.keyHash P (Str.ofString "EnvironmentError"), key := Value.str (Str.ofString "EnvironmentError") 151, val := Value.type "OSError" }, { hash := PyData.keyHash P (Str.ofString "IOError"), key := Value.str (Str.ofString "IOError") 152, val := Value.type "OSError" }, { hash := PyData.keyHash P (Str.ofString "open"), key := Value.str (Str.ofString "open") 153, val := Value.builtin "open" }, { hash := PyData.keyHash P (Str.ofString "quit"), key := Value.str (Str.ofString "quit") 154, val := Value.builtin "builtins.quit#opaque" }, { hash := PyData.keyHash P (Str.ofString "exit"), key := Value.str (Str.ofString "exit") 155, val := Value.builtin "builtins.exit#opaque" }, { hash := PyData.keyHash P (Str.ofString "copyright"), key := Value.str (Str.ofString "copyright") 156, val := Value.builtin "builtins.copyright#opaque" }, { hash := PyData.keyHash P (Str.ofString "credits"), key := Value.str (Str.ofString "credits") 157, val := Value.builtin "builtins.credits#opaque" }, { hash := PyData.keyHash P (Str.ofString "license"), key := Value.str (Str.ofString "license") 158, val := Value.builtin "builtins.license#opaque" }, { hash := PyData.keyHash P (Str.ofString "help"), key := Value.str (Str.ofString "help") 159, val := Value.builtin "builtins.help#opaque" }] 159 }
noncomputable def b1 (P : Params) : Obj := { cls := Value.type "dict", data := Data.dict #[{ hash := PyData.keyHash P (Str.ofString "builtins"), key := Value.str (Str.ofString "builtins") 162, val := Value.ref 4 }, { hash := PyData.keyHash P (Str.ofString "__main__"), key := Value.str (Str.ofString "__main__") 163, val := Value.ref 5 }, { hash := PyData.keyHash P (Str.ofString "_sre"), key := Value.str (Str.ofString "_sre") 244, val := Value.ref 12 }] 3 }
noncomputable def b2 (P : Params) : Obj := { cls := Value.none, data := Data.dict #[{ hash := PyData.keyHash P (Str.ofString "\x69mport.loaded._sre"), key := Value.str (Str.ofString "\x69mport.loaded._sre") 183, val := Value.bool true }, { hash := PyData.keyHash P (Str.ofString "class._frozen_importlib.BuiltinImporter"), key := Value.str (Str.ofString "class._frozen_importlib.BuiltinImporter") 185, val := Value.ref 14 }, { hash := PyData.keyHash P (Str.ofString "watched.\x69mport"), key := Value.str (Str.ofString "watched.\x69mport") 206, val := Value.ref 18 }, { hash := PyData.keyHash P (Str.ofString "class._frozen_importlib.ModuleSpec"), key := Value.str (Str.ofString "class._frozen_importlib.ModuleSpec") 216, val := Value.ref 22 }, { hash := PyData.keyHash P (Str.ofString "sys.modules.booked-epoch"), key := Value.str (Str.ofString "sys.modules.booked-epoch") 245, val := Value.int 3 0 }, { hash := PyData.keyHash P (Str.ofString "\x69mport.later-laid._sre"), key := Value.str (Str.ofString "\x69mport.later-laid._sre") 270, val := Value.bool true }, { hash := PyData.keyHash P (Str.ofString "watched.library"), key := Value.str (Str.ofString "watched.library") 272, val := Value.ref 27 }, { hash := PyData.keyHash P (Str.ofString "watched.library-objects"), key := Value.str (Str.ofString "watched.library-objects") 0, val := Value.str (Str.ofString "\x0c") 0 }, { hash := PyData.keyHash P (Str.ofString "watched.library-deep._sre"), key := Value.str (Str.ofString "watched.library-deep._sre") 273, val := Value.str (Str.ofString "\x04\x00\x00\x0b\x04\x00\x00\x0b\x04\x00\x00\x03\x04\x00\x00\x0b\x08\x04dict\x02") 0 }] 9 }
noncomputable def b3 (P : Params) : Obj := { cls := Value.type "dict", data := Data.dict #[{ hash := PyData.keyHash P (Str.ofString "__name__"), key := Value.str (Str.ofString "__name__") 165, val := Value.str (Str.ofString "__main__") 164 }, { hash := PyData.keyHash P (Str.ofString "__doc__"), key := Value.str (Str.ofString "__doc__") 166, val := Value.none }, { hash := PyData.keyHash P (Str.ofString "__package__"), key := Value.str (Str.ofString "__package__") 167, val := Value.none }, { hash := PyData.keyHash P (Str.ofString "__loader__"), key := Value.str (Str.ofString "__loader__") 168, val := Value.builtin "__main__.__loader__#opaque" }, { hash := PyData.keyHash P (Str.ofString "__spec__"), key := Value.str (Str.ofString "__spec__") 169, val := Value.none }, { hash := PyData.keyHash P (Str.ofString "__annotations__"), key := Value.str (Str.ofString "__annotations__") 170, val := Value.ref 6 }, { hash := PyData.keyHash P (Str.ofString "__builtins__"), key := Value.str (Str.ofString "__builtins__") 171, val := Value.ref 4 }, { hash := PyData.keyHash P (Str.ofString "__file__"), key := Value.str (Str.ofString "__file__") 173, val := Value.str (Str.ofString "/claim/cut.py") 172 }, { hash := PyData.keyHash P (Str.ofString "__cached__"), key := Value.str (Str.ofString "__cached__") 174, val := Value.none }, { hash := PyData.keyHash P (Str.ofString "_sre"), key := Value.str (Str.ofString "_sre") 275, val := Value.ref 12 }] 10 }
noncomputable def b4 (P : Params) : Obj := { cls := Value.type "module", dict := some 0 }
noncomputable def b5 (P : Params) : Obj := { cls := Value.type "module", dict := some 3 }
noncomputable def b6 (P : Params) : Obj := { cls := Value.type "dict", data := Data.dict #[] }
noncomputable def b7 (P : Params) : Obj := { cls := Value.type "tuple", data := Data.seq #[] }
noncomputable def b8 (P : Params) : Obj := { cls := Value.none, data := Data.fields #[] }
noncomputable def b9 (P : Params) : Obj := { cls := Value.type "code", data := Data.fields #[Value.str (Str.ofString "<module>") 176, Value.str (Str.ofString "<module>") 177, Value.str (Str.ofString "/claim/cut.py") 178, Value.int 1 0, Value.int 0 0, Value.int 0 0, Value.int 0 0, Value.int 0 0, Value.ref 7, Value.bool false, Value.int 175 0, Value.ref 8, Value.none, Value.none, Value.none, Value.none, Value.int 179 0, Value.int 1 0, Value.str (Str.ofString "/claim/cut.py") 180] }
noncomputable def b10 (P : Params) : Obj := { cls := Value.type "frame", slots := #[some (Value.ref 9), some (Value.ref 3), some (Value.ref 3), none, some (Value.str (Str.ofString "__main__") 164), none, some (Value.ref 0)] }
noncomputable def b11 (P : Params) : Obj := { cls := Value.type "dict", data := Data.dict #[{ hash := PyData.keyHash P (Str.ofString "__name__"), key := Value.str (Str.ofString "__name__") 247, val := Value.str (Str.ofString "_sre") 246 }, { hash := PyData.keyHash P (Str.ofString "__doc__"), key := Value.str (Str.ofString "__doc__") 248, val := Value.none }, { hash := PyData.keyHash P (Str.ofString "__package__"), key := Value.str (Str.ofString "__package__") 250, val := Value.str (Str.ofString "") 249 }, { hash := PyData.keyHash P (Str.ofString "__loader__"), key := Value.str (Str.ofString "__loader__") 251, val := Value.builtin "off-the-table:_sre.__loader__:shared#opaque" }, { hash := PyData.keyHash P (Str.ofString "__spec__"), key := Value.str (Str.ofString "__spec__") 252, val := Value.builtin "off-the-table:_sre.__spec__:shared#opaque" }, { hash := PyData.keyHash P (Str.ofString "compile"), key := Value.str (Str.ofString "compile") 253, val := Value.builtin "_sre.compile" }, { hash := PyData.keyHash P (Str.ofString "template"), key := Value.str (Str.ofString "template") 254, val := Value.builtin "off-the-table:_sre.template:shared#opaque" }, { hash := PyData.keyHash P (Str.ofString "getcodesize"), key := Value.str (Str.ofString "getcodesize") 255, val := Value.builtin "off-the-table:_sre.getcodesize:shared#opaque" }, { hash := PyData.keyHash P (Str.ofString "ascii_iscased"), key := Value.str (Str.ofString "ascii_iscased") 256, val := Value.builtin "off-the-table:_sre.ascii_iscased:shared#opaque" }, { hash := PyData.keyHash P (Str.ofString "unicode_iscased"), key := Value.str (Str.ofString "unicode_iscased") 257, val := Value.builtin "off-the-table:_sre.unicode_iscased:shared#opaque" }, { hash := PyData.keyHash P (Str.ofString "ascii_tolower"), key := Value.str (Str.ofString "ascii_tolower") 258, val := Value.builtin "off-the-table:_sre.ascii_tolower:shared#opaque" }, { hash := PyData.keyHash P (Str.ofString "unicode_tolower"), key := Value.str (Str.ofString "unicode_tolower") 259, val := Value.builtin "off-the-table:_sre.unicode_tolower:shared#opaque" }, { hash := PyData.keyHash P (Str.ofString "MAGIC"), key := Value.str (Str.ofString "MAGIC") 261, val := Value.int 20230612 260 }, { hash := PyData.keyHash P (Str.ofString "CODESIZE"), key := Value.str (Str.ofString "CODESIZE") 263, val := Value.int 4 262 }, { hash := PyData.keyHash P (Str.ofString "MAXREPEAT"), key := Value.str (Str.ofString "MAXREPEAT") 265, val := Value.int 4294967295 264 }, { hash := PyData.keyHash P (Str.ofString "MAXGROUPS"), key := Value.str (Str.ofString "MAXGROUPS") 267, val := Value.int 1073741823 266 }, { hash := PyData.keyHash P (Str.ofString "copyright"), key := Value.str (Str.ofString "copyright") 269, val := Value.str (Str.ofString " SRE 2.2.2 Copyright (c) 1997-2002 by Secret Labs AB ") 268 }] 17 }
noncomputable def b12 (P : Params) : Obj := { cls := Value.type "module", dict := some 11 }
noncomputable def b13 (P : Params) : Obj := { cls := Value.type "dict", data := Data.dict #[{ hash := PyData.keyHash P (Str.ofString "__module__"), key := Value.str (Str.ofString "__module__") 189, val := Value.str (Str.ofString "_frozen_importlib") 186 }, { hash := PyData.keyHash P (Str.ofString "__firstlineno__"), key := Value.str (Str.ofString "__firstlineno__") 190, val := Value.int 971 187 }, { hash := PyData.keyHash P (Str.ofString "__doc__"), key := Value.str (Str.ofString "__doc__") 191, val := Value.builtin "_frozen_importlib.BuiltinImporter.__doc__:str#opaque" }, { hash := PyData.keyHash P (Str.ofString "_ORIGIN"), key := Value.str (Str.ofString "_ORIGIN") 192, val := Value.str (Str.ofString "built-in") 188 }, { hash := PyData.keyHash P (Str.ofString "find_spec"), key := Value.str (Str.ofString "find_spec") 193, val := Value.builtin "_frozen_importlib.BuiltinImporter.find_spec#opaque" }, { hash := PyData.keyHash P (Str.ofString "create_module"), key := Value.str (Str.ofString "create_module") 194, val := Value.builtin "_frozen_importlib.BuiltinImporter.create_module#opaque" }, { hash := PyData.keyHash P (Str.ofString "exec_module"), key := Value.str (Str.ofString "exec_module") 195, val := Value.builtin "_frozen_importlib.BuiltinImporter.exec_module#opaque" }, { hash := PyData.keyHash P (Str.ofString "get_code"), key := Value.str (Str.ofString "get_code") 196, val := Value.builtin "_frozen_importlib.BuiltinImporter.get_code#opaque" }, { hash := PyData.keyHash P (Str.ofString "get_source"), key := Value.str (Str.ofString "get_source") 197, val := Value.builtin "_frozen_importlib.BuiltinImporter.get_source#opaque" }, { hash := PyData.keyHash P (Str.ofString "is_package"), key := Value.str (Str.ofString "is_package") 198, val := Value.builtin "_frozen_importlib.BuiltinImporter.is_package#opaque" }, { hash := PyData.keyHash P (Str.ofString "load_module"), key := Value.str (Str.ofString "load_module") 199, val := Value.builtin "_frozen_importlib.BuiltinImporter.load_module#opaque" }, { hash := PyData.keyHash P (Str.ofString "__static_attributes__"), key := Value.str (Str.ofString "__static_attributes__") 200, val := Value.ref 15 }, { hash := PyData.keyHash P (Str.ofString "__dict__"), key := Value.str (Str.ofString "__dict__") 202, val := Value.ref 16 }, { hash := PyData.keyHash P (Str.ofString "__weakref__"), key := Value.str (Str.ofString "__weakref__") 204, val := Value.ref 17 }] 14 }
noncomputable def b14 (P : Params) : Obj := { cls := Value.type "type", data := Data.cls { name := Str.ofString "BuiltinImporter", bases := [Value.type "object"], mro := [Value.ref 14, Value.type "object"], ns := 13, qualname := Str.ofString "BuiltinImporter" } }
noncomputable def b15 (P : Params) : Obj := { cls := Value.type "tuple", data := Data.seq #[] }
noncomputable def b16 (P : Params) : Obj := { cls := Value.type "getset_descriptor", data := Data.fields #[Value.str (Str.ofString "__dict__") 201, Value.ref 14, Value.builtin "function.__dict__", Value.builtin "function.__dict__#set"] }
noncomputable def b17 (P : Params) : Obj := { cls := Value.type "getset_descriptor", data := Data.fields #[Value.str (Str.ofString "__weakref__") 203, Value.ref 14, Value.builtin "ExceptionGroup.__weakref__", Value.none] }
noncomputable def b18 (P : Params) : Obj := { cls := Value.none, data := Data.seq #[Value.int 13 0, Value.str { cps := #[6, 189, 10, 95, 95, 109, 111, 100, 117, 108, 101, 95, 95, 6, 186, 17, 95, 102, 114, 111, 122, 101, 110, 95, 105, 109, 112, 111, 114, 116, 108, 105, 98, 6, 190, 15, 95, 95, 102, 105, 114, 115, 116, 108, 105, 110, 101, 110, 111, 95, 95, 4, 187, 0, 971, 6, 191, 7, 95, 95, 100, 111, 99, 95, 95, 9, 52, 95, 102, 114, 111, 122, 101, 110, 95, 105, 109, 112, 111, 114, 116, 108, 105, 98, 46, 66, 117, 105, 108, 116, 105, 110, 73, 109, 112, 111, 114, 116, 101, 114, 46, 95, 95, 100, 111, 99, 95, 95, 58, 115, 116, 114, 35, 111, 112, 97, 113, 117, 101, 6, 192, 7, 95, 79, 82, 73, 71, 73, 78, 6, 188, 8, 98, 117, 105, 108, 116, 45, 105, 110, 6, 193, 9, 102, 105, 110, 100, 95, 115, 112, 101, 99, 9, 50, 95, 102, 114, 111, 122, 101, 110, 95, 105, 109, 112, 111, 114, 116, 108, 105, 98, 46, 66, 117, 105, 108, 116, 105, 110, 73, 109, 112, 111, 114, 116, 101, 114, 46, 102, 105, 110, 100, 95, 115, 112, 101, 99, 35, 111, 112, 97, 113, 117, 101, 6, 194, 13, 99, 114, 101, 97, 116, 101, 95, 109, 111, 100, 117, 108, 101, 9, 54, 95, 102, 114, 111, 122, 101, 110, 95, 105, 109, 112, 111, 114, 116, 108, 105, 98, 46, 66, 117, 105, 108, 116, 105, 110, 73, 109, 112, 111, 114, 116, 101, 114, 46, 99, 114, 101, 97, 116, 101, 95, 109, 111, 100, 117, 108, 101, 35, 111, 112, 97, 113, 117, 101, 6, 195, 11, 101, 120, 101, 99, 95, 109, 111, 100, 117, 108, 101, 9, 52, 95, 102, 114, 111, 122, 101, 110, 95, 105, 109, 112, 111, 114, 116, 108, 105, 98, 46, 66, 117, 105, 108, 116, 105, 110, 73, 109, 112, 111, 114, 116, 101, 114, 46, 101, 120, 101, 99, 95, 109, 111, 100, 117, 108, 101, 35, 111, 112, 97, 113, 117, 101, 6, 196, 8, 103, 101, 116, 95, 99, 111, 100, 101, 9, 49, 95, 102, 114, 111, 122, 101, 110, 95, 105, 109, 112, 111, 114, 116, 108, 105, 98, 46, 66, 117, 105, 108, 116, 105, 110, 73, 109, 112, 111, 114, 116, 101, 114, 46, 103, 101, 116, 95, 99, 111, 100, 101, 35, 111, 112, 97, 113, 117, 101, 6, 197, 10, 103, 101, 116, 95, 115, 111, 117, 114, 99, 101, 9, 51, 95, 102, 114, 111, 122, 101, 110, 95, 105, 109, 112, 111, 114, 116, 108, 105, 98, 46, 66, 117, 105, 108, 116, 105, 110, 73, 109, 112, 111, 114, 116, 101, 114, 46, 103, 101, 116, 95, 115, 111, 117, 114, 99, 101, 35, 111, 112, 97, 113, 117, 101, 6, 198, 10, 105, 115, 95, 112, 97, 99, 107, 97, 103, 101, 9, 51, 95, 102, 114, 111, 122, 101, 110, 95, 105, 109, 112, 111, 114, 116, 108, 105, 98, 46, 66, 117, 105, 108, 116, 105, 110, 73, 109, 112, 111, 114, 116, 101, 114, 46, 105, 115, 95, 112, 97, 99, 107, 97, 103, 101, 35, 111, 112, 97, 113, 117, 101, 6, 199, 11, 108, 111, 97, 100, 95, 109, 111, 100, 117, 108, 101, 9, 52, 95, 102, 114, 111, 122, 101, 110, 95, 105, 109, 112, 111, 114, 116, 108, 105, 98, 46, 66, 117, 105, 108, 116, 105, 110, 73, 109, 112, 111, 114, 116, 101, 114, 46, 108, 111, 97, 100, 95, 109, 111, 100, 117, 108, 101, 35, 111, 112, 97, 113, 117, 101, 6, 200, 21, 95, 95, 115, 116, 97, 116, 105, 99, 95, 97, 116, 116, 114, 105, 98, 117, 116, 101, 115, 95, 95, 4, 0, 0, 15, 6, 202, 8, 95, 95, 100, 105, 99, 116, 95, 95, 4, 0, 0, 16, 6, 204, 11, 95, 95, 119, 101, 97, 107, 114, 101, 102, 95, 95, 4, 0, 0, 17] } 0, Value.bool true, Value.bool true, Value.str (Str.ofString "") 205, Value.int 21 0, Value.str { cps := #[6, 227, 10, 95, 95, 109, 111, 100, 117, 108, 101, 95, 95, 6, 217, 17, 95, 102, 114, 111, 122, 101, 110, 95, 105, 109, 112, 111, 114, 116, 108, 105, 98, 6, 228, 15, 95, 95, 102, 105, 114, 115, 116, 108, 105, 110, 101, 110, 111, 95, 95, 4, 218, 0, 562, 6, 229, 7, 95, 95, 100, 111, 99, 95, 95, 9, 47, 95, 102, 114, 111, 122, 101, 110, 95, 105, 109, 112, 111, 114, 116, 108, 105, 98, 46, 77, 111, 100, 117, 108, 101, 83, 112, 101, 99, 46, 95, 95, 100, 111, 99, 95, 95, 58, 115, 116, 114, 35, 111, 112, 97, 113, 117, 101, 6, 230, 8, 95, 95, 105, 110, 105, 116, 95, 95, 9, 44, 95, 102, 114, 111, 122, 101, 110, 95, 105, 109, 112, 111, 114, 116, 108, 105, 98, 46, 77, 111, 100, 117, 108, 101, 83, 112, 101, 99, 46, 95, 95, 105, 110, 105, 116, 95, 95, 35, 111, 112, 97, 113, 117, 101, 6, 231, 8, 95, 95, 114, 101, 112, 114, 95, 95, 9, 44, 95, 102, 114, 111, 122, 101, 110, 95, 105, 109, 112, 111, 114, 116, 108, 105, 98, 46, 77, 111, 100, 117, 108, 101, 83, 112, 101, 99, 46, 95, 95, 114, 101, 112, 114, 95, 95, 35, 111, 112, 97, 113, 117, 101, 6, 232, 6, 95, 95, 101, 113, 95, 95, 9, 42, 95, 102, 114, 111, 122, 101, 110, 95, 105, 109, 112, 111, 114, 116, 108, 105, 98, 46, 77, 111, 100, 117, 108, 101, 83, 112, 101, 99, 46, 95, 95, 101, 113, 95, 95, 35, 111, 112, 97, 113, 117, 101, 6, 233, 6, 99, 97, 99, 104, 101, 100, 9, 42, 95, 102, 114, 111, 122, 101, 110, 95, 105, 109, 112, 111, 114, 116, 108, 105, 98, 46, 77, 111, 100, 117, 108, 101, 83, 112, 101, 99, 46, 99, 97, 99, 104, 101, 100, 35, 111, 112, 97, 113, 117, 101, 6, 234, 6, 112, 97, 114, 101, 110, 116, 9, 42, 95, 102, 114, 111, 122, 101, 110, 95, 105, 109, 112, 111, 114, 116, 108, 105, 98, 46, 77, 111, 100, 117, 108, 101, 83, 112, 101, 99, 46, 112, 97, 114, 101, 110, 116, 35, 111, 112, 97, 113, 117, 101, 6, 235, 12, 104, 97, 115, 95, 108, 111, 99, 97, 116, 105, 111, 110, 9, 48, 95, 102, 114, 111, 122, 101, 110, 95, 105, 109, 112, 111, 114, 116, 108, 105, 98, 46, 77, 111, 100, 117, 108, 101, 83, 112, 101, 99, 46, 104, 97, 115, 95, 108, 111, 99, 97, 116, 105, 111, 110, 35, 111, 112, 97, 113, 117, 101, 6, 236, 21, 95, 95, 115, 116, 97, 116, 105, 99, 95, 97, 116, 116, 114, 105, 98, 117, 116, 101, 115, 95, 95, 4, 0, 0, 23, 6, 238, 8, 95, 95, 100, 105, 99, 116, 95, 95, 4, 0, 0, 24, 6, 240, 11, 95, 95, 119, 101, 97, 107, 114, 101, 102, 95, 95, 4, 0, 0, 25, 6, 241, 8, 95, 95, 104, 97, 115, 104, 95, 95, 0] } 0, Value.bool true, Value.bool true, Value.str (Str.ofString "") 242] 1 }
noncomputable def b19 (P : Params) : Obj := { cls := Value.type "list", data := Data.seq #[] }
noncomputable def b20 (P : Params) : Obj := { cls := Value.type "dict", data := Data.dict #[{ hash := PyData.keyHash P (Str.ofString "name"), key := Value.str (Str.ofString "name") 208, val := Value.str (Str.ofString "_sre") 207 }, { hash := PyData.keyHash P (Str.ofString "loader"), key := Value.str (Str.ofString "loader") 209, val := Value.ref 14 }, { hash := PyData.keyHash P (Str.ofString "origin"), key := Value.str (Str.ofString "origin") 210, val := Value.str (Str.ofString "built-in") 184 }, { hash := PyData.keyHash P (Str.ofString "loader_state"), key := Value.str (Str.ofString "loader_state") 211, val := Value.none }, { hash := PyData.keyHash P (Str.ofString "submodule_search_locations"), key := Value.str (Str.ofString "submodule_search_locations") 212, val := Value.none }, { hash := PyData.keyHash P (Str.ofString "_uninitialized_submodules"), key := Value.str (Str.ofString "_uninitialized_submodules") 213, val := Value.ref 19 }, { hash := PyData.keyHash P (Str.ofString "_set_fileattr"), key := Value.str (Str.ofString "_set_fileattr") 214, val := Value.bool false }, { hash := PyData.keyHash P (Str.ofString "_cached"), key := Value.str (Str.ofString "_cached") 215, val := Value.none }, { hash := PyData.keyHash P (Str.ofString "_initializing"), key := Value.str (Str.ofString "_initializing") 243, val := Value.bool false }] 9 }
noncomputable def b21 (P : Params) : Obj := { cls := Value.type "dict", data := Data.dict #[{ hash := PyData.keyHash P (Str.ofString "__module__"), key := Value.str (Str.ofString "__module__") 227, val := Value.str (Str.ofString "_frozen_importlib") 217 }, { hash := PyData.keyHash P (Str.ofString "__firstlineno__"), key := Value.str (Str.ofString "__firstlineno__") 228, val := Value.int 562 218 }, { hash := PyData.keyHash P (Str.ofString "__doc__"), key := Value.str (Str.ofString "__doc__") 229, val := Value.builtin "_frozen_importlib.ModuleSpec.__doc__:str#opaque" }, { hash := PyData.keyHash P (Str.ofString "__init__"), key := Value.str (Str.ofString "__init__") 230, val := Value.builtin "_frozen_importlib.ModuleSpec.__init__#opaque" }, { hash := PyData.keyHash P (Str.ofString "__repr__"), key := Value.str (Str.ofString "__repr__") 231, val := Value.builtin "_frozen_importlib.ModuleSpec.__repr__#opaque" }, { hash := PyData.keyHash P (Str.ofString "__eq__"), key := Value.str (Str.ofString "__eq__") 232, val := Value.builtin "_frozen_importlib.ModuleSpec.__eq__#opaque" }, { hash := PyData.keyHash P (Str.ofString "cached"), key := Value.str (Str.ofString "cached") 233, val := Value.builtin "_frozen_importlib.ModuleSpec.cached#opaque" }, { hash := PyData.keyHash P (Str.ofString "parent"), key := Value.str (Str.ofString "parent") 234, val := Value.builtin "_frozen_importlib.ModuleSpec.parent#opaque" }, { hash := PyData.keyHash P (Str.ofString "has_location"), key := Value.str (Str.ofString "has_location") 235, val := Value.builtin "_frozen_importlib.ModuleSpec.has_location#opaque" }, { hash := PyData.keyHash P (Str.ofString "__static_attributes__"), key := Value.str (Str.ofString "__static_attributes__") 236, val := Value.ref 23 }, { hash := PyData.keyHash P (Str.ofString "__dict__"), key := Value.str (Str.ofString "__dict__") 238, val := Value.ref 24 }, { hash := PyData.keyHash P (Str.ofString "__weakref__"), key := Value.str (Str.ofString "__weakref__") 240, val := Value.ref 25 }, { hash := PyData.keyHash P (Str.ofString "__hash__"), key := Value.str (Str.ofString "__hash__") 241, val := Value.none }] 13 }
noncomputable def b22 (P : Params) : Obj := { cls := Value.type "type", data := Data.cls { name := Str.ofString "ModuleSpec", bases := [Value.type "object"], mro := [Value.ref 22, Value.type "object"], ns := 21, qualname := Str.ofString "ModuleSpec" } }
noncomputable def b23 (P : Params) : Obj := { cls := Value.type "tuple", data := Data.seq #[Value.str (Str.ofString "_cached") 219, Value.str (Str.ofString "_set_fileattr") 220, Value.str (Str.ofString "_uninitialized_submodules") 221, Value.str (Str.ofString "loader") 222, Value.str (Str.ofString "loader_state") 223, Value.str (Str.ofString "name") 224, Value.str (Str.ofString "origin") 225, Value.str (Str.ofString "submodule_search_locations") 226] }
noncomputable def b24 (P : Params) : Obj := { cls := Value.type "getset_descriptor", data := Data.fields #[Value.str (Str.ofString "__dict__") 237, Value.ref 22, Value.builtin "function.__dict__", Value.builtin "function.__dict__#set"] }
noncomputable def b25 (P : Params) : Obj := { cls := Value.type "getset_descriptor", data := Data.fields #[Value.str (Str.ofString "__weakref__") 239, Value.ref 22, Value.builtin "ExceptionGroup.__weakref__", Value.none] }
noncomputable def b26 (P : Params) : Obj := { cls := Value.ref 22, dict := some 20 }
noncomputable def b27 (P : Params) : Obj := { cls := Value.none, data := Data.seq #[Value.int 11 0, Value.str { cps := #[6, 247, 8, 95, 95, 110, 97, 109, 101, 95, 95, 6, 246, 4, 95, 115, 114, 101, 6, 248, 7, 95, 95, 100, 111, 99, 95, 95, 0, 6, 250, 11, 95, 95, 112, 97, 99, 107, 97, 103, 101, 95, 95, 6, 249, 0, 6, 251, 10, 95, 95, 108, 111, 97, 100, 101, 114, 95, 95, 4, 0, 0, 14, 6, 252, 8, 95, 95, 115, 112, 101, 99, 95, 95, 4, 0, 0, 26, 6, 253, 7, 99, 111, 109, 112, 105, 108, 101, 9, 12, 95, 115, 114, 101, 46, 99, 111, 109, 112, 105, 108, 101, 6, 254, 8, 116, 101, 109, 112, 108, 97, 116, 101, 9, 13, 95, 115, 114, 101, 46, 116, 101, 109, 112, 108, 97, 116, 101, 6, 255, 11, 103, 101, 116, 99, 111, 100, 101, 115, 105, 122, 101, 9, 16, 95, 115, 114, 101, 46, 103, 101, 116, 99, 111, 100, 101, 115, 105, 122, 101, 6, 256, 13, 97, 115, 99, 105, 105, 95, 105, 115, 99, 97, 115, 101, 100, 9, 18, 95, 115, 114, 101, 46, 97, 115, 99, 105, 105, 95, 105, 115, 99, 97, 115, 101, 100, 6, 257, 15, 117, 110, 105, 99, 111, 100, 101, 95, 105, 115, 99, 97, 115, 101, 100, 9, 20, 95, 115, 114, 101, 46, 117, 110, 105, 99, 111, 100, 101, 95, 105, 115, 99, 97, 115, 101, 100, 6, 258, 13, 97, 115, 99, 105, 105, 95, 116, 111, 108, 111, 119, 101, 114, 9, 18, 95, 115, 114, 101, 46, 97, 115, 99, 105, 105, 95, 116, 111, 108, 111, 119, 101, 114, 6, 259, 15, 117, 110, 105, 99, 111, 100, 101, 95, 116, 111, 108, 111, 119, 101, 114, 9, 20, 95, 115, 114, 101, 46, 117, 110, 105, 99, 111, 100, 101, 95, 116, 111, 108, 111, 119, 101, 114, 6, 261, 5, 77, 65, 71, 73, 67, 4, 260, 0, 20230612, 6, 263, 8, 67, 79, 68, 69, 83, 73, 90, 69, 4, 262, 0, 4, 6, 265, 9, 77, 65, 88, 82, 69, 80, 69, 65, 84, 4, 264, 0, 4294967295, 6, 267, 9, 77, 65, 88, 71, 82, 79, 85, 80, 83, 4, 266, 0, 1073741823, 6, 269, 9, 99, 111, 112, 121, 114, 105, 103, 104, 116, 6, 268, 53, 32, 83, 82, 69, 32, 50, 46, 50, 46, 50, 32, 67, 111, 112, 121, 114, 105, 103, 104, 116, 32, 40, 99, 41, 32, 49, 57, 57, 55, 45, 50, 48, 48, 50, 32, 98, 121, 32, 83, 101, 99, 114, 101, 116, 32, 76, 97, 98, 115, 32, 65, 66, 32] } 0, Value.bool true, Value.bool false, Value.str (Str.ofString "_sre") 271] }
/-- the heap at s0 -/
noncomputable def h0 (P : Params) : Heap := { objs := #[b0 P, b1 P, b2 P, b3 P, b4 P, b5 P, b6 P, b7 P, b8 P, b9 P, b10 P, b11 P, b12 P, b13 P, b14 P, b15 P, b16 P, b17 P, b18 P, b19 P, b20 P, b21 P, b22 P, b23 P, b24 P, b25 P, b26 P, b27 P] }
noncomputable def b28 (P : Params) : Obj := { cls := Value.type "tuple", data := Data.seq #[] }
noncomputable def b29 (P : Params) : Obj := { cls := Value.none, data := Data.fields #[] }
noncomputable def b30 (P : Params) : Obj := { cls := Value.type "code", data := Data.fields #[Value.str (Str.ofString "<module>") 277, Value.str (Str.ofString "<module>") 278, Value.str (Str.ofString "/claim/cut.py") 279, Value.int 1 0, Value.int 0 0, Value.int 0 0, Value.int 0 0, Value.int 0 0, Value.ref 28, Value.bool false, Value.int 276 0, Value.ref 29, Value.none, Value.none, Value.none, Value.none, Value.int 280 0, Value.int 1 0, Value.str (Str.ofString "/claim/cut.py") 281] }
noncomputable def b31 (P : Params) : Obj := { cls := Value.type "frame", slots := #[some (Value.ref 30), some (Value.ref 3), some (Value.ref 3), none, some (Value.str (Str.ofString "__main__") 164), none, some (Value.ref 0)] }
/-- the heap at pre -/
noncomputable def h1 (P : Params) : Heap := { objs := #[b0 P, b1 P, b2 P, b3 P, b4 P, b5 P, b6 P, b7 P, b8 P, b9 P, b10 P, b11 P, b12 P, b13 P, b14 P, b15 P, b16 P, b17 P, b18 P, b19 P, b20 P, b21 P, b22 P, b23 P, b24 P, b25 P, b26 P, b27 P, b28 P, b29 P, b30 P, b31 P] }
noncomputable def b3_p3 (P : Params) : Obj := { cls := Value.type "dict", data := Data.dict #[{ hash := PyData.keyHash P (Str.ofString "__name__"), key := Value.str (Str.ofString "__name__") 165, val := Value.str (Str.ofString "re") 331 }, { hash := PyData.keyHash P (Str.ofString "__doc__"), key := Value.str (Str.ofString "__doc__") 166, val := Value.none }, { hash := PyData.keyHash P (Str.ofString "__package__"), key := Value.str (Str.ofString "__package__") 167, val := Value.none }, { hash := PyData.keyHash P (Str.ofString "__loader__"), key := Value.str (Str.ofString "__loader__") 168, val := Value.builtin "__main__.__loader__#opaque" }, { hash := PyData.keyHash P (Str.ofString "__spec__"), key := Value.str (Str.ofString "__spec__") 169, val := Value.none }, { hash := PyData.keyHash P (Str.ofString "__annotations__"), key := Value.str (Str.ofString "__annotations__") 170, val := Value.ref 6 }, { hash := PyData.keyHash P (Str.ofString "__builtins__"), key := Value.str (Str.ofString "__builtins__") 171, val := Value.ref 4 }, { hash := PyData.keyHash P (Str.ofString "__file__"), key := Value.str (Str.ofString "__file__") 173, val := Value.str (Str.ofString "/claim/cut.py") 172 }, { hash := PyData.keyHash P (Str.ofString "__cached__"), key := Value.str (Str.ofString "__cached__") 174, val := Value.none }, { hash := PyData.keyHash P (Str.ofString "_sre"), key := Value.str (Str.ofString "_sre") 275, val := Value.ref 12 }, { hash := PyData.keyHash P (Str.ofString "_twin_re_1"), key := Value.str (Str.ofString "_twin_re_1") 321, val := Value.ref 36 }, { hash := PyData.keyHash P (Str.ofString "translate"), key := Value.str (Str.ofString "translate") 330, val := Value.ref 43 }] 12 }
noncomputable def b29_p3 (P : Params) : Obj := { cls := Value.none, data := Data.fields #[Value.int 4 0, Value.int 0 0, Value.ref 42] }
noncomputable def b32 (P : Params) : Obj := { cls := Value.type "list", data := Data.seq #[Value.int 14 287, Value.int 14 288, Value.int 4 289, Value.int 1 290, Value.int 1 291, Value.int 9 292, Value.int 0 293, Value.int 64 294, Value.int 0 295, Value.int 1342177280 296, Value.int 0 297, Value.int 0 298, Value.int 0 299, Value.int 0 300, Value.int 0 301, Value.int 17 302, Value.int 0 303, Value.int 13 304, Value.int 11 305, Value.int 9 306, Value.int 0 307, Value.int 64 308, Value.int 0 309, Value.int 1342177280 310, Value.int 0 311, Value.int 0 312, Value.int 0 313, Value.int 0 314, Value.int 0 315, Value.int 17 316, Value.int 1 317, Value.int 1 318] }
noncomputable def b33 (P : Params) : Obj := { cls := Value.type "dict", data := Data.dict #[] }
noncomputable def b34 (P : Params) : Obj := { cls := Value.type "tuple", data := Data.seq #[Value.none, Value.none] }
noncomputable def b35 (P : Params) : Obj := { cls := Value.type "tuple", data := Data.seq #[Value.int 14 0, Value.int 14 0, Value.int 4 0, Value.int 1 0, Value.int 1 0, Value.int 9 0, Value.int 0 0, Value.int 64 0, Value.int 0 0, Value.int 1342177280 0, Value.int 0 0, Value.int 0 0, Value.int 0 0, Value.int 0 0, Value.int 0 0, Value.int 17 0, Value.int 0 0, Value.int 13 0, Value.int 11 0, Value.int 9 0, Value.int 0 0, Value.int 64 0, Value.int 0 0, Value.int 1342177280 0, Value.int 0 0, Value.int 0 0, Value.int 0 0, Value.int 0 0, Value.int 0 0, Value.int 17 0, Value.int 1 0, Value.int 1 0] }
noncomputable def b36 (P : Params) : Obj := { cls := Value.type "re.Pattern", data := Data.fields #[Value.str (Str.ofString "([&~|])") 285, Value.int 32 320, Value.int 1 0, Value.none, Value.none, Value.ref 35, Value.int 0 0] }
noncomputable def b37 (P : Params) : Obj := { cls := Value.type "tuple", data := Data.seq #[] }
noncomputable def b38 (P : Params) : Obj := { cls := Value.none, data := Data.fields #[] }
noncomputable def b39 (P : Params) : Obj := { cls := Value.type "tuple", data := Data.seq #[Value.str (Str.ofString "pat") 325, Value.str (Str.ofString "STAR") 326, Value.str (Str.ofString "parts") 327] }
noncomputable def b40 (P : Params) : Obj := { cls := Value.type "tuple", data := Data.seq #[] }
noncomputable def b41 (P : Params) : Obj := { cls := Value.none, data := Data.func { name := Str.ofString "translate", qualname := Str.ofString "translate", params := { posonlyargs := [], args := [{ arg := Str.ofString "pat", annotation := none, pos := { line := 4, col := 14, endLine := 4, endCol := 17 } }], vararg := none, kwonlyargs := [], kw_defaults := [], kwarg := none, defaults := [] }, body := FuncBody.stmts [Stmt.Assign [Expr.Name (Str.ofString "STAR") { line := 5, col := 4, endLine := 5, endCol := 8 }] ((Expr.Name (Str.ofString "object") { line := 5, col := 11, endLine := 5, endCol := 17 }).Call [] [] { line := 5, col := 11, endLine := 5, endCol := 19 }) { line := 5, col := 4, endLine := 5, endCol := 19 }, Stmt.Assign [Expr.Name (Str.ofString "parts") { line := 6, col := 4, endLine := 6, endCol := 9 }] ((Expr.Name (Str.ofString "_translate") { line := 6, col := 12, endLine := 6, endCol := 22 }).Call [Expr.Name (Str.ofString "pat") { line := 6, col := 23, endLine := 6, endCol := 26 }, Expr.Name (Str.ofString "STAR") { line := 6, col := 28, endLine := 6, endCol := 32 }, Expr.Constant (Const.str (Str.ofString ".")) 0 { line := 6, col := 34, endLine := 6, endCol := 37 }] [] { line := 6, col := 12, endLine := 6, endCol := 38 }) { line := 6, col := 4, endLine := 6, endCol := 38 }, Stmt.Return (some ((Expr.Name (Str.ofString "_join_translated_parts") { line := 7, col := 11, endLine := 7, endCol := 33 }).Call [Expr.Name (Str.ofString "parts") { line := 7, col := 34, endLine := 7, endCol := 39 }, Expr.Name (Str.ofString "STAR") { line := 7, col := 41, endLine := 7, endCol := 45 }] [] { line := 7, col := 11, endLine := 7, endCol := 46 })) { line := 7, col := 4, endLine := 7, endCol := 46 }], scope := { kind := ScopeKind.function, names := [(Str.ofString "pat", NameKind.local), (Str.ofString "STAR", NameKind.local), (Str.ofString "parts", NameKind.local), (Str.ofString "object", NameKind.globalImplicit), (Str.ofString "_translate", NameKind.globalImplicit), (Str.ofString "_join_translated_parts", NameKind.globalImplicit)], isGenerator := false, isCoroutine := false }, globals := 0, closure := [], defaults := Value.none, kwdefaults := Value.none } }
noncomputable def b42 (P : Params) : Obj := { cls := Value.type "code", data := Data.fields #[Value.str (Str.ofString "translate") 322, Value.str (Str.ofString "translate") 323, Value.str (Str.ofString "/claim/cut.py") 324, Value.int 4 0, Value.int 1 0, Value.int 0 0, Value.int 0 0, Value.int 3 0, Value.ref 37, Value.bool true, Value.int 276 0, Value.ref 38, Value.none, Value.ref 39, Value.ref 40, Value.ref 41, Value.int 328 0, Value.int 4 0, Value.str (Str.ofString "/claim/cut.py") 329] }
noncomputable def b43 (P : Params) : Obj := { cls := Value.type "function", data := Data.func { name := Str.ofString "translate", qualname := Str.ofString "translate", params := { posonlyargs := [], args := [{ arg := Str.ofString "pat", annotation := none, pos := { line := 4, col := 14, endLine := 4, endCol := 17 } }], vararg := none, kwonlyargs := [], kw_defaults := [], kwarg := none, defaults := [] }, body := FuncBody.stmts [Stmt.Assign [Expr.Name (Str.ofString "STAR") { line := 5, col := 4, endLine := 5, endCol := 8 }] ((Expr.Name (Str.ofString "object") { line := 5, col := 11, endLine := 5, endCol := 17 }).Call [] [] { line := 5, col := 11, endLine := 5, endCol := 19 }) { line := 5, col := 4, endLine := 5, endCol := 19 }, Stmt.Assign [Expr.Name (Str.ofString "parts") { line := 6, col := 4, endLine := 6, endCol := 9 }] ((Expr.Name (Str.ofString "_translate") { line := 6, col := 12, endLine := 6, endCol := 22 }).Call [Expr.Name (Str.ofString "pat") { line := 6, col := 23, endLine := 6, endCol := 26 }, Expr.Name (Str.ofString "STAR") { line := 6, col := 28, endLine := 6, endCol := 32 }, Expr.Constant (Const.str (Str.ofString ".")) 0 { line := 6, col := 34, endLine := 6, endCol := 37 }] [] { line := 6, col := 12, endLine := 6, endCol := 38 }) { line := 6, col := 4, endLine := 6, endCol := 38 }, Stmt.Return (some ((Expr.Name (Str.ofString "_join_translated_parts") { line := 7, col := 11, endLine := 7, endCol := 33 }).Call [Expr.Name (Str.ofString "parts") { line := 7, col := 34, endLine := 7, endCol := 39 }, Expr.Name (Str.ofString "STAR") { line := 7, col := 41, endLine := 7, endCol := 45 }] [] { line := 7, col := 11, endLine := 7, endCol := 46 })) { line := 7, col := 4, endLine := 7, endCol := 46 }], scope := { kind := ScopeKind.function, names := [(Str.ofString "pat", NameKind.local), (Str.ofString "STAR", NameKind.local), (Str.ofString "parts", NameKind.local), (Str.ofString "object", NameKind.globalImplicit), (Str.ofString "_translate", NameKind.globalImplicit), (Str.ofString "_join_translated_parts", NameKind.globalImplicit)], isGenerator := false, isCoroutine := false }, globals := 3, closure := [], defaults := Value.none, kwdefaults := Value.none, pyModule := Value.str (Str.ofString "cpy313.fnmatch") 282, code := Value.ref 42 } }
/-- the heap at p3 -/
noncomputable def h3 (P : Params) : Heap := { objs := #[b0 P, b1 P, b2 P, b3_p3 P, b4 P, b5 P, b6 P, b7 P, b8 P, b9 P, b10 P, b11 P, b12 P, b13 P, b14 P, b15 P, b16 P, b17 P, b18 P, b19 P, b20 P, b21 P, b22 P, b23 P, b24 P, b25 P, b26 P, b27 P, b28 P, b29_p3 P, b30 P, b31 P, b32 P, b33 P, b34 P, b35 P, b36 P, b37 P, b38 P, b39 P, b40 P, b41 P, b42 P, b43 P] }
noncomputable def b3_p4 (P : Params) : Obj := { cls := Value.type "dict", data := Data.dict #[{ hash := PyData.keyHash P (Str.ofString "__name__"), key := Value.str (Str.ofString "__name__") 165, val := Value.str (Str.ofString "re") 331 }, { hash := PyData.keyHash P (Str.ofString "__doc__"), key := Value.str (Str.ofString "__doc__") 166, val := Value.none }, { hash := PyData.keyHash P (Str.ofString "__package__"), key := Value.str (Str.ofString "__package__") 167, val := Value.none }, { hash := PyData.keyHash P (Str.ofString "__loader__"), key := Value.str (Str.ofString "__loader__") 168, val := Value.builtin "__main__.__loader__#opaque" }, { hash := PyData.keyHash P (Str.ofString "__spec__"), key := Value.str (Str.ofString "__spec__") 169, val := Value.none }, { hash := PyData.keyHash P (Str.ofString "__annotations__"), key := Value.str (Str.ofString "__annotations__") 170, val := Value.ref 6 }, { hash := PyData.keyHash P (Str.ofString "__builtins__"), key := Value.str (Str.ofString "__builtins__") 171, val := Value.ref 4 }, { hash := PyData.keyHash P (Str.ofString "__file__"), key := Value.str (Str.ofString "__file__") 173, val := Value.str (Str.ofString "/claim/cut.py") 172 }, { hash := PyData.keyHash P (Str.ofString "__cached__"), key := Value.str (Str.ofString "__cached__") 174, val := Value.none }, { hash := PyData.keyHash P (Str.ofString "_sre"), key := Value.str (Str.ofString "_sre") 275, val := Value.ref 12 }, { hash := PyData.keyHash P (Str.ofString "_twin_re_1"), key := Value.str (Str.ofString "_twin_re_1") 321, val := Value.ref 36 }, { hash := PyData.keyHash P (Str.ofString "translate"), key := Value.str (Str.ofString "translate") 330, val := Value.ref 43 }, { hash := PyData.keyHash P (Str.ofString "_special_chars_map"), key := Value.str (Str.ofString "_special_chars_map") 478, val := Value.ref 45 }] 13 }
noncomputable def b44 (P : Params) : Obj := { cls := Value.type "bytes_iterator", data := Data.fields #[Value.none, Value.int 24 0] }
noncomputable def b45 (P : Params) : Obj := { cls := Value.type "dict", data := Data.dict #[{ hash := 40, key := Value.int 40 334, val := Value.str (Str.ofString "\\(") 338 }, { hash := 41, key := Value.int 41 340, val := Value.str (Str.ofString "\\)") 344 }, { hash := 91, key := Value.int 91 346, val := Value.str (Str.ofString "\\[") 350 }, { hash := 93, key := Value.int 93 352, val := Value.str (Str.ofString "\\]") 356 }, { hash := 123, key := Value.int 123 358, val := Value.str (Str.ofString "\\{") 362 }, { hash := 125, key := Value.int 125 364, val := Value.str (Str.ofString "\\}") 368 }, { hash := 63, key := Value.int 63 370, val := Value.str (Str.ofString "\\?") 374 }, { hash := 42, key := Value.int 42 376, val := Value.str (Str.ofString "\\*") 380 }, { hash := 43, key := Value.int 43 382, val := Value.str (Str.ofString "\\+") 386 }, { hash := 45, key := Value.int 45 388, val := Value.str (Str.ofString "\\-") 392 }, { hash := 124, key := Value.int 124 394, val := Value.str (Str.ofString "\\|") 398 }, { hash := 94, key := Value.int 94 400, val := Value.str (Str.ofString "\\^") 404 }, { hash := 36, key := Value.int 36 406, val := Value.str (Str.ofString "\\$") 410 }, { hash := 92, key := Value.int 92 412, val := Value.str (Str.ofString "\\\\") 416 }, { hash := 46, key := Value.int 46 418, val := Value.str (Str.ofString "\\.") 422 }, { hash := 38, key := Value.int 38 424, val := Value.str (Str.ofString "\\&") 428 }, { hash := 126, key := Value.int 126 430, val := Value.str (Str.ofString "\\~") 434 }, { hash := 35, key := Value.int 35 436, val := Value.str (Str.ofString "\\#") 440 }, { hash := 32, key := Value.int 32 442, val := Value.str (Str.ofString "\\ ") 446 }, { hash := 9, key := Value.int 9 448, val := Value.str (Str.ofString "\\\t") 452 }, { hash := 10, key := Value.int 10 454, val := Value.str (Str.ofString "\\\n") 458 }, { hash := 13, key := Value.int 13 460, val := Value.str (Str.ofString "\\\x0d") 464 }, { hash := 11, key := Value.int 11 466, val := Value.str (Str.ofString "\\\x0b") 470 }, { hash := 12, key := Value.int 12 472, val := Value.str (Str.ofString "\\\x0c") 476 }] 24 }
noncomputable def b46 (P : Params) : Obj := { cls := Value.type "dict", data := Data.dict #[] 2 }
noncomputable def b47 (P : Params) : Obj := { cls := Value.type "tuple", data := Data.seq #[] }
noncomputable def b48 (P : Params) : Obj := { cls := Value.type "StopIteration", data := Data.fields #[Value.ref 47, Value.none, Value.none, Value.none, Value.bool false, Value.none] }
/-- the heap at p4 -/
noncomputable def h4 (P : Params) : Heap := { objs := #[b0 P, b1 P, b2 P, b3_p4 P, b4 P, b5 P, b6 P, b7 P, b8 P, b9 P, b10 P, b11 P, b12 P, b13 P, b14 P, b15 P, b16 P, b17 P, b18 P, b19 P, b20 P, b21 P, b22 P, b23 P, b24 P, b25 P, b26 P, b27 P, b28 P, b29_p3 P, b30 P, b31 P, b32 P, b33 P, b34 P, b35 P, b36 P, b37 P, b38 P, b39 P, b40 P, b41 P, b42 P, b43 P, b44 P, b45 P, b46 P, b47 P, b48 P] }
noncomputable def b44_w2i0 (P : Params) : Obj := { cls := Value.type "bytes_iterator", data := Data.fields #[Value.bytes #[40, 41, 91, 93, 123, 125, 63, 42, 43, 45, 124, 94, 36, 92, 46, 38, 126, 35, 32, 9, 10, 13, 11, 12] 333, Value.int 0 0] }
noncomputable def b45_w2i0 (P : Params) : Obj := { cls := Value.type "dict", data := Data.dict #[] }
noncomputable def b46_w2i0 (P : Params) : Obj := { cls := Value.type "dict", data := Data.dict #[] }
/-- the heap at w2i0 -/
noncomputable def hI0 (P : Params) : Heap := { objs := #[b0 P, b1 P, b2 P, b3_p3 P, b4 P, b5 P, b6 P, b7 P, b8 P, b9 P, b10 P, b11 P, b12 P, b13 P, b14 P, b15 P, b16 P, b17 P, b18 P, b19 P, b20 P, b21 P, b22 P, b23 P, b24 P, b25 P, b26 P, b27 P, b28 P, b29_p3 P, b30 P, b31 P, b32 P, b33 P, b34 P, b35 P, b36 P, b37 P, b38 P, b39 P, b40 P, b41 P, b42 P, b43 P, b44_w2i0 P, b45_w2i0 P, b46_w2i0 P] }
noncomputable def b44_w2i4 (P : Params) : Obj := { cls := Value.type "bytes_iterator", data := Data.fields #[Value.bytes #[40, 41, 91, 93, 123, 125, 63, 42, 43, 45, 124, 94, 36, 92, 46, 38, 126, 35, 32, 9, 10, 13, 11, 12] 333, Value.int 4 0] }
noncomputable def b45_w2i4 (P : Params) : Obj := { cls := Value.type "dict", data := Data.dict #[{ hash := 40, key := Value.int 40 334, val := Value.str (Str.ofString "\\(") 338 }, { hash := 41, key := Value.int 41 340, val := Value.str (Str.ofString "\\)") 344 }, { hash := 91, key := Value.int 91 346, val := Value.str (Str.ofString "\\[") 350 }, { hash := 93, key := Value.int 93 352, val := Value.str (Str.ofString "\\]") 356 }] 4 }
noncomputable def b46_w2i4 (P : Params) : Obj := { cls := Value.type "dict", data := Data.dict #[{ hash := PyData.keyHash P (Str.ofString "i"), key := Value.str (Str.ofString "i") 335, val := Value.int 93 352 }] 1 }
/-- the heap at w2i4 -/
noncomputable def hI4 (P : Params) : Heap := { objs := #[b0 P, b1 P, b2 P, b3_p3 P, b4 P, b5 P, b6 P, b7 P, b8 P, b9 P, b10 P, b11 P, b12 P, b13 P, b14 P, b15 P, b16 P, b17 P, b18 P, b19 P, b20 P, b21 P, b22 P, b23 P, b24 P, b25 P, b26 P, b27 P, b28 P, b29_p3 P, b30 P, b31 P, b32 P, b33 P, b34 P, b35 P, b36 P, b37 P, b38 P, b39 P, b40 P, b41 P, b42 P, b43 P, b44_w2i4 P, b45_w2i4 P, b46_w2i4 P] }
noncomputable def b44_w2i8 (P : Params) : Obj := { cls := Value.type "bytes_iterator", data := Data.fields #[Value.bytes #[40, 41, 91, 93, 123, 125, 63, 42, 43, 45, 124, 94, 36, 92, 46, 38, 126, 35, 32, 9, 10, 13, 11, 12] 333, Value.int 8 0] }
noncomputable def b45_w2i8 (P : Params) : Obj := { cls := Value.type "dict", data := Data.dict #[{ hash := 40, key := Value.int 40 334, val := Value.str (Str.ofString "\\(") 338 }, { hash := 41, key := Value.int 41 340, val := Value.str (Str.ofString "\\)") 344 }, { hash := 91, key := Value.int 91 346, val := Value.str (Str.ofString "\\[") 350 }, { hash := 93, key := Value.int 93 352, val := Value.str (Str.ofString "\\]") 356 }, { hash := 123, key := Value.int 123 358, val := Value.str (Str.ofString "\\{") 362 }, { hash := 125, key := Value.int 125 364, val := Value.str (Str.ofString "\\}") 368 }, { hash := 63, key := Value.int 63 370, val := Value.str (Str.ofString "\\?") 374 }, { hash := 42, key := Value.int 42 376, val := Value.str (Str.ofString "\\*") 380 }] 8 }
noncomputable def b46_w2i8 (P : Params) : Obj := { cls := Value.type "dict", data := Data.dict #[{ hash := PyData.keyHash P (Str.ofString "i"), key := Value.str (Str.ofString "i") 335, val := Value.int 42 376 }] 1 }
/-- the heap at w2i8 -/
noncomputable def hI8 (P : Params) : Heap := { objs := #[b0 P, b1 P, b2 P, b3_p3 P, b4 P, b5 P, b6 P, b7 P, b8 P, b9 P, b10 P, b11 P, b12 P, b13 P, b14 P, b15 P, b16 P, b17 P, b18 P, b19 P, b20 P, b21 P, b22 P, b23 P, b24 P, b25 P, b26 P, b27 P, b28 P, b29_p3 P, b30 P, b31 P, b32 P, b33 P, b34 P, b35 P, b36 P, b37 P, b38 P, b39 P, b40 P, b41 P, b42 P, b43 P, b44_w2i8 P, b45_w2i8 P, b46_w2i8 P] }
noncomputable def b44_w2i12 (P : Params) : Obj := { cls := Value.type "bytes_iterator", data := Data.fields #[Value.bytes #[40, 41, 91, 93, 123, 125, 63, 42, 43, 45, 124, 94, 36, 92, 46, 38, 126, 35, 32, 9, 10, 13, 11, 12] 333, Value.int 12 0] }
noncomputable def b45_w2i12 (P : Params) : Obj := { cls := Value.type "dict", data := Data.dict #[{ hash := 40, key := Value.int 40 334, val := Value.str (Str.ofString "\\(") 338 }, { hash := 41, key := Value.int 41 340, val := Value.str (Str.ofString "\\)") 344 }, { hash := 91, key := Value.int 91 346, val := Value.str (Str.ofString "\\[") 350 }, { hash := 93, key := Value.int 93 352, val := Value.str (Str.ofString "\\]") 356 }, { hash := 123, key := Value.int 123 358, val := Value.str (Str.ofString "\\{") 362 }, { hash := 125, key := Value.int 125 364, val := Value.str (Str.ofString "\\}") 368 }, { hash := 63, key := Value.int 63 370, val := Value.str (Str.ofString "\\?") 374 }, { hash := 42, key := Value.int 42 376, val := Value.str (Str.ofString "\\*") 380 }, { hash := 43, key := Value.int 43 382, val := Value.str (Str.ofString "\\+") 386 }, { hash := 45, key := Value.int 45 388, val := Value.str (Str.ofString "\\-") 392 }, { hash := 124, key := Value.int 124 394, val := Value.str (Str.ofString "\\|") 398 }, { hash := 94, key := Value.int 94 400, val := Value.str (Str.ofString "\\^") 404 }] 12 }
noncomputable def b46_w2i12 (P : Params) : Obj := { cls := Value.type "dict", data := Data.dict #[{ hash := PyData.keyHash P (Str.ofString "i"), key := Value.str (Str.ofString "i") 335, val := Value.int 94 400 }] 1 }
/-- the heap at w2i12 -/
noncomputable def hI12 (P : Params) : Heap := { objs := #[b0 P, b1 P, b2 P, b3_p3 P, b4 P, b5 P, b6 P, b7 P, b8 P, b9 P, b10 P, b11 P, b12 P, b13 P, b14 P, b15 P, b16 P, b17 P, b18 P, b19 P, b20 P, b21 P, b22 P, b23 P, b24 P, b25 P, b26 P, b27 P, b28 P, b29_p3 P, b30 P, b31 P, b32 P, b33 P, b34 P, b35 P, b36 P, b37 P, b38 P, b39 P, b40 P, b41 P, b42 P, b43 P, b44_w2i12 P, b45_w2i12 P, b46_w2i12 P] }
noncomputable def b44_w2i16 (P : Params) : Obj := { cls := Value.type "bytes_iterator", data := Data.fields #[Value.bytes #[40, 41, 91, 93, 123, 125, 63, 42, 43, 45, 124, 94, 36, 92, 46, 38, 126, 35, 32, 9, 10, 13, 11, 12] 333, Value.int 16 0] }
noncomputable def b45_w2i16 (P : Params) : Obj := { cls := Value.type "dict", data := Data.dict #[{ hash := 40, key := Value.int 40 334, val := Value.str (Str.ofString "\\(") 338 }, { hash := 41, key := Value.int 41 340, val := Value.str (Str.ofString "\\)") 344 }, { hash := 91, key := Value.int 91 346, val := Value.str (Str.ofString "\\[") 350 }, { hash := 93, key := Value.int 93 352, val := Value.str (Str.ofString "\\]") 356 }, { hash := 123, key := Value.int 123 358, val := Value.str (Str.ofString "\\{") 362 }, { hash := 125, key := Value.int 125 364, val := Value.str (Str.ofString "\\}") 368 }, { hash := 63, key := Value.int 63 370, val := Value.str (Str.ofString "\\?") 374 }, { hash := 42, key := Value.int 42 376, val := Value.str (Str.ofString "\\*") 380 }, { hash := 43, key := Value.int 43 382, val := Value.str (Str.ofString "\\+") 386 }, { hash := 45, key := Value.int 45 388, val := Value.str (Str.ofString "\\-") 392 }, { hash := 124, key := Value.int 124 394, val := Value.str (Str.ofString "\\|") 398 }, { hash := 94, key := Value.int 94 400, val := Value.str (Str.ofString "\\^") 404 }, { hash := 36, key := Value.int 36 406, val := Value.str (Str.ofString "\\$") 410 }, { hash := 92, key := Value.int 92 412, val := Value.str (Str.ofString "\\\\") 416 }, { hash := 46, key := Value.int 46 418, val := Value.str (Str.ofString "\\.") 422 }, { hash := 38, key := Value.int 38 424, val := Value.str (Str.ofString "\\&") 428 }] 16 }
noncomputable def b46_w2i16 (P : Params) : Obj := { cls := Value.type "dict", data := Data.dict #[{ hash := PyData.keyHash P (Str.ofString "i"), key := Value.str (Str.ofString "i") 335, val := Value.int 38 424 }] 1 }
/-- the heap at w2i16 -/
noncomputable def hI16 (P : Params) : Heap := { objs := #[b0 P, b1 P, b2 P, b3_p3 P, b4 P, b5 P, b6 P, b7 P, b8 P, b9 P, b10 P, b11 P, b12 P, b13 P, b14 P, b15 P, b16 P, b17 P, b18 P, b19 P, b20 P, b21 P, b22 P, b23 P, b24 P, b25 P, b26 P, b27 P, b28 P, b29_p3 P, b30 P, b31 P, b32 P, b33 P, b34 P, b35 P, b36 P, b37 P, b38 P, b39 P, b40 P, b41 P, b42 P, b43 P, b44_w2i16 P, b45_w2i16 P, b46_w2i16 P] }
noncomputable def b44_w2i20 (P : Params) : Obj := { cls := Value.type "bytes_iterator", data := Data.fields #[Value.bytes #[40, 41, 91, 93, 123, 125, 63, 42, 43, 45, 124, 94, 36, 92, 46, 38, 126, 35, 32, 9, 10, 13, 11, 12] 333, Value.int 20 0] }
noncomputable def b45_w2i20 (P : Params) : Obj := { cls := Value.type "dict", data := Data.dict #[{ hash := 40, key := Value.int 40 334, val := Value.str (Str.ofString "\\(") 338 }, { hash := 41, key := Value.int 41 340, val := Value.str (Str.ofString "\\)") 344 }, { hash := 91, key := Value.int 91 346, val := Value.str (Str.ofString "\\[") 350 }, { hash := 93, key := Value.int 93 352, val := Value.str (Str.ofString "\\]") 356 }, { hash := 123, key := Value.int 123 358, val := Value.str (Str.ofString "\\{") 362 }, { hash := 125, key := Value.int 125 364, val := Value.str (Str.ofString "\\}") 368 }, { hash := 63, key := Value.int 63 370, val := Value.str (Str.ofString "\\?") 374 }, { hash := 42, key := Value.int 42 376, val := Value.str (Str.ofString "\\*") 380 }, { hash := 43, key := Value.int 43 382, val := Value.str (Str.ofString "\\+") 386 }, { hash := 45, key := Value.int 45 388, val := Value.str (Str.ofString "\\-") 392 }, { hash := 124, key := Value.int 124 394, val := Value.str (Str.ofString "\\|") 398 }, { hash := 94, key := Value.int 94 400, val := Value.str (Str.ofString "\\^") 404 }, { hash := 36, key := Value.int 36 406, val := Value.str (Str.ofString "\\$") 410 }, { hash := 92, key := Value.int 92 412, val := Value.str (Str.ofString "\\\\") 416 }, { hash := 46, key := Value.int 46 418, val := Value.str (Str.ofString "\\.") 422 }, { hash := 38, key := Value.int 38 424, val := Value.str (Str.ofString "\\&") 428 }, { hash := 126, key := Value.int 126 430, val := Value.str (Str.ofString "\\~") 434 }, { hash := 35, key := Value.int 35 436, val := Value.str (Str.ofString "\\#") 440 }, { hash := 32, key := Value.int 32 442, val := Value.str (Str.ofString "\\ ") 446 }, { hash := 9, key := Value.int 9 448, val := Value.str (Str.ofString "\\\t") 452 }] 20 }
noncomputable def b46_w2i20 (P : Params) : Obj := { cls := Value.type "dict", data := Data.dict #[{ hash := PyData.keyHash P (Str.ofString "i"), key := Value.str (Str.ofString "i") 335, val := Value.int 9 448 }] 1 }
/-- the heap at w2i20 -/
noncomputable def hI20 (P : Params) : Heap := { objs := #[b0 P, b1 P, b2 P, b3_p3 P, b4 P, b5 P, b6 P, b7 P, b8 P, b9 P, b10 P, b11 P, b12 P, b13 P, b14 P, b15 P, b16 P, b17 P, b18 P, b19 P, b20 P, b21 P, b22 P, b23 P, b24 P, b25 P, b26 P, b27 P, b28 P, b29_p3 P, b30 P, b31 P, b32 P, b33 P, b34 P, b35 P, b36 P, b37 P, b38 P, b39 P, b40 P, b41 P, b42 P, b43 P, b44_w2i20 P, b45_w2i20 P, b46_w2i20 P] }
noncomputable def b44_w2i24 (P : Params) : Obj := { cls := Value.type "bytes_iterator", data := Data.fields #[Value.bytes #[40, 41, 91, 93, 123, 125, 63, 42, 43, 45, 124, 94, 36, 92, 46, 38, 126, 35, 32, 9, 10, 13, 11, 12] 333, Value.int 24 0] }
noncomputable def b46_w2i24 (P : Params) : Obj := { cls := Value.type "dict", data := Data.dict #[{ hash := PyData.keyHash P (Str.ofString "i"), key := Value.str (Str.ofString "i") 335, val := Value.int 12 472 }] 1 }
/-- the heap at w2i24 -/
noncomputable def hI24 (P : Params) : Heap := { objs := #[b0 P, b1 P, b2 P, b3_p3 P, b4 P, b5 P, b6 P, b7 P, b8 P, b9 P, b10 P, b11 P, b12 P, b13 P, b14 P, b15 P, b16 P, b17 P, b18 P, b19 P, b20 P, b21 P, b22 P, b23 P, b24 P, b25 P, b26 P, b27 P, b28 P, b29_p3 P, b30 P, b31 P, b32 P, b33 P, b34 P, b35 P, b36 P, b37 P, b38 P, b39 P, b40 P, b41 P, b42 P, b43 P, b44_w2i24 P, b45 P, b46_w2i24 P] }
noncomputable abbrev pO : Program := rowO.prog
noncomputable abbrev annO : Option Value := some (.ref 6)
noncomputable abbrev bodyO : List Stmt := behindTheImports pO
noncomputable abbrev envO : Env := { scope := pO.main.scope, locals := mainNs, globals := mainNs, cells := [], code := .ref 30, frame := some 31 }
noncomputable abbrev cO : Code := .body bodyO envO
noncomputable abbrev qO : Pos := { line := 0, col := 0, endLine := 0, endCol := 0 }
noncomputable abbrev q3 : Pos := { line := 8, col := 0, endLine := 8, endCol := 8 }
noncomputable abbrev q4 : Pos := { line := 9, col := 0, endLine := 9, endCol := 18 }
noncomputable abbrev BO : List Frame := [topFrame qO]
noncomputable abbrev sh0 (w : World) (os : OsState) : Shared := ⟨h0 w.params, #[], {}, 276, os⟩
noncomputable abbrev sh1 (w : World) (os : OsState) : Shared := ⟨h1 w.params, #[], {}, 282, os⟩
noncomputable abbrev sh3 (w : World) (os : OsState) : Shared := ⟨h3 w.params, #[], {}, 333, os⟩
noncomputable abbrev sh4 (w : World) (os : OsState) : Shared := ⟨h4 w.params, #[], {}, 479, os⟩
theorem opened (w : World) : (fencedOpening treeTable pO w 3852).map (fun s => (s.heap, s.gens, s.drawn, s.toks)) = some (h0 w.params, #[], {}, 276) := by kernel_rfl
theorem a_pre (w : World) (os : OsState) : topGo treeTable pO w 28 annO 12 (sh0 w os) (topStub pO) = some (sh1 w os, ⟨denote treeTable cO, cO, qO, BO⟩) := by kernel_rfl
theorem a_block (w : World) (os : OsState) : segRun treeTable pO w 28 annO 1 1 (sh1 w os) (blockOf bodyO envO cO qO BO) = some (.next, sh1 w os, cO, qO) := by kernel_rfl
theorem a_A (w : World) (os : OsState) : segRun treeTable pO w 28 annO 1 131 (sh1 w os) (piecesOf (bodyO.take 4) envO cO qO BO) = some (.next, sh3 w os, cO, q3) := by kernel_rfl
abbrev goB (w : World) : Prop := ∀ os, segRun treeTable pO w 28 annO 1 1253 (sh3 w os) (piecesOf ((bodyO.drop 4).take 1) envO cO q3 BO) = some (.next, sh4 w os, cO, q4)
noncomputable def eL : PySem.Expr := match (bodyO.drop 4).head? with | some (.Assign _ e _) => e | _ => .Name (.ofString "x") qO
noncomputable def scopeL : Scope := match eL with | .DictComp _ _ _ sc _ => sc | _ => pO.main.scope
noncomputable abbrev envL : Env := { scope := scopeL, locals := 46, globals := mainNs, cells := [], code := .ref 30, frame := some 31 }
noncomputable abbrev cL : Code := .compLoop eL 0 (.ref 44) (.ref 45) envL
noncomputable abbrev thL (q : Pos) (F : Frame) : Thread := ⟨denote treeTable cL, cL, q, [F, topFrame qO]⟩
noncomputable abbrev th0 : Thread := piecesOf ((bodyO.drop 4).take 1) envO cO q3 BO
noncomputable def fr (n : Nat) (w : World) (os : OsState) : Frame := match segGo treeTable pO w 28 annO 1 n (sh3 w os) th0 with
  | some (_, t) => (match t.stack with | f :: _ => f | [] => topFrame qO)
  | none => topFrame qO
noncomputable def isRet : Frame → Bool
  | .ret .. => true
  | .gen .. => false
noncomputable abbrev pI0 : Pos := { line := 9, col := 48, endLine := 9, endCol := 85 }
noncomputable abbrev sI0 (w : World) (os : OsState) : Shared := ⟨hI0 w.params, #[], {}, 334, os⟩
noncomputable abbrev pI4 : Pos := { line := 9, col := 22, endLine := 9, endCol := 38 }
noncomputable abbrev sI4 (w : World) (os : OsState) : Shared := ⟨hI4 w.params, #[], {}, 358, os⟩
noncomputable abbrev pI8 : Pos := { line := 9, col := 22, endLine := 9, endCol := 38 }
noncomputable abbrev sI8 (w : World) (os : OsState) : Shared := ⟨hI8 w.params, #[], {}, 382, os⟩
noncomputable abbrev pI12 : Pos := { line := 9, col := 22, endLine := 9, endCol := 38 }
noncomputable abbrev sI12 (w : World) (os : OsState) : Shared := ⟨hI12 w.params, #[], {}, 406, os⟩
noncomputable abbrev pI16 : Pos := { line := 9, col := 22, endLine := 9, endCol := 38 }
noncomputable abbrev sI16 (w : World) (os : OsState) : Shared := ⟨hI16 w.params, #[], {}, 430, os⟩
noncomputable abbrev pI20 : Pos := { line := 9, col := 22, endLine := 9, endCol := 38 }
noncomputable abbrev sI20 (w : World) (os : OsState) : Shared := ⟨hI20 w.params, #[], {}, 454, os⟩
noncomputable abbrev pI24 : Pos := { line := 9, col := 22, endLine := 9, endCol := 38 }
noncomputable abbrev sI24 (w : World) (os : OsState) : Shared := ⟨hI24 w.params, #[], {}, 478, os⟩
abbrev goI0 (w : World) : Prop := ∀ (k : Result → Sem Fin) (h : Option Value) (g : Bool) (l : List Value) (cd : Code) (p : Pos) (kept : List Value) (os : OsState), segGo treeTable pO w 28 annO 1 200 (sI0 w os) (thL pI0 (.ret k h g l cd p kept)) = some (sI4 w os, thL pI4 (.ret k h g l cd p kept))
theorem it_0f (w : World) : goI0 (w.withFollow "special-get-raises" false) := fun k h g l cd p kept os => by kernel_rfl
theorem it_0t (w : World) : goI0 (w.withFollow "special-get-raises" true) := fun k h g l cd p kept os => by kernel_rfl
theorem it_0 (w : World) : goI0 w := byRow2 "special-get-raises" (P := goI0) it_0f it_0t w
abbrev goI4 (w : World) : Prop := ∀ (k : Result → Sem Fin) (h : Option Value) (g : Bool) (l : List Value) (cd : Code) (p : Pos) (kept : List Value) (os : OsState), segGo treeTable pO w 28 annO 1 200 (sI4 w os) (thL pI4 (.ret k h g l cd p kept)) = some (sI8 w os, thL pI8 (.ret k h g l cd p kept))
theorem it_4f (w : World) : goI4 (w.withFollow "special-get-raises" false) := fun k h g l cd p kept os => by kernel_rfl
theorem it_4t (w : World) : goI4 (w.withFollow "special-get-raises" true) := fun k h g l cd p kept os => by kernel_rfl
theorem it_4 (w : World) : goI4 w := byRow2 "special-get-raises" (P := goI4) it_4f it_4t w
abbrev goI8 (w : World) : Prop := ∀ (k : Result → Sem Fin) (h : Option Value) (g : Bool) (l : List Value) (cd : Code) (p : Pos) (kept : List Value) (os : OsState), segGo treeTable pO w 28 annO 1 200 (sI8 w os) (thL pI8 (.ret k h g l cd p kept)) = some (sI12 w os, thL pI12 (.ret k h g l cd p kept))
theorem it_8f (w : World) : goI8 (w.withFollow "special-get-raises" false) := fun k h g l cd p kept os => by kernel_rfl
theorem it_8t (w : World) : goI8 (w.withFollow "special-get-raises" true) := fun k h g l cd p kept os => by kernel_rfl
theorem it_8 (w : World) : goI8 w := byRow2 "special-get-raises" (P := goI8) it_8f it_8t w
abbrev goI12 (w : World) : Prop := ∀ (k : Result → Sem Fin) (h : Option Value) (g : Bool) (l : List Value) (cd : Code) (p : Pos) (kept : List Value) (os : OsState), segGo treeTable pO w 28 annO 1 200 (sI12 w os) (thL pI12 (.ret k h g l cd p kept)) = some (sI16 w os, thL pI16 (.ret k h g l cd p kept))
theorem it_12f (w : World) : goI12 (w.withFollow "special-get-raises" false) := fun k h g l cd p kept os => by kernel_rfl
theorem it_12t (w : World) : goI12 (w.withFollow "special-get-raises" true) := fun k h g l cd p kept os => by kernel_rfl
theorem it_12 (w : World) : goI12 w := byRow2 "special-get-raises" (P := goI12) it_12f it_12t w
abbrev goI16 (w : World) : Prop := ∀ (k : Result → Sem Fin) (h : Option Value) (g : Bool) (l : List Value) (cd : Code) (p : Pos) (kept : List Value) (os : OsState), segGo treeTable pO w 28 annO 1 200 (sI16 w os) (thL pI16 (.ret k h g l cd p kept)) = some (sI20 w os, thL pI20 (.ret k h g l cd p kept))
theorem it_16f (w : World) : goI16 (w.withFollow "special-get-raises" false) := fun k h g l cd p kept os => by kernel_rfl
theorem it_16t (w : World) : goI16 (w.withFollow "special-get-raises" true) := fun k h g l cd p kept os => by kernel_rfl
theorem it_16 (w : World) : goI16 w := byRow2 "special-get-raises" (P := goI16) it_16f it_16t w
abbrev goI20 (w : World) : Prop := ∀ (k : Result → Sem Fin) (h : Option Value) (g : Bool) (l : List Value) (cd : Code) (p : Pos) (kept : List Value) (os : OsState), segGo treeTable pO w 28 annO 1 200 (sI20 w os) (thL pI20 (.ret k h g l cd p kept)) = some (sI24 w os, thL pI24 (.ret k h g l cd p kept))
theorem it_20f (w : World) : goI20 (w.withFollow "special-get-raises" false) := fun k h g l cd p kept os => by kernel_rfl
theorem it_20t (w : World) : goI20 (w.withFollow "special-get-raises" true) := fun k h g l cd p kept os => by kernel_rfl
theorem it_20 (w : World) : goI20 w := byRow2 "special-get-raises" (P := goI20) it_20f it_20t w
abbrev goS (n : Nat) (w : World) : Prop := ∀ os, segGo treeTable pO w 28 annO 1 n (sh3 w os) th0 = some (sI0 w os, thL pI0 (fr n w os)) ∧ isRet (fr n w os) = true
abbrev goE (n m : Nat) (w : World) : Prop := ∀ os, segRun treeTable pO w 28 annO 1 m (sI24 w os) (thL pI24 (fr n w os)) = some (.next, sh4 w os, cO, q4)
theorem chain {n m : Nat} {w : World} (hs : goS n w) (he : goE n m w) (hn : n+(200+(200+(200+(200+(200+(200+(m))))))) = 1253) : goB w := fun os => by
  obtain ⟨h, hr⟩ := hs os
  have e := he os
  rw [← hn]
  cases hf : fr n w os with
  | gen => rw [hf] at hr; cases hr
  | ret k h' g l cd p kept =>
    rw [hf] at h e
    exact seg_go h (seg_go (it_0 ..) (seg_go (it_4 ..) (seg_go (it_8 ..) (seg_go (it_12 ..) (seg_go (it_16 ..) (seg_go (it_20 ..) e))))))
theorem s_ff (w : World) : goS 24 ((w.withFollow "special-get-raises" false).withFollow "comprehension-iter-twice" false) := fun os => ⟨by kernel_rfl, by kernel_rfl⟩
theorem e_ff (w : World) : goE 24 29 ((w.withFollow "special-get-raises" false).withFollow "comprehension-iter-twice" false) := fun os => by kernel_rfl
theorem b_ff (w : World) : goB ((w.withFollow "special-get-raises" false).withFollow "comprehension-iter-twice" false) := chain (s_ff w) (e_ff w) rfl
theorem s_ft (w : World) : goS 24 ((w.withFollow "special-get-raises" true).withFollow "comprehension-iter-twice" false) := fun os => ⟨by kernel_rfl, by kernel_rfl⟩
theorem e_ft (w : World) : goE 24 29 ((w.withFollow "special-get-raises" true).withFollow "comprehension-iter-twice" false) := fun os => by kernel_rfl
theorem b_ft (w : World) : goB ((w.withFollow "special-get-raises" true).withFollow "comprehension-iter-twice" false) := chain (s_ft w) (e_ft w) rfl
theorem s_tf (w : World) : goS 14 ((w.withFollow "special-get-raises" false).withFollow "comprehension-iter-twice" true) := fun os => ⟨by kernel_rfl, by kernel_rfl⟩
theorem e_tf (w : World) : goE 14 39 ((w.withFollow "special-get-raises" false).withFollow "comprehension-iter-twice" true) := fun os => by kernel_rfl
theorem b_tf (w : World) : goB ((w.withFollow "special-get-raises" false).withFollow "comprehension-iter-twice" true) := chain (s_tf w) (e_tf w) rfl
theorem s_tt (w : World) : goS 14 ((w.withFollow "special-get-raises" true).withFollow "comprehension-iter-twice" true) := fun os => ⟨by kernel_rfl, by kernel_rfl⟩
theorem e_tt (w : World) : goE 14 39 ((w.withFollow "special-get-raises" true).withFollow "comprehension-iter-twice" true) := fun os => by kernel_rfl
theorem b_tt (w : World) : goB ((w.withFollow "special-get-raises" true).withFollow "comprehension-iter-twice" true) := chain (s_tt w) (e_tt w) rfl
theorem a_B (w : World) : goB w :=
  byRow2 "comprehension-iter-twice" (P := goB) (byRow2 "special-get-raises" (P := fun w => goB (w.withFollow "comprehension-iter-twice" false)) b_ff b_ft) (byRow2 "special-get-raises" (P := fun w => goB (w.withFollow "comprehension-iter-twice" true)) b_tf b_tt) w
/-- what the looks of the top let through -/
noncomputable abbrev behind (p : Program) (s₀ s₁ : Shared) : Option Shared := match staticsOk (importedModules p.main.body) s₀.heap s₁.heap && namesBound p s₁.heap && gensDone s₁ && laidKept s₀.heap s₁.heap with
  | true => some s₁
  | false => none
theorem top_of {α : Type} {p : Program} {w : World} {m0 n0 n1 nA nB nC N K : Nat} {ann : Option Value} {s0 s1 s2 s3 s4 : Shared} {body : List Stmt} {env : Env} {q qp q2 q3 q4 : Pos} {F : Shared → α} {R : α}
    (size : (s0.heap.isNs mainGlobals && s0.gens.size == 0, s0.heap.objs.size, s0.heap.nsMap mainGlobals "__annotations__") = (true, m0, ann))
    (pre : topGo treeTable p w m0 ann n0 s0 (topStub p) = some (s1, ⟨denote treeTable (.body body env), .body body env, qp, [topFrame q]⟩))
    (block : segRun treeTable p w m0 ann 1 n1 s1 (blockOf body env (.body body env) qp [topFrame q]) = some (.next, s2, .body body env, q2))
    (hA : segRun treeTable p w m0 ann 1 nA s2 (piecesOf (body.take 4) env (.body body env) q2 [topFrame q]) = some (.next, s3, .body body env, q3))
    (hB : segRun treeTable p w m0 ann 1 nB s3 (piecesOf ((body.drop 4).take 1) env (.body body env) q3 [topFrame q]) = some (.next, s4, .body body env, q4))
    (hC : ((topRun treeTable p w m0 ann nC s4 (restOf (body.drop 5) env (.body body env) q4 [topFrame q])).bind (behind p s0)).map F = some R)
    (hN : n0 + (n1 + (nA + (nB + nC))) + K = N) : (topFrom treeTable p w N s0).map F = some R := by
  obtain ⟨r, hr, hl⟩ := Option.map_eq_some_iff.mp hC
  obtain ⟨r1, hr1, hb⟩ := Option.bind_eq_some_iff.mp hr
  obtain ⟨z1, z2⟩ := Prod.mk.inj size
  obtain ⟨z2, z3⟩ := Prod.mk.inj z2
  have k1 := piece_app (rest := body.drop 5) hB hr1
  have e1 : (body.drop 4).take 1 ++ body.drop 5 = body.drop 4 := by
    rw [show body.drop 5 = (body.drop 4).drop 1 by rw [List.drop_drop]]
    exact List.take_append_drop 1 (body.drop 4)
  rw [e1] at k1
  have k2 := piece_app (rest := body.drop 4) hA k1
  rw [List.take_append_drop] at k2
  have k4 := topRun_mono K _ _ _ _ (go_top pre (piece_block block k2))
  rw [hN] at k4
  have k6 : topFrom treeTable p w N s0 = some r := by
    unfold topFrom
    rw [z1, z2, z3, k4]
    exact hb
  rw [k6]
  exact congrArg some hl
theorem left_of {p q : Program} {loose : List Str} {Xt : Shared → Bool} {α : Type} {Yf : Shared → α} {Ya : World → α} {N : Nat} {H₀ : Params → Heap} {gs₀ : Array GenState} {d₀ : Drawn} {k₀ : Nat}
    (op : ∀ w : World, (fencedOpening treeTable p w N).map (fun s => (s.heap, s.gens, s.drawn, s.toks)) = some (H₀ w.params, gs₀, d₀, k₀))
    (top : ∀ (w : World) (os : OsState), (topFrom treeTable p w N ⟨H₀ w.params, gs₀, d₀, k₀, os⟩).map (fun s => (openSeen q loose (importedModules p.main.body) Xt true s, Yf s)) = some (openGood q loose, Ya w)) : LeftO p q loose Xt Yf Ya N := by
  intro w
  have hw := op w
  unfold openEnds
  cases hx : fencedOpening treeTable p w N with
  | none => rw [hx] at hw; cases hw
  | some s =>
    rw [hx, Option.map_some] at hw
    have hs : s = ⟨H₀ w.params, gs₀, d₀, k₀, s.os⟩ := by
      cases s
      simp only [Option.some.injEq, Prod.mk.injEq] at hw
      simp only [hw]
    rw [Option.bind_some, hs]
    exact top w s.os
theorem a_C (w : World) (os : OsState) : ((topRun treeTable pO w 28 annO 483 (sh4 w os) (restOf (bodyO.drop 5) envO cO q4 BO)).bind (behind pO (sh0 w os))).map (fun s => (openSeen view loose2 (importedModules pO.main.body) Xt2 true s, hook.obs s)) = some (openGood view loose2, hook.val w) := by kernel_rfl
theorem a_size (w : World) (os : OsState) : ((sh0 w os).heap.isNs mainGlobals && (sh0 w os).gens.size == 0, (sh0 w os).heap.objs.size, (sh0 w os).heap.nsMap mainGlobals "__annotations__") = (true, 28, annO) := by kernel_rfl
theorem left : LeftO rowO.prog view loose2 Xt2 hook.obs hook.val 3852 :=
  left_of (H₀ := h0) (gs₀ := #[]) (d₀ := {}) (k₀ := 276) opened fun w os => top_of (K := 1972) (a_size w os) (a_pre w os) (a_block w os) (a_A w os) (a_B w os) (a_C w os) rfl
end Mine.Hd
end

section
set_option maxHeartbeats 400000
namespace Mine
theorem last_one : PySem.Challenge.rw_in0244_01.Holds := walked fun h1 h2 h3 call => head Hd.left h1 h2 h3 call
end Mine
end
theorem PySem.Challenge.cw_in0244_01_holds : PySem.Challenge.rw_in0244_01.Holds := by
  exact Mine.last_one
