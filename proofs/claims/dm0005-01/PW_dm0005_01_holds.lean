import PyProof.Rows.All
import Wide.All
import OpenK.AllK
import Wide.FinOn
import PySem.Challenge.RW_dm0005_01
open PySem PySem.W PyProof.Rows
set_option Elab.async false
set_option maxRecDepth 100000
set_option maxHeartbeats 8000000
namespace Mine
/-- one sign's pad -/
def padc (c : Nat) : Nat := if c = 9 ∨ c = 12 then c else 32
/-- a text's pad -/
def pad (s : PySem.Str) : PySem.Str := ⟨(s.cps.toList.map padc).toArray⟩
theorem pad_length (s : PySem.Str) : (pad s).length = s.length := by simp [pad, PySem.Str.length]
theorem pad_append (a b : PySem.Str) : pad (a ++ b) = pad a ++ pad b := by
  refine PySem.Str.ext' (Array.toList_inj.mp ?_)
  rw [PySem.Str.cps_append, Array.toList_append]
  simp [pad, PySem.Str.cps_append]
theorem pad_one (n : Nat) : pad ⟨#[n]⟩ = ⟨#[padc n]⟩ := rfl
theorem ff_tab : PySem.Str.ofString "\x0c\t" = ⟨#[12, 9]⟩ := by decide +kernel
theorem blank : PySem.Str.ofString " " = ⟨#[32]⟩ := by decide +kernel
theorem occ_ff_tab (n : Nat) : (Builtin.Str.occurrences (PySem.Str.ofString "\x0c\t") ⟨#[n]⟩ 0 (PySem.Str.ofString "\x0c\t").length 1).isEmpty = !decide (n = 9 ∨ n = 12) := by
  have h := StrLaws.found_one (PySem.Str.ofString "\x0c\t") n
  rw [← Bool.not_not (b := List.isEmpty _), h, ff_tab]
  simp [or_comm]
theorem pad_start : (PySem.Str.ofString "") = pad (KStt.txt []) ∧ (PySem.Str.ofString "").length = ([] : List Int).length := by
  constructor <;> decide +kernel
theorem pad_keep {pre : List Int} {n : Nat} {r : PySem.Str} (h1 : r = pad (KStt.txt pre)) (h2 : r.length = pre.length)
    (ho : (Builtin.Str.occurrences (PySem.Str.ofString "\x0c\t") ⟨#[n]⟩ 0 (PySem.Str.ofString "\x0c\t").length 1).isEmpty = false) :
    r ++ (⟨#[n]⟩ : PySem.Str) = pad (KStt.txt (pre ++ [(n : Int)])) ∧ (r ++ (⟨#[n]⟩ : PySem.Str)).length = (pre ++ [(n : Int)]).length := by
  rw [occ_ff_tab] at ho
  have hp : n = 9 ∨ n = 12 := of_decide_eq_true (by simpa only [Bool.not_eq_false'] using ho)
  constructor
  · rw [KStt.txt_snoc, pad_append, pad_one, h1, padc, if_pos hp]
  · rw [PySem.Str.length_append, h2]; simp [PySem.Str.length]
theorem pad_blank {pre : List Int} {n : Nat} {r : PySem.Str} (h1 : r = pad (KStt.txt pre)) (h2 : r.length = pre.length)
    (ho : (Builtin.Str.occurrences (PySem.Str.ofString "\x0c\t") ⟨#[n]⟩ 0 (PySem.Str.ofString "\x0c\t").length 1).isEmpty = true) :
    r ++ (PySem.Str.ofString " ") = pad (KStt.txt (pre ++ [(n : Int)])) ∧ (r ++ (PySem.Str.ofString " ")).length = (pre ++ [(n : Int)]).length := by
  rw [occ_ff_tab] at ho
  have hp : ¬ (n = 9 ∨ n = 12) := of_decide_eq_false (by simpa only [Bool.not_eq_true'] using ho)
  constructor
  · rw [KStt.txt_snoc, pad_append, pad_one, h1, padc, if_neg hp, blank]
  · rw [PySem.Str.length_append, h2, blank]; simp [PySem.Str.length]
theorem pad_done {src r : PySem.Str} (h : r = pad (KStt.txt (KStt.codes src))) : r = pad src := by
  rw [h, KStt.txt_codes]
/-- a def's contract: from any frame, where asks holds, the call gives back R, and makes nothing that is kept -/
abbrev Cs (prog : Program) (w : World) (K : Frag) (p : Program) (loose : List PySem.Str) (mean : ExcName → Option Value) (mg mb : PySem.Str → Option Value) (f : Addr) (n : Nat) (news : List (Addr × Obj)) (asks : Prop) (vs : List Value) (R : Tok → Value) : Prop :=
  ∀ (dp un : Nat) (gd : Option (List Code)) (cn : PySem.Str) (cs : Scope) (a : Addr) (ccd : Value) (cl : List (PySem.Str × Addr)) (outer : List Env) (A₀ : Around) (base h₀ : Heap) (L : Addr) (m : PySem.Str → Option Value) (s : Shared) (Q E : Value → Shared → Prop),
    Below A₀ base outer h₀ → Fr h₀ L s.heap m → K.In h₀ → News h₀ L s.heap news → Top p loose mean mg mb h₀ → cs.kind = .function →
    asks → dp + n < recursionLimit → un + 8 * n < cLine →
    (∀ (t : Tok) (h' : Heap) (tk' : Nat), Fr h₀ L h' m → News h₀ L h' news → Q (R t) { s with heap := h', toks := tk' }) →
      wpAny (model prog w) (ktrTop dp un gd cn cs L a ccd cl outer) (call (.ref f) vs) Q E s
/-- the same for a call that gives back something new -/
abbrev Ct (prog : Program) (w : World) (K : Frag) (p : Program) (loose : List PySem.Str) (mean : ExcName → Option Value) (mg mb : PySem.Str → Option Value) (f : Addr) (n : Nat) (news : List (Addr × Obj)) (asks : Prop) (vs : List Value) (Post : List (Addr × Obj) → Value → Prop) : Prop :=
  ∀ (dp un : Nat) (gd : Option (List Code)) (cn : PySem.Str) (cs : Scope) (a : Addr) (ccd : Value) (cl : List (PySem.Str × Addr)) (outer : List Env) (A₀ : Around) (base h₀ : Heap) (L : Addr) (m : PySem.Str → Option Value) (s : Shared) (Q E : Value → Shared → Prop),
    Below A₀ base outer h₀ → Fr h₀ L s.heap m → K.In h₀ → News h₀ L s.heap news → Top p loose mean mg mb h₀ → cs.kind = .function →
    asks → dp + n < recursionLimit → un + 8 * n < cLine →
    (∀ (r : Value) (tl : List (Addr × Obj)) (h' : Heap) (tk' : Nat), Fr h₀ L h' m → News h₀ L h' (tl ++ news) → (∀ p ∈ tl, ∀ q ∈ news, q.1 < p.1) → Post tl r → Q r { s with heap := h', toks := tk' }) →
      wpAny (model prog w) (ktrTop dp un gd cn cs L a ccd cl outer) (call (.ref f) vs) Q E s
section
variable {prog : Program} {w : World} {K : Frag} {p : Program} {loose : List PySem.Str} {mean : ExcName → Option Value} {mg mb : PySem.Str → Option Value} {f : Addr} {n : Nat} {news : List (Addr × Obj)} {asks : Prop} {vs : List Value} {R : Tok → Value} {Post : List (Addr × Obj) → Value → Prop}
  {dp un : Nat} {gd : Option (List Code)} {cn : PySem.Str} {cs : Scope} {a : Addr} {ccd : Value} {cl : List (PySem.Str × Addr)} {outer : List Env} {A₀ : Around} {base h₀ : Heap} {L : Addr} {m : PySem.Str → Option Value} {s : Shared} {Q E : Value → Shared → Prop}
theorem cs_use (C : Cs prog w K p loose mean mg mb f n news asks vs R) (B : Below A₀ base outer h₀) (F : Fr h₀ L s.heap m) (X : K.In h₀) (N : News h₀ L s.heap news) (T : Top p loose mean mg mb h₀) (hk : cs.kind = .function) (ha : asks) (hd : dp + n < recursionLimit) (hu : un + 8 * n < cLine)
    (ret : ∀ (t : Tok) (h' : Heap) (tk' : Nat), Fr h₀ L h' m → News h₀ L h' news → Q (R t) { s with heap := h', toks := tk' }) :
    wpAny (model prog w) (ktrTop dp un gd cn cs L a ccd cl outer) (call (.ref f) vs) Q E s := C _ _ _ _ _ _ _ _ _ _ _ _ _ _ _ _ _ B F X N T hk ha hd hu ret
theorem ct_use (C : Ct prog w K p loose mean mg mb f n news asks vs Post) (B : Below A₀ base outer h₀) (F : Fr h₀ L s.heap m) (X : K.In h₀) (N : News h₀ L s.heap news) (T : Top p loose mean mg mb h₀) (hk : cs.kind = .function) (ha : asks) (hd : dp + n < recursionLimit) (hu : un + 8 * n < cLine)
    (ret : ∀ (r : Value) (tl : List (Addr × Obj)) (h' : Heap) (tk' : Nat), Fr h₀ L h' m → News h₀ L h' (tl ++ news) → (∀ p ∈ tl, ∀ q ∈ news, q.1 < p.1) → Post tl r → Q r { s with heap := h', toks := tk' }) :
    wpAny (model prog w) (ktrTop dp un gd cn cs L a ccd cl outer) (call (.ref f) vs) Q E s := C _ _ _ _ _ _ _ _ _ _ _ _ _ _ _ _ _ B F X N T hk ha hd hu ret
end
theorem ct_ret {h₀ h' : Heap} {L : Addr} {m : PySem.Str → Option Value} {news news' : List (Addr × Obj)} {s : Shared} {Q : Value → Shared → Prop} {tk' : Nat} {Post : List (Addr × Obj) → Value → Prop} {r : Value} {D : Addr} {o : Obj}
    (hret : ∀ (r : Value) (tl : List (Addr × Obj)) (h' : Heap) (tk' : Nat), Fr h₀ L h' m → News h₀ L h' (tl ++ news) → (∀ p ∈ tl, ∀ q ∈ news, q.1 < p.1) → Post tl r → Q r { s with heap := h', toks := tk' })
    (F : Fr h₀ L h' m) (N : News h₀ L h' news') (hm : (D, o) ∈ news') (hs : ∀ p ∈ news, p ∈ news') (hl : AllLt D news) (hp : Post [(D, o)] r) : Q r { s with heap := h', toks := tk' } := by
  refine hret r [(D, o)] h' tk' F (fun p hp => ?_) (fun p hp q hq => ?_) hp
  · rcases List.mem_cons.mp hp with rfl | hp
    · exact N _ hm
    · exact N p (hs p hp)
  · rw [List.mem_singleton.mp hp]
    exact kst_ltOf hl q hq
/-- the code of _law_sign -/
def signC (k : Int) : Int :=
  let c := k.fmod 1114110
  let c := if c > 8 then c + 1 else c
  if c > 11 then c + 1 else c
def signOf (k : Int) : PySem.Str := ⟨#[(signC k).toNat]⟩
theorem signC_facts (k : Int) : 0 ≤ signC k ∧ signC k < 1114112 ∧ signC k ≠ 9 ∧ signC k ≠ 12 := by
  have h1 := Int.fmod_nonneg_of_pos k (b := 1114110) (by decide)
  have h2 := Int.fmod_lt_of_pos k (b := 1114110) (by decide)
  unfold signC
  dsimp only
  (repeat' split) <;> omega
theorem sign_is {k c : Int} (h : c = signC k) : (⟨#[c.toNat]⟩ : PySem.Str) = signOf k := by rw [h, signOf]
theorem padc_sign (k : Int) : padc (signC k).toNat = 32 := by
  have h := signC_facts k
  unfold padc
  rw [if_neg (by omega)]
theorem pad_sign (k : Int) : pad (signOf k) = ⟨#[32]⟩ := by rw [signOf, pad_one, padc_sign]
theorem sign_length (k : Int) : (signOf k).length = 1 := rfl
/-- what _law_piece gives back -/
structure PieceOk (piece : PySem.Str) (kept : Bool) : Prop where
  len : piece.length ≤ 3
  yes : kept = true → pad piece = piece
  no : kept = false → pad piece = Txt.mul (PySem.Str.ofString " ") (piece.length : Int)
def okB (piece : PySem.Str) (kept : Bool) : Bool := decide (piece.length ≤ 3) && (if kept then decide (pad piece = piece) else decide (pad piece = Txt.mul (PySem.Str.ofString " ") (piece.length : Int)))
theorem PieceOk.of {piece : PySem.Str} {kept : Bool} (h : okB piece kept = true) : PieceOk piece kept := by
  unfold okB at h
  rw [Bool.and_eq_true] at h
  cases kept with
  | true => exact ⟨of_decide_eq_true h.1, fun _ => of_decide_eq_true h.2, fun e => nomatch e⟩
  | false => exact ⟨of_decide_eq_true h.1, (fun e => nomatch e), fun _ => of_decide_eq_true h.2⟩
theorem three_facts (k : Int) : k.fmod 3 = 0 ∨ k.fmod 3 = 1 ∨ k.fmod 3 = 2 := by
  have h1 := Int.fmod_nonneg_of_pos k (b := 3) (by decide)
  have h2 := Int.fmod_lt_of_pos k (b := 3) (by decide)
  omega
theorem ok_tab (k : Int) : PieceOk (Txt.mul (PySem.Str.ofString "\t") (1 + k.fmod 3)) true := by
  rcases three_facts k with h | h | h <;> rw [h] <;> exact .of (by decide +kernel)
theorem ok_ff (k : Int) : PieceOk (Txt.mul (PySem.Str.ofString "\x0c") (1 + k.fmod 3)) true := by
  rcases three_facts k with h | h | h <;> rw [h] <;> exact .of (by decide +kernel)
theorem ok_blank (k : Int) : PieceOk (Txt.mul (PySem.Str.ofString " ") (1 + k.fmod 3 - 1)) false := by
  rcases three_facts k with h | h | h <;> rw [h] <;> exact .of (by decide +kernel)
theorem ok_sign (k : Int) : PieceOk (signOf k) false :=
  ⟨by rw [sign_length]; decide, (fun e => nomatch e), fun _ => by rw [pad_sign, sign_length]; decide +kernel⟩
theorem ok_all {L : List PySem.Str} {b : Bool} (h : L.all (okB · b) = true) {j : Nat} (hj : j < L.length) : PieceOk (L.getD j PySem.Str.empty) b := by
  rw [List.getD_eq_getElem?_getD, List.getElem?_eq_getElem hj]
  exact .of (List.all_eq_true.mp h _ (List.getElem_mem hj))
open_top hd01 for PySem.Challenge.rw_dm0005_01
theorem pad_claim (w : World) (mean : ExcName → Option Value) (mg mb : PySem.Str → Option Value) (news : List (Addr × Obj)) (src : PySem.Str) (tk : Tok) :
    Cs Challenge.rw_dm0005_01.prog w (hd01.heap_39 w.params) hd01.view_39 (looseW hd01.view_39 []) mean mg mb 21 1 news (src.length ≤ 1048576) [.str src tk] (fun t => .str (pad src) t) := by
  k_fill
  dsimp only [Cs]; intros; rename_i hlen _ _ hret
  k_with_none
  k_with "pyIter str" => k_state (fun (pre : List Int) r => r = pad (KStt.txt pre) ∧ r.length = pre.length) "result"
  k_with "state" => first | exact pad_start | exact pad_keep (by assumption) (by assumption) (by assumption) | exact pad_blank (by assumption) (by assumption) (by assumption)
  refine wpAny_call ?_
  k_dflt cell_enter
  k_steps

  exact cb_retS hret (pad_done (by assumption)) (by k_asm) (by k_asm)
theorem sign_claim (w : World) (mean : ExcName → Option Value) (mg mb : PySem.Str → Option Value) (news : List (Addr × Obj)) (k : Int) (tk : Tok) :
    Cs Challenge.rw_dm0005_01.prog w (hd01.heap_39 w.params) hd01.view_39 (looseW hd01.view_39 []) mean mg mb 28 1 news True [.int k tk] (fun t => .str (signOf k) t) := by
  k_fill
  dsimp only [Cs]; intros; rename_i hret
  k_with_none
  refine wpAny_call ?_
  k_dflt cell_enter
  k_steps
  all_goals exact cb_retS hret (sign_is (by unfold signC; dsimp only; (repeat' split) <;> omega)) (by k_asm) (by k_asm)
local macro_rules | `(tactic| walk_at "MINE call") => `(tactic| (
  (case k1 => first | k_asm | ktn_no "MINE: the frames below");
  (case k2 => first | k_asm | ktn_no "MINE: the frame");
  (case k3 => first | k_asm | ktn_no "MINE: the written part");
  (case k4 => first | k_asm | ktn_no "MINE: the ledger");
  (case k5 => first | k_asm | ktn_no "MINE: the top's facts");
  (case kK => first | exact rfl | assumption | ktn_no "MINE: the caller is no def");
  (case kp => first | trivial | ((try dsimp only); first | assumption | omega | l_fact | size_fits) | ktn_no "MINE: what the claim asks");
  (case kd => first | ktr_room | ktn_no "MINE: the frames' room");
  (case ku => first | ktr_units | ktn_no "MINE: the C units")))
local macro_rules | `(tactic| walk_at "call ref") => `(tactic| (
  k_here; (with_reducible show wpAny _ _ (call (Value.ref 28) [Value.int _ _]) _ _ _);
  (k_dflt (refine' cs_use (sign_claim _ _ _ _ _ _ _) ?k1 ?k2 ?k3 ?k4 ?k5 ?kK ?kp ?kd ?ku ?_)); walk_at "MINE call"; k_whole; intro t9 h9 tk9 F9 N9; (try dsimp only); (try k_fold)))
theorem piece_claim (w : World) (mean : ExcName → Option Value) (mg mb : PySem.Str → Option Value) (news : List (Addr × Obj)) (k : Int) (tk : Tok) :
    Ct Challenge.rw_dm0005_01.prog w (hd01.heap_39 w.params) hd01.view_39 (looseW hd01.view_39 []) mean mg mb 35 2 news True [.int k tk] (fun tl r => ∃ D piece kept t c, r = .ref D ∧ PieceOk piece kept ∧ tl = [(D, ({ cls := .type "tuple", data := .seq #[.str piece t, .bool kept] c } : Obj))]) := by
  k_fill
  dsimp only [Ct]; intros; rename_i hret
  k_with_none
  k_with "table" => skip
  refine wpAny_call ?_
  k_dflt cell_enter
  k_steps
  · exact ct_ret hret (by k_asm) (by k_asm) (List.Mem.head _) (fun p hp => .tail _ (.tail _ hp)) (And.right (by assumption)) ⟨_, _, _, _, _, rfl, ok_tab _, rfl⟩
  · exact ct_ret hret (by k_asm) (by k_asm) (List.Mem.head _) (fun p hp => .tail _ (.tail _ hp)) (And.right (by assumption)) ⟨_, _, _, _, _, rfl, ok_ff _, rfl⟩
  · exact ct_ret hret (by k_asm) (by k_asm) (List.Mem.head _) (fun p hp => .tail _ (.tail _ (.tail _ hp))) (And.right (And.right (by assumption))) ⟨_, _, _, _, _, rfl, ok_all (by decide +kernel) (by assumption), rfl⟩
  · exact ct_ret hret (by k_asm) (by k_asm) (List.Mem.head _) (fun p hp => .tail _ (.tail _ hp)) (And.right (by assumption)) ⟨_, _, _, _, _, rfl, ok_blank _, rfl⟩
  · exact ct_ret hret (by k_asm) (by k_asm) (List.Mem.head _) (fun p hp => .tail _ (.tail _ hp)) (And.right (by assumption)) ⟨_, _, _, _, _, rfl, ok_all (by decide +kernel) (by assumption), rfl⟩
  · exact ct_ret hret (by k_asm) (by k_asm) (List.Mem.head _) (fun p hp => .tail _ (.tail _ hp)) (And.right (by assumption)) ⟨_, _, _, _, _, rfl, ok_sign _, rfl⟩
local macro_rules | `(tactic| walk_at "MINE call") => `(tactic| (
  (case k1 => first | k_asm | ktn_no "MINE: the frames below");
  (case k2 => first | k_asm | ktn_no "MINE: the frame");
  (case k3 => first | k_asm | ktn_no "MINE: the written part");
  (case k4 => first | k_asm | ktn_no "MINE: the ledger");
  (case k5 => first | k_asm | ktn_no "MINE: the top's facts");
  (case kK => first | exact rfl | assumption | ktn_no "MINE: the caller is no def");
  (case kp => first | trivial | ((try dsimp only); first | assumption | omega | l_fact | size_fits) | ktn_no "MINE: what the claim asks");
  (case kd => first | ktr_room | ktn_no "MINE: the frames' room");
  (case ku => first | ktr_units | ktn_no "MINE: the C units")))
local macro_rules | `(tactic| walk_at "call ref") => `(tactic| (
  k_here; (with_reducible show wpAny _ _ (call (Value.ref 21) [Value.str _ _]) _ _ _);
  (k_dflt (refine' cs_use (pad_claim _ _ _ _ _ _ _) ?k1 ?k2 ?k3 ?k4 ?k5 ?kK ?kp ?kd ?ku ?_; walk_at "MINE call")); k_whole; intro t9 h9 tk9 F9 N9; (try dsimp only); (try rw [(by assumption : pad _ = _)]); (try k_fold)))
local macro_rules | `(tactic| walk_at "call ref") => `(tactic| (
  k_here; (with_reducible show wpAny _ _ (call (Value.ref 35) [Value.int _ _]) _ _ _);
  (k_dflt (refine' ct_use (piece_claim _ _ _ _ _ _ _) ?k1 ?k2 ?k3 ?k4 ?k5 ?kK ?kp ?kd ?ku ?_; walk_at "MINE call")); k_whole; intro r9 tl9 h9 tk9 F9 N9 l9 P9; (obtain ⟨D9, piece9, kept9, t9, c9, e9, ok9, e8⟩ := P9); (subst e9 e8); (have l1 := l9 _ (List.mem_singleton.mpr rfl)); (clear l9); (simp only [List.cons_append, List.nil_append] at N9); (have len9 := PieceOk.len ok9);
  ((cases kept9); rotate_left 1); all_goals ((first | have pad9 := PieceOk.yes ok9 rfl | have pad9 := PieceOk.no ok9 rfl); (clear ok9); (try k_lt l1); (try dsimp only); (try k_fold))))
theorem turn_start : PySem.Str.ofString "   \t  \x0c" = pad (PySem.Str.ofString "f\\t\tx\x0b\x0c") ∧ (PySem.Str.ofString "f\\t\tx\x0b\x0c").length ≤ 7 + 3 * ([] : List Int).length ∧ (PySem.Str.ofString "   \t  \x0c").length = (PySem.Str.ofString "f\\t\tx\x0b\x0c").length := by decide +kernel
theorem turn_end {text due piece blank : PySem.Str} {pre : List Int} {x : Int} (h1 : due = pad text) (h2 : text.length ≤ 7 + 3 * pre.length) (h3 : due.length = text.length) (hl : piece.length ≤ 3) (hp : pad piece = blank) :
    due ++ blank = pad (text ++ piece) ∧ (text ++ piece).length ≤ 7 + 3 * (pre ++ [x]).length ∧ (due ++ blank).length = (text ++ piece).length := by
  subst hp
  refine ⟨by rw [pad_append, h1], ?_, ?_⟩
  · rw [PySem.Str.length_append, List.length_append, List.length_singleton]; omega
  · rw [PySem.Str.length_append, PySem.Str.length_append, h3, pad_length]
theorem t01 : PySem.Challenge.rw_dm0005_01.Holds := by
  k_with_none
  k_with "pyIter ref" => k_state (fun (pre : List Int) text due => due = pad text ∧ text.length ≤ 7 + 3 * pre.length ∧ due.length = text.length) "text" "due"
  k_with "state" => first | exact turn_start | exact turn_end (by assumption) (by assumption) (by assumption) (by assumption) (by assumption) | exact turn_end (by assumption) (by assumption) (by assumption) (by assumption) rfl
  refine hd01 ?_
  k_go0; (all_goals try k_fold)
  k_steps
end Mine
theorem PySem.Challenge.cw_dm0005_01_holds : PySem.Challenge.rw_dm0005_01.Holds :=
  Mine.t01
