import PyProof.Rows.All
import Wide.All
import OpenK.AllK
import Wide.FinOn
import PySem.Challenge.RW_dm0005_02
open PySem PySem.W PyProof.Rows
set_option Elab.async false
set_option maxRecDepth 100000
set_option maxHeartbeats 8000000
namespace Mine
/-- one sign's pad -/
def padc (c : Nat) : Nat := if c = 9 ∨ c = 12 then c else 32
/-- a text's pad -/
def pad (s : PySem.Str) : PySem.Str := ⟨(s.cps.toList.map padc).toArray⟩
theorem pad_length (s : PySem.Str) : (pad s).length = s.length := by simp [pad, PySem.Str.length]
theorem pad_append (a b : PySem.Str) : pad (a ++ b) = pad a ++ pad b := by
  refine PySem.Str.ext' (Array.toList_inj.mp ?_)
  rw [PySem.Str.cps_append, Array.toList_append]
  simp [pad, PySem.Str.cps_append]
theorem pad_one (n : Nat) : pad ⟨#[n]⟩ = ⟨#[padc n]⟩ := rfl
theorem ff_tab : PySem.Str.ofString "\x0c\t" = ⟨#[12, 9]⟩ := by decide +kernel
theorem blank : PySem.Str.ofString " " = ⟨#[32]⟩ := by decide +kernel
theorem occ_ff_tab (n : Nat) : (Builtin.Str.occurrences (PySem.Str.ofString "\x0c\t") ⟨#[n]⟩ 0 (PySem.Str.ofString "\x0c\t").length 1).isEmpty = !decide (n = 9 ∨ n = 12) := by
  have h := StrLaws.found_one (PySem.Str.ofString "\x0c\t") n
  rw [← Bool.not_not (b := List.isEmpty _), h, ff_tab]
  simp [or_comm]
theorem pad_start : (PySem.Str.ofString "") = pad (KStt.txt []) ∧ (PySem.Str.ofString "").length = ([] : List Int).length := by
  constructor <;> decide +kernel
theorem pad_keep {pre : List Int} {n : Nat} {r : PySem.Str} (h1 : r = pad (KStt.txt pre)) (h2 : r.length = pre.length)
    (ho : (Builtin.Str.occurrences (PySem.Str.ofString "\x0c\t") ⟨#[n]⟩ 0 (PySem.Str.ofString "\x0c\t").length 1).isEmpty = false) :
    r ++ (⟨#[n]⟩ : PySem.Str) = pad (KStt.txt (pre ++ [(n : Int)])) ∧ (r ++ (⟨#[n]⟩ : PySem.Str)).length = (pre ++ [(n : Int)]).length := by
  rw [occ_ff_tab] at ho
  have hp : n = 9 ∨ n = 12 := of_decide_eq_true (by simpa only [Bool.not_eq_false'] using ho)
  constructor
  · rw [KStt.txt_snoc, pad_append, pad_one, h1, padc, if_pos hp]
  · rw [PySem.Str.length_append, h2]; simp [PySem.Str.length]
theorem pad_blank {pre : List Int} {n : Nat} {r : PySem.Str} (h1 : r = pad (KStt.txt pre)) (h2 : r.length = pre.length)
    (ho : (Builtin.Str.occurrences (PySem.Str.ofString "\x0c\t") ⟨#[n]⟩ 0 (PySem.Str.ofString "\x0c\t").length 1).isEmpty = true) :
    r ++ (PySem.Str.ofString " ") = pad (KStt.txt (pre ++ [(n : Int)])) ∧ (r ++ (PySem.Str.ofString " ")).length = (pre ++ [(n : Int)]).length := by
  rw [occ_ff_tab] at ho
  have hp : ¬ (n = 9 ∨ n = 12) := of_decide_eq_false (by simpa only [Bool.not_eq_true'] using ho)
  constructor
  · rw [KStt.txt_snoc, pad_append, pad_one, h1, padc, if_neg hp, blank]
  · rw [PySem.Str.length_append, h2, blank]; simp [PySem.Str.length]
theorem pad_done {src r : PySem.Str} (h : r = pad (KStt.txt (KStt.codes src))) : r = pad src := by
  rw [h, KStt.txt_codes]
/-- a def's contract: from any frame, where asks holds, the call gives back R, and makes nothing that is kept -/
abbrev Cs (prog : Program) (w : World) (K : Frag) (p : Program) (loose : List PySem.Str) (mean : ExcName → Option Value) (mg mb : PySem.Str → Option Value) (f : Addr) (n : Nat) (news : List (Addr × Obj)) (asks : Prop) (vs : List Value) (R : Tok → Value) : Prop :=
  ∀ (dp un : Nat) (gd : Option (List Code)) (cn : PySem.Str) (cs : Scope) (a : Addr) (ccd : Value) (cl : List (PySem.Str × Addr)) (outer : List Env) (A₀ : Around) (base h₀ : Heap) (L : Addr) (m : PySem.Str → Option Value) (s : Shared) (Q E : Value → Shared → Prop),
    Below A₀ base outer h₀ → Fr h₀ L s.heap m → K.In h₀ → News h₀ L s.heap news → Top p loose mean mg mb h₀ → cs.kind = .function →
    asks → dp + n < recursionLimit → un + 8 * n < cLine →
    (∀ (t : Tok) (h' : Heap) (tk' : Nat), Fr h₀ L h' m → News h₀ L h' news → Q (R t) { s with heap := h', toks := tk' }) →
      wpAny (model prog w) (ktrTop dp un gd cn cs L a ccd cl outer) (call (.ref f) vs) Q E s
/-- the same for a call that gives back something new -/
abbrev Ct (prog : Program) (w : World) (K : Frag) (p : Program) (loose : List PySem.Str) (mean : ExcName → Option Value) (mg mb : PySem.Str → Option Value) (f : Addr) (n : Nat) (news : List (Addr × Obj)) (asks : Prop) (vs : List Value) (Post : List (Addr × Obj) → Value → Prop) : Prop :=
  ∀ (dp un : Nat) (gd : Option (List Code)) (cn : PySem.Str) (cs : Scope) (a : Addr) (ccd : Value) (cl : List (PySem.Str × Addr)) (outer : List Env) (A₀ : Around) (base h₀ : Heap) (L : Addr) (m : PySem.Str → Option Value) (s : Shared) (Q E : Value → Shared → Prop),
    Below A₀ base outer h₀ → Fr h₀ L s.heap m → K.In h₀ → News h₀ L s.heap news → Top p loose mean mg mb h₀ → cs.kind = .function →
    asks → dp + n < recursionLimit → un + 8 * n < cLine →
    (∀ (r : Value) (tl : List (Addr × Obj)) (h' : Heap) (tk' : Nat), Fr h₀ L h' m → News h₀ L h' (tl ++ news) → (∀ p ∈ tl, ∀ q ∈ news, q.1 < p.1) → Post tl r → Q r { s with heap := h', toks := tk' }) →
      wpAny (model prog w) (ktrTop dp un gd cn cs L a ccd cl outer) (call (.ref f) vs) Q E s
section
variable {prog : Program} {w : World} {K : Frag} {p : Program} {loose : List PySem.Str} {mean : ExcName → Option Value} {mg mb : PySem.Str → Option Value} {f : Addr} {n : Nat} {news : List (Addr × Obj)} {asks : Prop} {vs : List Value} {R : Tok → Value} {Post : List (Addr × Obj) → Value → Prop}
  {dp un : Nat} {gd : Option (List Code)} {cn : PySem.Str} {cs : Scope} {a : Addr} {ccd : Value} {cl : List (PySem.Str × Addr)} {outer : List Env} {A₀ : Around} {base h₀ : Heap} {L : Addr} {m : PySem.Str → Option Value} {s : Shared} {Q E : Value → Shared → Prop}
theorem cs_use (C : Cs prog w K p loose mean mg mb f n news asks vs R) (B : Below A₀ base outer h₀) (F : Fr h₀ L s.heap m) (X : K.In h₀) (N : News h₀ L s.heap news) (T : Top p loose mean mg mb h₀) (hk : cs.kind = .function) (ha : asks) (hd : dp + n < recursionLimit) (hu : un + 8 * n < cLine)
    (ret : ∀ (t : Tok) (h' : Heap) (tk' : Nat), Fr h₀ L h' m → News h₀ L h' news → Q (R t) { s with heap := h', toks := tk' }) :
    wpAny (model prog w) (ktrTop dp un gd cn cs L a ccd cl outer) (call (.ref f) vs) Q E s := C _ _ _ _ _ _ _ _ _ _ _ _ _ _ _ _ _ B F X N T hk ha hd hu ret
theorem ct_use (C : Ct prog w K p loose mean mg mb f n news asks vs Post) (B : Below A₀ base outer h₀) (F : Fr h₀ L s.heap m) (X : K.In h₀) (N : News h₀ L s.heap news) (T : Top p loose mean mg mb h₀) (hk : cs.kind = .function) (ha : asks) (hd : dp + n < recursionLimit) (hu : un + 8 * n < cLine)
    (ret : ∀ (r : Value) (tl : List (Addr × Obj)) (h' : Heap) (tk' : Nat), Fr h₀ L h' m → News h₀ L h' (tl ++ news) → (∀ p ∈ tl, ∀ q ∈ news, q.1 < p.1) → Post tl r → Q r { s with heap := h', toks := tk' }) :
    wpAny (model prog w) (ktrTop dp un gd cn cs L a ccd cl outer) (call (.ref f) vs) Q E s := C _ _ _ _ _ _ _ _ _ _ _ _ _ _ _ _ _ B F X N T hk ha hd hu ret
end
theorem ct_ret {h₀ h' : Heap} {L : Addr} {m : PySem.Str → Option Value} {news news' : List (Addr × Obj)} {s : Shared} {Q : Value → Shared → Prop} {tk' : Nat} {Post : List (Addr × Obj) → Value → Prop} {r : Value} {D : Addr} {o : Obj}
    (hret : ∀ (r : Value) (tl : List (Addr × Obj)) (h' : Heap) (tk' : Nat), Fr h₀ L h' m → News h₀ L h' (tl ++ news) → (∀ p ∈ tl, ∀ q ∈ news, q.1 < p.1) → Post tl r → Q r { s with heap := h', toks := tk' })
    (F : Fr h₀ L h' m) (N : News h₀ L h' news') (hm : (D, o) ∈ news') (hs : ∀ p ∈ news, p ∈ news') (hl : AllLt D news) (hp : Post [(D, o)] r) : Q r { s with heap := h', toks := tk' } := by
  refine hret r [(D, o)] h' tk' F (fun p hp => ?_) (fun p hp q hq => ?_) hp
  · rcases List.mem_cons.mp hp with rfl | hp
    · exact N _ hm
    · exact N p (hs p hp)
  · rw [List.mem_singleton.mp hp]
    exact kst_ltOf hl q hq
/-- one sign's step of the column's reader -/
def colStep (size col : Int) (c : Int) : Int := if c = 9 then col + (size - col.fmod size) else if c = 12 then 0 else col + 1
def colsF (size : Int) (l : List Int) : Int × List Int := l.foldl (fun p x => (colStep size p.1 x, p.2 ++ [colStep size p.1 x])) (0, [])
theorem colsF_snoc (size : Int) (l : List Int) (x : Int) : colsF size (l ++ [x]) = (colStep size (colsF size l).1 x, (colsF size l).2 ++ [colStep size (colsF size l).1 x]) := by
  simp [colsF, List.foldl_append]
theorem tab_is : PySem.Str.ofString "\t" = ⟨#[9]⟩ := by decide +kernel
theorem ff_is : PySem.Str.ofString "\x0c" = ⟨#[12]⟩ := by decide +kernel
theorem one_inj {a b : Nat} : ((⟨#[a]⟩ : PySem.Str) = ⟨#[b]⟩) ↔ a = b := by simp
theorem one_eq {a b : Nat} : ((⟨#[a]⟩ : PySem.Str) == ⟨#[b]⟩) = decide (a = b) := by
  rw [Bool.eq_iff_iff, beq_iff_eq, one_inj, decide_eq_true_eq]
theorem col_start (size : Int) : (0 : Int) = (colsF size []).1 ∧ ([] : List Int) = (colsF size []).2 ∧ ([] : List Int).length = ([] : List Int).length := ⟨rfl, rfl, rfl⟩
theorem col_turn {size col : Int} {cols pre : List Int} {n : Nat} {d : Int} (h1 : col = (colsF size pre).1) (h2 : cols = (colsF size pre).2) (h3 : cols.length = pre.length) (hd : d = colStep size col (n : Int)) :
    d = (colsF size (pre ++ [(n : Int)])).1 ∧ cols ++ [d] = (colsF size (pre ++ [(n : Int)])).2 ∧ (cols ++ [d]).length = (pre ++ [(n : Int)]).length := by
  rw [colsF_snoc]
  subst hd
  refine ⟨by rw [h1], by rw [h2, h1], ?_⟩
  rw [List.length_append, List.length_append, h3]; rfl
theorem step_tab {size col : Int} {n : Nat} (h : ((⟨#[n]⟩ : PySem.Str) == PySem.Str.ofString "\t") = true) : col + (size - col.fmod size) = colStep size col (n : Int) := by
  rw [tab_is, one_eq] at h
  have h := of_decide_eq_true h
  subst h
  rfl
theorem step_ff {size col : Int} {n : Nat} (h : ((⟨#[n]⟩ : PySem.Str) == PySem.Str.ofString "\x0c") = true) : (0 : Int) = colStep size col (n : Int) := by
  rw [ff_is, one_eq] at h
  have h := of_decide_eq_true h
  subst h
  rfl
theorem step_else {size col : Int} {n : Nat} (h : ((⟨#[n]⟩ : PySem.Str) == PySem.Str.ofString "\t") = false) (h' : ((⟨#[n]⟩ : PySem.Str) == PySem.Str.ofString "\x0c") = false) : col + 1 = colStep size col (n : Int) := by
  rw [tab_is, one_eq] at h
  rw [ff_is, one_eq] at h'
  have h := of_decide_eq_false h
  have h' := of_decide_eq_false h'
  unfold colStep
  rw [if_neg (by omega), if_neg (by omega)]
theorem col_done {vs : List Value} {cols X : List Int} (h : IntsAre vs cols) (e : cols = X) : IntsAre vs X := e ▸ h
theorem codes_append (a b : PySem.Str) : KStt.codes (a ++ b) = KStt.codes a ++ KStt.codes b := by
  simp [KStt.codes, PySem.Str.cps_append]
theorem codes_pad (a : PySem.Str) : KStt.codes (pad a) = (KStt.codes a).map fun c => ((padc c.toNat : Nat) : Int) := by
  simp [KStt.codes, pad]
theorem colStep_pad (size col : Int) (c : Nat) : colStep size col ((padc c : Nat) : Int) = colStep size col (c : Int) := by
  unfold padc colStep
  split
  · rfl
  · rw [if_neg (by omega), if_neg (by omega), if_neg (by omega), if_neg (by omega)]
theorem fold_pad (size : Int) (x : PySem.Str) (p : Int × List Int) : (KStt.codes (pad x)).foldl (fun p x => (colStep size p.1 x, p.2 ++ [colStep size p.1 x])) p = (KStt.codes x).foldl (fun p x => (colStep size p.1 x, p.2 ++ [colStep size p.1 x])) p := by
  unfold KStt.codes pad
  generalize x.cps.toList = l
  simp only
  induction l generalizing p with
  | nil => rfl
  | cons c r ih => simp only [List.map_cons, List.foldl_cons, colStep_pad]; exact ih _
theorem colsF_pad (size : Int) (x : PySem.Str) : colsF size (KStt.codes (pad x)) = colsF size (KStt.codes x) := fold_pad size x _
theorem colsF_pad_append (size : Int) (x y : PySem.Str) : colsF size (KStt.codes (pad x ++ y)) = colsF size (KStt.codes (x ++ y)) := by
  rw [codes_append, codes_append]
  unfold colsF
  rw [List.foldl_append, List.foldl_append, fold_pad]
theorem set_is : PySem.Str.ofString " \t\x0c" = ⟨#[32, 9, 12]⟩ := by decide +kernel
theorem padc_in (c : Nat) : (PySem.Str.ofString " \t\x0c").cps.contains (padc c) = true := by
  rw [set_is]
  unfold padc
  split
  · rename_i h; rcases h with h | h <;> subst h <;> decide +kernel
  · decide +kernel
theorem tw_all {goes : Nat → Bool} : ∀ {l : List Nat}, (∀ c ∈ l, goes c = true) → l.takeWhile goes = l
  | [], _ => rfl
  | c :: r, h => by
    rw [List.takeWhile_cons, if_pos (h c (.head _)), tw_all fun d hd => h d (.tail _ hd)]
theorem strip_pad (x : PySem.Str) : Txt.stripChars (pad x) (PySem.Str.ofString " \t\x0c") = PySem.Str.ofString "" := by
  have hall : ∀ c ∈ (pad x).cps.toList, (PySem.Str.ofString " \t\x0c").cps.contains c = true := by
    intro c hc
    have hc : c ∈ x.cps.toList.map padc := hc
    obtain ⟨d, _, rfl⟩ := List.mem_map.mp hc
    exact padc_in d
  have hlo : stripLo (PySem.Str.ofString " \t\x0c").cps.contains true (pad x) = (pad x).length := by
    unfold stripLo
    rw [if_pos rfl, tw_all hall]
    simp [PySem.Str.length]
  have hhi : stripHi (PySem.Str.ofString " \t\x0c").cps.contains true (pad x) (pad x).length = (pad x).length := by
    unfold stripHi
    rw [if_pos rfl, List.drop_of_length_le (by simp [PySem.Str.length])]
    rfl
  unfold Txt.stripChars Txt.stripBy
  unfold PySem.stripSame PySem.stripped
  rw [hlo, hhi]
  split
  · rename_i h
    have h0 : (pad x).length = 0 := by simpa using h
    have e : (pad x).cps = #[] := Array.eq_empty_of_size_eq_zero h0
    exact PySem.Str.ext' (e.trans (by decide +kernel))
  · refine PySem.Str.ext' ?_
    show (pad x).cps.extract _ _ = _
    rw [Array.extract_empty_of_stop_le_start (Nat.le_refl _)]
    decide +kernel
theorem slice_text (x : PySem.Str) (l u : Option Int) : Txt.slice x l u = StrLaws.sliceText x l u := rfl
theorem slice_to {x : PySem.Str} {j : Int} (h0 : 0 ≤ j) (h1 : j ≤ x.length) : Txt.slice x none (some j) = ⟨(x.cps.toList.take j.toNat).toArray⟩ := by
  rw [slice_text, StrLaws.sliceText_to ⟨h0, by simpa [PySem.Str.length] using h1⟩, List.drop_zero, Int.sub_zero]
theorem slice_from {x : PySem.Str} {j : Int} (h0 : 0 ≤ j) (h1 : j ≤ x.length) : Txt.slice x (some j) none = ⟨(x.cps.toList.drop j.toNat).toArray⟩ := by
  rw [slice_text, StrLaws.sliceText_from ⟨h0, by simpa [PySem.Str.length] using h1⟩, List.take_of_length_le]
  rw [List.length_drop]
  omega
theorem slice_join {x : PySem.Str} {j : Int} (h0 : 0 ≤ j) (h1 : j ≤ x.length) : Txt.slice x none (some j) ++ Txt.slice x (some j) none = x := by
  rw [slice_to h0 h1, slice_from h0 h1]
  refine PySem.Str.ext' (Array.toList_inj.mp ?_)
  rw [PySem.Str.cps_append, Array.toList_append, List.take_append_drop]
theorem cut_facts (s : Int) (n : Nat) : 0 ≤ s.fmod ((n : Int) + 1) ∧ s.fmod ((n : Int) + 1) ≤ (n : Int) := by
  have h1 := Int.fmod_nonneg_of_pos s (b := (n : Int) + 1) (by omega)
  have h2 := Int.fmod_lt_of_pos s (b := (n : Int) + 1) (by omega)
  omega
theorem colsF_cut (size s : Int) (T : PySem.Str) : colsF size (KStt.codes (pad (Txt.slice T none (some (s.fmod ((T.length : Int) + 1)))) ++ Txt.slice T (some (s.fmod ((T.length : Int) + 1))) none)) = colsF size (KStt.codes T) := by
  have h := cut_facts s T.length
  rw [colsF_pad_append, slice_join h.1 h.2]
theorem cut_len (s : Int) (T : PySem.Str) : (pad (Txt.slice T none (some (s.fmod ((T.length : Int) + 1)))) ++ Txt.slice T (some (s.fmod ((T.length : Int) + 1))) none).length = T.length := by
  have h := cut_facts s T.length
  rw [PySem.Str.length_append, pad_length, ← PySem.Str.length_append, slice_join h.1 h.2]
open_top hd02 for PySem.Challenge.rw_dm0005_02
theorem pad_claim (w : World) (mean : ExcName → Option Value) (mg mb : PySem.Str → Option Value) (news : List (Addr × Obj)) (src : PySem.Str) (tk : Tok) :
    Cs Challenge.rw_dm0005_02.prog w (hd02.heap_39 w.params) hd02.view_39 (looseW hd02.view_39 []) mean mg mb 21 1 news (src.length ≤ 1048576) [.str src tk] (fun t => .str (pad src) t) := by
  w_top off
  k_fill
  dsimp only [Cs]; intros; rename_i hlen _ _ hret
  k_with_none
  k_with "pyIter str" => k_state (fun (pre : List Int) r => r = pad (KStt.txt pre) ∧ r.length = pre.length) "result"
  k_with "state" => first | exact pad_start | exact pad_keep (by assumption) (by assumption) (by assumption) | exact pad_blank (by assumption) (by assumption) (by assumption)
  refine wpAny_call ?_
  k_dflt cell_enter
  k_steps
  exact cb_retS hret (pad_done (by assumption)) (by k_asm) (by k_asm)
local macro_rules | `(tactic| walk_at "MINE enter") => `(tactic| (
  (case kA => exact rfl); (case kF => exact rfl); (case kK => assumption); (case k1 => k_asm); (case k2 => k_asm); (case k3 => k_asm); (case k4 => k_asm); (case k5 => k_asm); (case k6 => k_is); (case k7 => k_is); (case k8 => ktr_room); (case k9 => exact BindsTo.of_eq rfl); (case c5 => decide); (case kB => exact locs rfl); (case c2 => exact rfl); (case c3 => exact rfl); (case c4 => exact rfl); k_whole; intro g' L' h' FG' F' N' B' X' T'; (try dsimp only); (try k_lift B'); (try k_fold)))
local macro_rules | `(tactic| kst_facts1) => `(tactic| exact IntsAre.nil)
theorem col_claim (w : World) (mean : ExcName → Option Value) (mg mb : PySem.Str → Option Value) (news : List (Addr × Obj)) (src : PySem.Str) (size : Int) (tk tk2 : Tok) :
    Ct Challenge.rw_dm0005_02.prog w (hd02.heap_39 w.params) hd02.view_39 (looseW hd02.view_39 []) mean mg mb 28 1 news (src.length ≤ 1048576 ∧ 0 < size) [.str src tk, .int size tk2] (fun tl r => ∃ D vs c, r = .ref D ∧ IntsAre vs (colsF size (KStt.codes src)).2 ∧ (colsF size (KStt.codes src)).2.length = src.length ∧ tl = [(D, W.listOf vs.toArray c)]) := by
  w_top off
  k_fill
  dsimp only [Ct]; intros; rename_i hasks _ _ hret
  obtain ⟨hlen, hsz⟩ := hasks
  k_with_none
  k_with "pyIter str" => k_state (fun (pre : List Int) col cols => col = (colsF size pre).1 ∧ cols = (colsF size pre).2 ∧ cols.length = pre.length) "column" "columns"
  k_with "state" => first | exact col_start _ | exact col_turn (by assumption) (by assumption) (by assumption) (step_tab (by assumption)) | exact col_turn (by assumption) (by assumption) (by assumption) (step_ff (by assumption)) | exact col_turn (by assumption) (by assumption) (by assumption) (step_else (by assumption) (by assumption))
  refine wpAny_call ?_
  k_dflt (refine' code_def (binds := [(PySem.Str.ofString "text", .str src tk), (PySem.Str.ofString "size", .int size tk2)]) ?k1 ?k2 ?k3 ?k4 ?k5 ?kA ?kF ?kK ?k6 ?k7 ?k8 ?k9 ?kB ?_ ?c2 ?c3 ?c4 ?c5; walk_at "MINE enter")
  k_steps
  exact ct_ret hret (by k_asm) (by k_asm) (List.Mem.head _) (fun p hp => .tail _ hp) (allLt_of (by assumption)) ⟨_, _, _, rfl, col_done (by assumption) (by assumption), (congrArg List.length (Eq.symm (by assumption))).trans (by assumption), rfl⟩
def sgn2 (x : Int) : PySem.Str :=
  if x.fmod 5 < 3 then Txt.item (PySem.Str.ofString "\t\x0c ") (x.fmod 5)
  else if x.fmod 5 = 3 then Txt.item (PySem.Str.ofString "ft\\\n\x0d\x0b\x1f\u0085\u00a0\u3000") ((x.fdiv 5).fmod 10)
  else ⟨#[((x.fdiv 5).fmod 1114112).toNat]⟩
local macro_rules | `(tactic| walk_at "MINE enter") => `(tactic| (
  (case kA => exact rfl); (case kF => exact rfl); (case kK => assumption); (case k1 => k_asm); (case k2 => k_asm); (case k3 => k_asm); (case k4 => k_asm); (case k5 => k_asm); (case k6 => k_is); (case k7 => k_is); (case k8 => ktr_room); (case k9 => exact BindsTo.of_eq rfl); (case c5 => decide); (case kB => exact locs rfl); (case c2 => exact rfl); (case c3 => exact rfl); (case c4 => exact rfl); k_whole; intro g' L' h' FG' F' N' B' X' T'; (try dsimp only); (try k_lift B'); (try k_fold)))
theorem sign_claim (w : World) (mean : ExcName → Option Value) (mg mb : PySem.Str → Option Value) (news : List (Addr × Obj)) (k : Int) (tk : Tok) :
    Cs Challenge.rw_dm0005_02.prog w (hd02.heap_39 w.params) hd02.view_39 (looseW hd02.view_39 []) mean mg mb 35 1 news True [.int k tk] (fun t => .str (sgn2 k) t) := by
  w_top off
  k_fill
  dsimp only [Cs]; intros; rename_i hret
  k_with_none
  k_with "table" => skip
  refine wpAny_call ?_
  k_dflt (refine' code_def (binds := [(PySem.Str.ofString "x", .int k tk)]) ?k1 ?k2 ?k3 ?k4 ?k5 ?kA ?kF ?kK ?k6 ?k7 ?k8 ?k9 ?kB ?_ ?c2 ?c3 ?c4 ?c5; walk_at "MINE enter")
  k_steps
  · exact cb_retS hret (by unfold sgn2; rw [if_pos (by assumption)]) (by k_asm) (by k_asm)
  · exact cb_retS hret (by unfold sgn2; rw [if_neg (by assumption), if_pos (by assumption)]) (by k_asm) (by k_asm)
  · exact cb_retS hret (by unfold sgn2; rw [if_neg (by assumption), if_neg (by assumption)]) (by k_asm) (by k_asm)
local macro_rules | `(tactic| walk_at "MINE call") => `(tactic| (
  (case k1 => first | k_asm | ktn_no "MINE: the frames below");
  (case k2 => first | k_asm | ktn_no "MINE: the frame");
  (case k3 => first | k_asm | ktn_no "MINE: the written part");
  (case k4 => first | k_asm | ktn_no "MINE: the ledger");
  (case k5 => first | k_asm | ktn_no "MINE: the top's facts");
  (case kK => first | exact rfl | assumption | ktn_no "MINE: the caller is no def");
  (case kp => first | trivial | ((try dsimp only); first | assumption | omega | l_fact | size_fits) | ktn_no "MINE: what the claim asks");
  (case kd => first | ktr_room | ktn_no "MINE: the frames' room");
  (case ku => first | ktr_units | ktn_no "MINE: the C units")))
local macro_rules | `(tactic| walk_at "call ref") => `(tactic| (
  k_here; (with_reducible show wpAny _ _ (call (Value.ref 21) [Value.str _ _]) _ _ _);
  (k_dflt (refine' cs_use (pad_claim _ _ _ _ _ _ _) ?k1 ?k2 ?k3 ?k4 ?k5 ?kK ?kp ?kd ?ku ?_; walk_at "MINE call")); k_whole; intro t9 h9 tk9 F9 N9; (try dsimp only); (try k_fold)))
local macro_rules | `(tactic| walk_at "call ref") => `(tactic| (
  k_here; (with_reducible show wpAny _ _ (call (Value.ref 35) [Value.int _ _]) _ _ _);
  (k_dflt (refine' cs_use (sign_claim _ _ _ _ _ _ _) ?k1 ?k2 ?k3 ?k4 ?k5 ?kK ?kp ?kd ?ku ?_; walk_at "MINE call")); k_whole; intro t9 h9 tk9 F9 N9; (try dsimp only); (try k_fold)))
theorem sgn2_len (x : Int) : (sgn2 x).length = 1 := by
  unfold sgn2
  (repeat' split) <;> rfl
theorem join2 {prog : Program} {w : World} {A : Around} {E : Value → Shared → Prop} {s : Shared} {D : Addr} {ys : List Value} {l : List Int} {t : Tok} {Q : Value → Shared → Prop} (hl : s.heap.IsList D ys.toArray) (hc : CarriedAll ys (l.map fun a => PyData.str (sgn2 a))) (hn : l.length ≤ 1048576)
    (h : ∀ J t' k, PySem.Str.length J = l.length → Q (.str J t') { s with toks := k }) :
    wpAny (model prog w) A (call (.builtin "str.join") [.str (PySem.Str.ofString "") t, .ref D]) Q E s :=
  KT.join_1 hl hc (fun a _ => sgn2_len a) hn fun t' k e => h _ t' k e
local macro_rules | `(tactic| walk_at "call builtin:str.join") => `(tactic| (
  k_here; (with_reducible show wpAny _ _ (call (Value.builtin "str.join") [Value.str _ _, Value.ref _]) _ _ _); (with_reducible rename CarriedAll _ (List.map _ _) => ktC);
  (refine join2 (by first | assumption | is_list | exact News.isList (by k_asm) (by k_mem)) ktC (by first | omega | kt_fact) ?_); intro J t9 k9 eJ; (try clear ktC)))
theorem add2 {prog : Program} {w : World} {A : Around} {E : Value → Shared → Prop} {s : Shared} {J : PySem.Str} {t u : Tok} {n : Nat} {Q : Value → Shared → Prop} (hJ : J.length = n) (hn : n ≤ 63) (h : ∀ T t' tk, PySem.Str.length T = 5 + n → Q (.str T t') { s with toks := tk }) :
    wpAny (model prog w) A (binaryOp .Add (.str (PySem.Str.ofString "a\tb\x0cc") t) (.str J u)) Q E s := by
  have e : (PySem.Str.ofString "a\tb\x0cc").length = 5 := by decide +kernel
  refine PyProof.Rows.add_str (fun t' tk => h _ t' tk ?_) ?_
  · rw [PySem.Str.length_append, e, hJ]
  · rw [e, hJ, sizeLine_eq]; omega
local macro_rules | `(tactic| walk_at "binaryOp Add str str") => `(tactic| (
  k_here; (with_reducible show wpAny _ _ (binaryOp Operator.Add (Value.str (PySem.Str.ofString "a\tb\x0cc") _) (Value.str _ _)) _ _ _);
  (k_dflt (refine add2 (by assumption) (by omega) ?_)); intro T t9 k9 eT; (try dsimp only); (try k_fold)))
theorem addCut {prog : Program} {w : World} {A : Around} {E : Value → Shared → Prop} {s : Shared} {T : PySem.Str} {c : Int} {t u : Tok} {Q : Value → Shared → Prop} (hn : T.length ≤ 1048576) (h : ∀ t' tk, Q (.str (pad (Txt.slice T none (some (c.fmod ((T.length : Int) + 1)))) ++ Txt.slice T (some (c.fmod ((T.length : Int) + 1))) none) t') { s with toks := tk }) :
    wpAny (model prog w) A (binaryOp .Add (.str (pad (Txt.slice T none (some (c.fmod ((T.length : Int) + 1))))) t) (.str (Txt.slice T (some (c.fmod ((T.length : Int) + 1))) none) u)) Q E s := by
  refine PyProof.Rows.add_str (fun t' tk => h t' tk) ?_
  rw [← PySem.Str.length_append, cut_len, sizeLine_eq]; omega
local macro_rules | `(tactic| walk_at "binaryOp Add str str") => `(tactic| (
  k_here; (with_reducible show wpAny _ _ (binaryOp Operator.Add (Value.str (pad _) _) (Value.str (Txt.slice _ _ _) _)) _ _ _);
  (k_dflt (refine addCut (by omega) ?_)); intro t9 k9; (try dsimp only); (try k_fold)))
local macro_rules | `(tactic| walk_at "call builtin:str.strip") => `(tactic| (
  k_here; (with_reducible show wpAny _ _ (call (Value.builtin "str.strip") [Value.str (pad _) _, Value.str _ _]) _ _ _);
  (refine KXw.stripChars (strip_pad _) (by rw [pad_length, sizeLine_eq]; omega) ?_); intro t9 k9; (try dsimp only); (try k_fold)))
local macro_rules | `(tactic| walk_at "MINE col") => `(tactic| (
  k_here; (with_reducible show wpAny _ _ (call (Value.ref 28) [Value.str _ _, Value.int _ _]) _ _ _);
  (k_dflt (refine' ct_use (col_claim _ _ _ _ _ _ _ _ _) ?k1 ?k2 ?k3 ?k4 ?k5 ?kK ?kq ?kd ?ku ?_; (case kq => refine And.intro ?_ ?_; all_goals (first | ((simp only [cut_len, pad_length]); omega) | omega | ((try k_fmods); omega))); walk_at "MINE call2")); k_whole; intro r9 tl9 h9 tk9 F9 N9 l9 P9; (obtain ⟨D9, vs9, c9, e9, i9, len9, e8⟩ := P9); (subst e9 e8); (have l1 := l9 _ (List.mem_singleton.mpr rfl)); (clear l9); (simp only [List.cons_append, List.nil_append] at N9); (try simp only [colsF_cut, colsF_pad, cut_len, pad_length] at i9 len9); (have lv9 := IntsAre.length i9); (try k_lt l1); (try dsimp only); (try k_fold)))
local macro_rules | `(tactic| walk_at "MINE call2") => `(tactic| (
  (case k1 => first | k_asm | ktn_no "MINE: the frames below");
  (case k2 => first | k_asm | ktn_no "MINE: the frame");
  (case k3 => first | k_asm | ktn_no "MINE: the written part");
  (case k4 => first | k_asm | ktn_no "MINE: the ledger");
  (case k5 => first | k_asm | ktn_no "MINE: the top's facts");
  (case kK => first | exact rfl | assumption | ktn_no "MINE: the caller is no def");
  (case kd => first | ktr_room | ktn_no "MINE: the frames' room");
  (case ku => first | ktr_units | ktn_no "MINE: the C units")))
theorem t02 : PySem.Challenge.rw_dm0005_02.Holds := by
  k_with_none
  refine hd02 ?_
  k_go0; (all_goals try k_fold)
  repeat' (first | walk_at "MINE col" | ((fail_if_success (with_reducible show wpAny _ _ (call (Value.ref 28) _) _ _ _)); (first | (k_unfold; (try dsimp only)) | (k_end; wrow_close) | walk1 | (dsimp only; walk1) | (leave1; walk_say "STEP leave1"; try dsimp only))))
end Mine
theorem PySem.Challenge.cw_dm0005_02_holds : PySem.Challenge.rw_dm0005_02.Holds :=
  Mine.t02
