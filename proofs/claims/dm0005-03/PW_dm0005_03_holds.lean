import PyProof.Rows.All
import Wide.All
import OpenK.AllK
import Wide.FinOn
import PySem.Challenge.RW_dm0005_03
open PySem PySem.W PyProof.Rows
set_option Elab.async false
set_option maxRecDepth 100000
set_option maxHeartbeats 8000000
namespace Mine
/-- one sign's pad -/
def padc (c : Nat) : Nat := if c = 9 ∨ c = 12 then c else 32
/-- a text's pad -/
def pad (s : PySem.Str) : PySem.Str := ⟨(s.cps.toList.map padc).toArray⟩
theorem pad_length (s : PySem.Str) : (pad s).length = s.length := by simp [pad, PySem.Str.length]
theorem pad_append (a b : PySem.Str) : pad (a ++ b) = pad a ++ pad b := by
  refine PySem.Str.ext' (Array.toList_inj.mp ?_)
  rw [PySem.Str.cps_append, Array.toList_append]
  simp [pad, PySem.Str.cps_append]
theorem pad_one (n : Nat) : pad ⟨#[n]⟩ = ⟨#[padc n]⟩ := rfl
theorem ff_tab : PySem.Str.ofString "\x0c\t" = ⟨#[12, 9]⟩ := by decide +kernel
theorem blank : PySem.Str.ofString " " = ⟨#[32]⟩ := by decide +kernel
theorem occ_ff_tab (n : Nat) : (Builtin.Str.occurrences (PySem.Str.ofString "\x0c\t") ⟨#[n]⟩ 0 (PySem.Str.ofString "\x0c\t").length 1).isEmpty = !decide (n = 9 ∨ n = 12) := by
  have h := StrLaws.found_one (PySem.Str.ofString "\x0c\t") n
  rw [← Bool.not_not (b := List.isEmpty _), h, ff_tab]
  simp [or_comm]
theorem pad_start : (PySem.Str.ofString "") = pad (KStt.txt []) ∧ (PySem.Str.ofString "").length = ([] : List Int).length := by
  constructor <;> decide +kernel
theorem pad_keep {pre : List Int} {n : Nat} {r : PySem.Str} (h1 : r = pad (KStt.txt pre)) (h2 : r.length = pre.length)
    (ho : (Builtin.Str.occurrences (PySem.Str.ofString "\x0c\t") ⟨#[n]⟩ 0 (PySem.Str.ofString "\x0c\t").length 1).isEmpty = false) :
    r ++ (⟨#[n]⟩ : PySem.Str) = pad (KStt.txt (pre ++ [(n : Int)])) ∧ (r ++ (⟨#[n]⟩ : PySem.Str)).length = (pre ++ [(n : Int)]).length := by
  rw [occ_ff_tab] at ho
  have hp : n = 9 ∨ n = 12 := of_decide_eq_true (by simpa only [Bool.not_eq_false'] using ho)
  constructor
  · rw [KStt.txt_snoc, pad_append, pad_one, h1, padc, if_pos hp]
  · rw [PySem.Str.length_append, h2]; simp [PySem.Str.length]
theorem pad_blank {pre : List Int} {n : Nat} {r : PySem.Str} (h1 : r = pad (KStt.txt pre)) (h2 : r.length = pre.length)
    (ho : (Builtin.Str.occurrences (PySem.Str.ofString "\x0c\t") ⟨#[n]⟩ 0 (PySem.Str.ofString "\x0c\t").length 1).isEmpty = true) :
    r ++ (PySem.Str.ofString " ") = pad (KStt.txt (pre ++ [(n : Int)])) ∧ (r ++ (PySem.Str.ofString " ")).length = (pre ++ [(n : Int)]).length := by
  rw [occ_ff_tab] at ho
  have hp : ¬ (n = 9 ∨ n = 12) := of_decide_eq_false (by simpa only [Bool.not_eq_true'] using ho)
  constructor
  · rw [KStt.txt_snoc, pad_append, pad_one, h1, padc, if_neg hp, blank]
  · rw [PySem.Str.length_append, h2, blank]; simp [PySem.Str.length]
theorem pad_done {src r : PySem.Str} (h : r = pad (KStt.txt (KStt.codes src))) : r = pad src := by
  rw [h, KStt.txt_codes]
/-- a def's contract: from any frame, where asks holds, the call gives back R, and makes nothing that is kept -/
abbrev Cs (prog : Program) (w : World) (K : Frag) (p : Program) (loose : List PySem.Str) (mean : ExcName → Option Value) (mg mb : PySem.Str → Option Value) (f : Addr) (n : Nat) (news : List (Addr × Obj)) (asks : Prop) (vs : List Value) (R : Tok → Value) : Prop :=
  ∀ (dp un : Nat) (gd : Option (List Code)) (cn : PySem.Str) (cs : Scope) (a : Addr) (ccd : Value) (cl : List (PySem.Str × Addr)) (outer : List Env) (A₀ : Around) (base h₀ : Heap) (L : Addr) (m : PySem.Str → Option Value) (s : Shared) (Q E : Value → Shared → Prop),
    Below A₀ base outer h₀ → Fr h₀ L s.heap m → K.In h₀ → News h₀ L s.heap news → Top p loose mean mg mb h₀ → cs.kind = .function →
    asks → dp + n < recursionLimit → un + 8 * n < cLine →
    (∀ (t : Tok) (h' : Heap) (tk' : Nat), Fr h₀ L h' m → News h₀ L h' news → Q (R t) { s with heap := h', toks := tk' }) →
      wpAny (model prog w) (ktrTop dp un gd cn cs L a ccd cl outer) (call (.ref f) vs) Q E s
/-- the same for a call that gives back something new -/
abbrev Ct (prog : Program) (w : World) (K : Frag) (p : Program) (loose : List PySem.Str) (mean : ExcName → Option Value) (mg mb : PySem.Str → Option Value) (f : Addr) (n : Nat) (news : List (Addr × Obj)) (asks : Prop) (vs : List Value) (Post : List (Addr × Obj) → Value → Prop) : Prop :=
  ∀ (dp un : Nat) (gd : Option (List Code)) (cn : PySem.Str) (cs : Scope) (a : Addr) (ccd : Value) (cl : List (PySem.Str × Addr)) (outer : List Env) (A₀ : Around) (base h₀ : Heap) (L : Addr) (m : PySem.Str → Option Value) (s : Shared) (Q E : Value → Shared → Prop),
    Below A₀ base outer h₀ → Fr h₀ L s.heap m → K.In h₀ → News h₀ L s.heap news → Top p loose mean mg mb h₀ → cs.kind = .function →
    asks → dp + n < recursionLimit → un + 8 * n < cLine →
    (∀ (r : Value) (tl : List (Addr × Obj)) (h' : Heap) (tk' : Nat), Fr h₀ L h' m → News h₀ L h' (tl ++ news) → (∀ p ∈ tl, ∀ q ∈ news, q.1 < p.1) → Post tl r → Q r { s with heap := h', toks := tk' }) →
      wpAny (model prog w) (ktrTop dp un gd cn cs L a ccd cl outer) (call (.ref f) vs) Q E s
section
variable {prog : Program} {w : World} {K : Frag} {p : Program} {loose : List PySem.Str} {mean : ExcName → Option Value} {mg mb : PySem.Str → Option Value} {f : Addr} {n : Nat} {news : List (Addr × Obj)} {asks : Prop} {vs : List Value} {R : Tok → Value} {Post : List (Addr × Obj) → Value → Prop}
  {dp un : Nat} {gd : Option (List Code)} {cn : PySem.Str} {cs : Scope} {a : Addr} {ccd : Value} {cl : List (PySem.Str × Addr)} {outer : List Env} {A₀ : Around} {base h₀ : Heap} {L : Addr} {m : PySem.Str → Option Value} {s : Shared} {Q E : Value → Shared → Prop}
theorem cs_use (C : Cs prog w K p loose mean mg mb f n news asks vs R) (B : Below A₀ base outer h₀) (F : Fr h₀ L s.heap m) (X : K.In h₀) (N : News h₀ L s.heap news) (T : Top p loose mean mg mb h₀) (hk : cs.kind = .function) (ha : asks) (hd : dp + n < recursionLimit) (hu : un + 8 * n < cLine)
    (ret : ∀ (t : Tok) (h' : Heap) (tk' : Nat), Fr h₀ L h' m → News h₀ L h' news → Q (R t) { s with heap := h', toks := tk' }) :
    wpAny (model prog w) (ktrTop dp un gd cn cs L a ccd cl outer) (call (.ref f) vs) Q E s := C _ _ _ _ _ _ _ _ _ _ _ _ _ _ _ _ _ B F X N T hk ha hd hu ret
theorem ct_use (C : Ct prog w K p loose mean mg mb f n news asks vs Post) (B : Below A₀ base outer h₀) (F : Fr h₀ L s.heap m) (X : K.In h₀) (N : News h₀ L s.heap news) (T : Top p loose mean mg mb h₀) (hk : cs.kind = .function) (ha : asks) (hd : dp + n < recursionLimit) (hu : un + 8 * n < cLine)
    (ret : ∀ (r : Value) (tl : List (Addr × Obj)) (h' : Heap) (tk' : Nat), Fr h₀ L h' m → News h₀ L h' (tl ++ news) → (∀ p ∈ tl, ∀ q ∈ news, q.1 < p.1) → Post tl r → Q r { s with heap := h', toks := tk' }) :
    wpAny (model prog w) (ktrTop dp un gd cn cs L a ccd cl outer) (call (.ref f) vs) Q E s := C _ _ _ _ _ _ _ _ _ _ _ _ _ _ _ _ _ B F X N T hk ha hd hu ret
end
theorem ct_ret {h₀ h' : Heap} {L : Addr} {m : PySem.Str → Option Value} {news news' : List (Addr × Obj)} {s : Shared} {Q : Value → Shared → Prop} {tk' : Nat} {Post : List (Addr × Obj) → Value → Prop} {r : Value} {D : Addr} {o : Obj}
    (hret : ∀ (r : Value) (tl : List (Addr × Obj)) (h' : Heap) (tk' : Nat), Fr h₀ L h' m → News h₀ L h' (tl ++ news) → (∀ p ∈ tl, ∀ q ∈ news, q.1 < p.1) → Post tl r → Q r { s with heap := h', toks := tk' })
    (F : Fr h₀ L h' m) (N : News h₀ L h' news') (hm : (D, o) ∈ news') (hs : ∀ p ∈ news, p ∈ news') (hl : AllLt D news) (hp : Post [(D, o)] r) : Q r { s with heap := h', toks := tk' } := by
  refine hret r [(D, o)] h' tk' F (fun p hp => ?_) (fun p hp q hq => ?_) hp
  · rcases List.mem_cons.mp hp with rfl | hp
    · exact N _ hm
    · exact N p (hs p hp)
  · rw [List.mem_singleton.mp hp]
    exact kst_ltOf hl q hq
/-- one sign's step of the column's reader -/
def colStep (size col : Int) (c : Int) : Int := if c = 9 then col + (size - col.fmod size) else if c = 12 then 0 else col + 1
def colsF (size : Int) (l : List Int) : Int × List Int := l.foldl (fun p x => (colStep size p.1 x, p.2 ++ [colStep size p.1 x])) (0, [])
theorem colsF_snoc (size : Int) (l : List Int) (x : Int) : colsF size (l ++ [x]) = (colStep size (colsF size l).1 x, (colsF size l).2 ++ [colStep size (colsF size l).1 x]) := by
  simp [colsF, List.foldl_append]
theorem tab_is : PySem.Str.ofString "\t" = ⟨#[9]⟩ := by decide +kernel
theorem ff_is : PySem.Str.ofString "\x0c" = ⟨#[12]⟩ := by decide +kernel
theorem one_inj {a b : Nat} : ((⟨#[a]⟩ : PySem.Str) = ⟨#[b]⟩) ↔ a = b := by simp
theorem one_eq {a b : Nat} : ((⟨#[a]⟩ : PySem.Str) == ⟨#[b]⟩) = decide (a = b) := by
  rw [Bool.eq_iff_iff, beq_iff_eq, one_inj, decide_eq_true_eq]
theorem col_start (size : Int) : (0 : Int) = (colsF size []).1 ∧ ([] : List Int) = (colsF size []).2 ∧ ([] : List Int).length = ([] : List Int).length := ⟨rfl, rfl, rfl⟩
theorem col_turn {size col : Int} {cols pre : List Int} {n : Nat} {d : Int} (h1 : col = (colsF size pre).1) (h2 : cols = (colsF size pre).2) (h3 : cols.length = pre.length) (hd : d = colStep size col (n : Int)) :
    d = (colsF size (pre ++ [(n : Int)])).1 ∧ cols ++ [d] = (colsF size (pre ++ [(n : Int)])).2 ∧ (cols ++ [d]).length = (pre ++ [(n : Int)]).length := by
  rw [colsF_snoc]
  subst hd
  refine ⟨by rw [h1], by rw [h2, h1], ?_⟩
  rw [List.length_append, List.length_append, h3]; rfl
theorem step_tab {size col : Int} {n : Nat} (h : ((⟨#[n]⟩ : PySem.Str) == PySem.Str.ofString "\t") = true) : col + (size - col.fmod size) = colStep size col (n : Int) := by
  rw [tab_is, one_eq] at h
  have h := of_decide_eq_true h
  subst h
  rfl
theorem step_ff {size col : Int} {n : Nat} (h : ((⟨#[n]⟩ : PySem.Str) == PySem.Str.ofString "\x0c") = true) : (0 : Int) = colStep size col (n : Int) := by
  rw [ff_is, one_eq] at h
  have h := of_decide_eq_true h
  subst h
  rfl
theorem step_else {size col : Int} {n : Nat} (h : ((⟨#[n]⟩ : PySem.Str) == PySem.Str.ofString "\t") = false) (h' : ((⟨#[n]⟩ : PySem.Str) == PySem.Str.ofString "\x0c") = false) : col + 1 = colStep size col (n : Int) := by
  rw [tab_is, one_eq] at h
  rw [ff_is, one_eq] at h'
  have h := of_decide_eq_false h
  have h' := of_decide_eq_false h'
  unfold colStep
  rw [if_neg (by omega), if_neg (by omega)]
theorem col_done {vs : List Value} {cols X : List Int} (h : IntsAre vs cols) (e : cols = X) : IntsAre vs X := e ▸ h
theorem codes_append (a b : PySem.Str) : KStt.codes (a ++ b) = KStt.codes a ++ KStt.codes b := by
  simp [KStt.codes, PySem.Str.cps_append]
theorem codes_pad (a : PySem.Str) : KStt.codes (pad a) = (KStt.codes a).map fun c => ((padc c.toNat : Nat) : Int) := by
  simp [KStt.codes, pad]
theorem colStep_pad (size col : Int) (c : Nat) : colStep size col ((padc c : Nat) : Int) = colStep size col (c : Int) := by
  unfold padc colStep
  split
  · rfl
  · rw [if_neg (by omega), if_neg (by omega), if_neg (by omega), if_neg (by omega)]
theorem fold_pad (size : Int) (x : PySem.Str) (p : Int × List Int) : (KStt.codes (pad x)).foldl (fun p x => (colStep size p.1 x, p.2 ++ [colStep size p.1 x])) p = (KStt.codes x).foldl (fun p x => (colStep size p.1 x, p.2 ++ [colStep size p.1 x])) p := by
  unfold KStt.codes pad
  generalize x.cps.toList = l
  simp only
  induction l generalizing p with
  | nil => rfl
  | cons c r ih => simp only [List.map_cons, List.foldl_cons, colStep_pad]; exact ih _
theorem colsF_pad (size : Int) (x : PySem.Str) : colsF size (KStt.codes (pad x)) = colsF size (KStt.codes x) := fold_pad size x _
theorem colsF_pad_append (size : Int) (x y : PySem.Str) : colsF size (KStt.codes (pad x ++ y)) = colsF size (KStt.codes (x ++ y)) := by
  rw [codes_append, codes_append]
  unfold colsF
  rw [List.foldl_append, List.foldl_append, fold_pad]
theorem set_is : PySem.Str.ofString " \t\x0c" = ⟨#[32, 9, 12]⟩ := by decide +kernel
theorem padc_in (c : Nat) : (PySem.Str.ofString " \t\x0c").cps.contains (padc c) = true := by
  rw [set_is]
  unfold padc
  split
  · rename_i h; rcases h with h | h <;> subst h <;> decide +kernel
  · decide +kernel
theorem tw_all {goes : Nat → Bool} : ∀ {l : List Nat}, (∀ c ∈ l, goes c = true) → l.takeWhile goes = l
  | [], _ => rfl
  | c :: r, h => by
    rw [List.takeWhile_cons, if_pos (h c (.head _)), tw_all fun d hd => h d (.tail _ hd)]
theorem strip_pad (x : PySem.Str) : Txt.stripChars (pad x) (PySem.Str.ofString " \t\x0c") = PySem.Str.ofString "" := by
  have hall : ∀ c ∈ (pad x).cps.toList, (PySem.Str.ofString " \t\x0c").cps.contains c = true := by
    intro c hc
    have hc : c ∈ x.cps.toList.map padc := hc
    obtain ⟨d, _, rfl⟩ := List.mem_map.mp hc
    exact padc_in d
  have hlo : stripLo (PySem.Str.ofString " \t\x0c").cps.contains true (pad x) = (pad x).length := by
    unfold stripLo
    rw [if_pos rfl, tw_all hall]
    simp [PySem.Str.length]
  have hhi : stripHi (PySem.Str.ofString " \t\x0c").cps.contains true (pad x) (pad x).length = (pad x).length := by
    unfold stripHi
    rw [if_pos rfl, List.drop_of_length_le (by simp [PySem.Str.length])]
    rfl
  unfold Txt.stripChars Txt.stripBy
  unfold PySem.stripSame PySem.stripped
  rw [hlo, hhi]
  split
  · rename_i h
    have h0 : (pad x).length = 0 := by simpa using h
    have e : (pad x).cps = #[] := Array.eq_empty_of_size_eq_zero h0
    exact PySem.Str.ext' (e.trans (by decide +kernel))
  · refine PySem.Str.ext' ?_
    show (pad x).cps.extract _ _ = _
    rw [Array.extract_empty_of_stop_le_start (Nat.le_refl _)]
    decide +kernel
theorem slice_text (x : PySem.Str) (l u : Option Int) : Txt.slice x l u = StrLaws.sliceText x l u := rfl
theorem slice_to {x : PySem.Str} {j : Int} (h0 : 0 ≤ j) (h1 : j ≤ x.length) : Txt.slice x none (some j) = ⟨(x.cps.toList.take j.toNat).toArray⟩ := by
  rw [slice_text, StrLaws.sliceText_to ⟨h0, by simpa [PySem.Str.length] using h1⟩, List.drop_zero, Int.sub_zero]
theorem slice_from {x : PySem.Str} {j : Int} (h0 : 0 ≤ j) (h1 : j ≤ x.length) : Txt.slice x (some j) none = ⟨(x.cps.toList.drop j.toNat).toArray⟩ := by
  rw [slice_text, StrLaws.sliceText_from ⟨h0, by simpa [PySem.Str.length] using h1⟩, List.take_of_length_le]
  rw [List.length_drop]
  omega
theorem slice_join {x : PySem.Str} {j : Int} (h0 : 0 ≤ j) (h1 : j ≤ x.length) : Txt.slice x none (some j) ++ Txt.slice x (some j) none = x := by
  rw [slice_to h0 h1, slice_from h0 h1]
  refine PySem.Str.ext' (Array.toList_inj.mp ?_)
  rw [PySem.Str.cps_append, Array.toList_append, List.take_append_drop]
theorem cut_facts (s : Int) (n : Nat) : 0 ≤ s.fmod ((n : Int) + 1) ∧ s.fmod ((n : Int) + 1) ≤ (n : Int) := by
  have h1 := Int.fmod_nonneg_of_pos s (b := (n : Int) + 1) (by omega)
  have h2 := Int.fmod_lt_of_pos s (b := (n : Int) + 1) (by omega)
  omega
theorem colsF_cut (size s : Int) (T : PySem.Str) : colsF size (KStt.codes (pad (Txt.slice T none (some (s.fmod ((T.length : Int) + 1)))) ++ Txt.slice T (some (s.fmod ((T.length : Int) + 1))) none)) = colsF size (KStt.codes T) := by
  have h := cut_facts s T.length
  rw [colsF_pad_append, slice_join h.1 h.2]
theorem cut_len (s : Int) (T : PySem.Str) : (pad (Txt.slice T none (some (s.fmod ((T.length : Int) + 1)))) ++ Txt.slice T (some (s.fmod ((T.length : Int) + 1))) none).length = T.length := by
  have h := cut_facts s T.length
  rw [PySem.Str.length_append, pad_length, ← PySem.Str.length_append, slice_join h.1 h.2]
/-- the code of _law_sign -/
def signC (k : Int) : Int :=
  let c := k.fmod 1114110
  let c := if c > 8 then c + 1 else c
  if c > 11 then c + 1 else c
def signOf (k : Int) : PySem.Str := ⟨#[(signC k).toNat]⟩
theorem signC_facts (k : Int) : 0 ≤ signC k ∧ signC k < 1114112 ∧ signC k ≠ 9 ∧ signC k ≠ 12 := by
  have h1 := Int.fmod_nonneg_of_pos k (b := 1114110) (by decide)
  have h2 := Int.fmod_lt_of_pos k (b := 1114110) (by decide)
  unfold signC
  dsimp only
  (repeat' split) <;> omega
theorem sign_is {k c : Int} (h : c = signC k) : (⟨#[c.toNat]⟩ : PySem.Str) = signOf k := by rw [h, signOf]
theorem padc_sign (k : Int) : padc (signC k).toNat = 32 := by
  have h := signC_facts k
  unfold padc
  rw [if_neg (by omega)]
theorem pad_sign (k : Int) : pad (signOf k) = ⟨#[32]⟩ := by rw [signOf, pad_one, padc_sign]
theorem sign_length (k : Int) : (signOf k).length = 1 := rfl
theorem strs_of_carried : ∀ {vs : List Value} {xs : List PySem.Str}, CarriedAll vs (xs.map PyData.str) → StrsAre vs xs
  | [], [], _ => .nil
  | _ :: _, [], h => nomatch h
  | [], _ :: _, h => nomatch h
  | _ :: _, _ :: _, .cons (.str _ _) r => .cons _ _ (strs_of_carried r)
/-- list(text), onto the ledger -/
theorem list_text {prog : Program} {w : World} {A : Around} {E : Value → Shared → Prop} {s : Shared} {h₀ : Heap} {L : Addr} {m : PySem.Str → Option Value} {news : List (Addr × Obj)} {x : PySem.Str} {t : Tok} {Q : Value → Shared → Prop} (hh : A.handled = none) (F : Fr h₀ L s.heap m) (N : News h₀ L s.heap news) (hsz : x.length ≤ sizeLine)
    (h : ∀ (D : Addr) (ys : List Value) (c : Nat) h' tk, Fr h₀ L h' m → News h₀ L h' ((D, W.listOf ys.toArray c) :: news) → (∀ p ∈ news, p.1 < D) → StrsAre ys (signs x) → Q (.ref D) { s with heap := h', toks := tk }) :
    wpAny (model prog w) A (call (.type "list") [.str x t]) Q E s := by
  refine list_strD hh F N (fun h' tk ys F' N' hk h0 hl hp hc => ?_) hsz
  have hD := NewPlain.ne_locals hp F'
  obtain ⟨⟨c, e⟩, hne⟩ := hp
  refine h _ ys c h' tk F' (fun p hp => ?_) (fun p hp => Heap.lt_size (N p hp).1) (strs_of_carried hc)
  rcases List.mem_cons.mp hp with rfl | hp
  · exact ⟨e, hD, h0⟩
  · exact N' p hp
/-- what the loop of _law_filled has made of the signs ss by the codes l -/
def fillF (ss : List PySem.Str) (l : List Int) : PySem.Str × List PySem.Str :=
  l.foldl (fun p c => if c = 32 then (p.1 ++ p.2.headD PySem.Str.empty, p.2.tail) else (p.1 ++ ⟨#[c.toNat]⟩, p.2)) (PySem.Str.ofString "", ss)
theorem fillF_snoc (ss : List PySem.Str) (l : List Int) (c : Int) : fillF ss (l ++ [c]) = if c = 32 then ((fillF ss l).1 ++ (fillF ss l).2.headD PySem.Str.empty, (fillF ss l).2.tail) else ((fillF ss l).1 ++ ⟨#[c.toNat]⟩, (fillF ss l).2) := by
  simp only [fillF, List.foldl_append, List.foldl_cons, List.foldl_nil]
structure Filling (y : PySem.Str) (pre : List Int) (line : PySem.Str) (rest : List PySem.Str) : Prop where
  line_is : line = (fillF (signs y) pre).1
  rest_is : rest = (fillF (signs y) pre).2
  len : line.length = pre.length
  left : rest.length + pre.count 32 = y.length
  ones : ∀ t ∈ rest, t.length = 1
theorem fill_start (y : PySem.Str) : Filling y [] (PySem.Str.ofString "") (signs y) :=
  ⟨rfl, rfl, by decide +kernel, by simp [signs, PySem.Str.length], fun t ht => by
    obtain ⟨c, _, rfl⟩ := List.mem_map.mp (show t ∈ y.cps.toList.map _ from ht)
    rfl⟩
theorem one_eqB {a b : Nat} : ((⟨#[a]⟩ : PySem.Str) == ⟨#[b]⟩) = decide (a = b) := by
  rw [Bool.eq_iff_iff, beq_iff_eq, decide_eq_true_eq]; simp
theorem fill_blank {y : PySem.Str} {pre : List Int} {line x : PySem.Str} {rest : List PySem.Str} {n : Nat} (h : Filling y pre line (x :: rest)) (hb : ((⟨#[n]⟩ : PySem.Str) == PySem.Str.ofString " ") = true) :
    Filling y (pre ++ [(n : Int)]) (line ++ x) rest := by
  rw [blank, one_eqB] at hb
  have hb := of_decide_eq_true hb
  subst hb
  have e := fillF_snoc (signs y) pre ((32 : Nat) : Int)
  rw [if_pos (by decide), ← h.line_is, ← h.rest_is] at e
  refine ⟨by rw [e]; rfl, by rw [e]; rfl, ?_, ?_, fun t ht => h.ones t (.tail _ ht)⟩
  · rw [PySem.Str.length_append, h.len, h.ones x (.head _), List.length_append]; rfl
  · have q := h.left
    rw [List.length_cons] at q
    rw [List.count_append]
    simp
    omega
theorem fill_other {y : PySem.Str} {pre : List Int} {line : PySem.Str} {rest : List PySem.Str} {n : Nat} (h : Filling y pre line rest) (hb : ((⟨#[n]⟩ : PySem.Str) == PySem.Str.ofString " ") = false) :
    Filling y (pre ++ [(n : Int)]) (line ++ (⟨#[n]⟩ : PySem.Str)) rest := by
  rw [blank, one_eqB] at hb
  have hb := of_decide_eq_false hb
  have hb' : ¬ ((n : Int) = 32) := by omega
  have e := fillF_snoc (signs y) pre (n : Int)
  rw [if_neg hb', ← h.line_is, ← h.rest_is] at e
  refine ⟨by rw [e]; rfl, by rw [e], ?_, ?_, h.ones⟩
  · rw [PySem.Str.length_append, h.len, List.length_append]; rfl
  · have q := h.left
    rw [List.count_append, List.count_singleton]
    simp
    rw [if_neg (by omega)]
    omega
theorem strs_cons {us : List Value} {xs : List PySem.Str} (h : StrsAre us xs) (hp : 0 < xs.length) : ∃ x t us' xs', us = .str x t :: us' ∧ xs = x :: xs' ∧ StrsAre us' xs' := by
  cases h with
  | nil => exact absurd hp (by decide)
  | cons y t r => exact ⟨y, t, _, _, rfl, rfl, r⟩
theorem pop_first {prog : Program} {w : World} {A : Around} {E : Value → Shared → Prop} {s : Shared} {h₀ : Heap} {L D : Addr} {m : PySem.Str → Option Value} {news news' : List (Addr × Obj)} {us : List Value} {v : Value} {n : Nat} {u : Tok} {Q : Value → Shared → Prop} (F : Fr h₀ L s.heap m) (N : News h₀ L s.heap news)
    (U : Upd D (W.listOf (v :: us).toArray n) (W.listOf us.toArray (n + 1)) news news') (hz : (v :: us).length ≤ sizeLine) (h : ∀ h', Fr h₀ L h' m → News h₀ L h' news' → Q v { s with heap := h' }) :
    wpAny (model prog w) A (call (.builtin "list.pop") [.ref D, .int 0 u]) Q E s :=
  kl_popAt (k := 0) (p := []) (q := us) (y := v) F N rfl (by
    have e : (v :: us).toArray.size = us.length + 1 := by simp
    rw [e]
    unfold seqIndex?
    simp) (by simp [kl_cut]) U hz h
theorem fill_all {y : PySem.Str} {pre : List Int} {line : PySem.Str} {rest : List PySem.Str} (h : Filling y pre line rest) : Filling y pre line rest ∧ line.length = pre.length ∧ rest.length ≤ y.length := ⟨h, h.len, by have := h.left; omega⟩
theorem fill_one {y : PySem.Str} {pre : List Int} {line x : PySem.Str} {rest : List PySem.Str} (h : Filling y pre line (x :: rest)) : x.length = 1 := h.ones x (.head _)
theorem fill_more {y p : PySem.Str} {pre post : List Int} {line : PySem.Str} {rest : List PySem.Str} {n : Nat} (h : Filling y pre line rest) (he : KStt.codes p = pre ++ (n : Int) :: post) (hc : (KStt.codes p).count 32 = y.length) (hb : ((⟨#[n]⟩ : PySem.Str) == PySem.Str.ofString " ") = true) : 0 < rest.length := by
  rw [blank, one_eqB] at hb
  have hb := of_decide_eq_true hb
  subst hb
  have q := h.left
  rw [he, List.count_append, List.count_cons] at hc
  simp at hc
  omega
theorem cnt_count (c : Nat) : ∀ l : List Nat, PyProof.Rows.cnt c l = ((l.map fun (n : Nat) => (n : Int)).count (c : Int) : Nat)
  | [] => rfl
  | n :: r => by
    rw [cnt_cons, cnt_count c r, List.map_cons, List.count_cons]
    by_cases h : n = c
    · subst h; simp; omega
    · have h' : ¬ ((n : Int) = (c : Int)) := by omega
      rw [if_neg h]
      simp [h']
theorem count_blank (p : PySem.Str) : Txt.count p (PySem.Str.ofString " ") = ((KStt.codes p).count 32 : Nat) := by
  rw [blank, count_cnt, cnt_count]
  rfl
theorem fill_done {y p line : PySem.Str} {rest : List PySem.Str} (h : Filling y (KStt.codes p) line rest) : line = (fillF (signs y) (KStt.codes p)).1 := h.line_is
theorem fold_more : ∀ (l : List Int) (a : PySem.Str) (ss : List PySem.Str) (t : PySem.Str), l.count 32 ≤ ss.length →
    l.foldl (fun p c => if c = 32 then (p.1 ++ p.2.headD PySem.Str.empty, p.2.tail) else (p.1 ++ (⟨#[c.toNat]⟩ : PySem.Str), p.2)) (a, ss ++ [t]) =
      ((l.foldl (fun p c => if c = 32 then (p.1 ++ p.2.headD PySem.Str.empty, p.2.tail) else (p.1 ++ (⟨#[c.toNat]⟩ : PySem.Str), p.2)) (a, ss)).1, (l.foldl (fun p c => if c = 32 then (p.1 ++ p.2.headD PySem.Str.empty, p.2.tail) else (p.1 ++ (⟨#[c.toNat]⟩ : PySem.Str), p.2)) (a, ss)).2 ++ [t])
  | [], _, _, _, _ => rfl
  | c :: r, a, ss, t, h => by
    rw [List.foldl_cons, List.foldl_cons]
    by_cases hc : c = 32
    · subst hc
      rw [if_pos rfl, if_pos rfl]
      rw [List.count_cons_self] at h
      cases ss with
      | nil => exact absurd h (by simp)
      | cons s0 ss' =>
        have h' : r.count 32 ≤ ss'.length := by simpa using h
        exact fold_more r _ ss' t h'
    · rw [if_neg hc, if_neg hc]
      rw [List.count_cons_of_ne (by omega)] at h
      exact fold_more r _ ss t h
theorem fillF_more (ss : List PySem.Str) (t : PySem.Str) (l : List Int) (h : l.count 32 ≤ ss.length) : fillF (ss ++ [t]) l = ((fillF ss l).1, (fillF ss l).2 ++ [t]) := fold_more l _ ss t h
theorem signs_snoc (x : PySem.Str) (c : Nat) : signs (x ++ (⟨#[c]⟩ : PySem.Str)) = signs x ++ [⟨#[c]⟩] := by
  simp [signs, PySem.Str.cps_append]
theorem codes_snoc (x : PySem.Str) (c : Nat) : KStt.codes (x ++ (⟨#[c]⟩ : PySem.Str)) = KStt.codes x ++ [(c : Int)] := by
  rw [codes_append]; rfl
/-- two lines over one row of places, with the signs of each -/
structure Two (one ones other others : PySem.Str) : Prop where
  pads : pad other = pad one
  f1 : fillF (signs others) (KStt.codes (pad one)) = (other, [])
  f2 : fillF (signs ones) (KStt.codes (pad one)) = (one, [])
  c1 : (KStt.codes (pad one)).count 32 = others.length
  c2 : (KStt.codes (pad one)).count 32 = ones.length
theorem two_start : Two (PySem.Str.ofString "") (PySem.Str.ofString "") (PySem.Str.ofString "") (PySem.Str.ofString "") := ⟨rfl, rfl, rfl, rfl, rfl⟩
theorem two_keep {one ones other others : PySem.Str} {c : Nat} (h : Two one ones other others) (hc : c = 9 ∨ c = 12) : Two (one ++ (⟨#[c]⟩ : PySem.Str)) ones (other ++ (⟨#[c]⟩ : PySem.Str)) others := by
  have hp : padc c = c := by unfold padc; rw [if_pos hc]
  have hn : ¬ ((c : Int) = 32) := by omega
  have e : KStt.codes (pad (one ++ (⟨#[c]⟩ : PySem.Str))) = KStt.codes (pad one) ++ [(c : Int)] := by rw [pad_append, pad_one, hp, codes_snoc]
  refine ⟨by rw [pad_append, pad_append, h.pads], ?_, ?_, ?_, ?_⟩
  · rw [e, fillF_snoc, if_neg hn, h.f1]; rfl
  · rw [e, fillF_snoc, if_neg hn, h.f2]; rfl
  · rw [e, List.count_append, h.c1, List.count_singleton]; simp; omega
  · rw [e, List.count_append, h.c2, List.count_singleton]; simp; omega
theorem two_sign {one ones other others : PySem.Str} {a b : Nat} (h : Two one ones other others) (ha : padc a = 32) (hb : padc b = 32) :
    Two (one ++ (⟨#[a]⟩ : PySem.Str)) (ones ++ (⟨#[a]⟩ : PySem.Str)) (other ++ (⟨#[b]⟩ : PySem.Str)) (others ++ (⟨#[b]⟩ : PySem.Str)) := by
  have e : KStt.codes (pad (one ++ (⟨#[a]⟩ : PySem.Str))) = KStt.codes (pad one) ++ [32] := by rw [pad_append, pad_one, ha, codes_snoc]; rfl
  refine ⟨by rw [pad_append, pad_append, h.pads, pad_one, pad_one, ha, hb], ?_, ?_, ?_, ?_⟩
  · rw [e, fillF_snoc, if_pos rfl, signs_snoc, fillF_more _ _ _ (by rw [h.c1]; simp [signs, PySem.Str.length]), h.f1]; rfl
  · rw [e, fillF_snoc, if_pos rfl, signs_snoc, fillF_more _ _ _ (by rw [h.c2]; simp [signs, PySem.Str.length]), h.f2]; rfl
  · rw [e, List.count_append, h.c1, PySem.Str.length_append]; rfl
  · rw [e, List.count_append, h.c2, PySem.Str.length_append]; rfl
theorem two_len {one ones other others : PySem.Str} (h : Two one ones other others) : other.length = one.length := by
  rw [← pad_length other, h.pads, pad_length]
theorem pad_slice_to {x : PySem.Str} {j : Int} (h0 : 0 ≤ j) (h1 : j ≤ x.length) : pad (Txt.slice x none (some j)) = Txt.slice (pad x) none (some j) := by
  rw [slice_to h0 h1, slice_to h0 (by rw [pad_length]; exact h1)]
  simp [pad, List.map_take]
theorem pad_slice_from {x : PySem.Str} {j : Int} (h0 : 0 ≤ j) (h1 : j ≤ x.length) : pad (Txt.slice x (some j) none) = Txt.slice (pad x) (some j) none := by
  rw [slice_from h0 h1, slice_from h0 (by rw [pad_length]; exact h1)]
  simp [pad, List.map_drop]
theorem two_cut2 {one ones other others : PySem.Str} (h : Two one ones other others) (s : Int) : pad (Txt.slice one none (some (s.fmod ((one.length : Int) + 1)))) ++ pad (Txt.slice other (some (s.fmod ((one.length : Int) + 1))) none) = pad one := by
  have q := cut_facts s one.length
  rw [pad_slice_to q.1 q.2, pad_slice_from q.1 (by rw [two_len h]; exact q.2), h.pads]
  exact slice_join q.1 (by rw [pad_length]; exact q.2)
theorem two_cut {one ones other others : PySem.Str} (h : Two one ones other others) (s : Int) : pad (Txt.slice one none (some (s.fmod ((one.length : Int) + 1))) ++ Txt.slice other (some (s.fmod ((one.length : Int) + 1))) none) = pad one := by
  rw [pad_append, two_cut2 h]
theorem pad_pad (x : PySem.Str) : pad (pad x) = pad x := by
  unfold pad
  congr 1
  simp
  intro c _
  unfold padc
  split
  · rfl
  · rfl
theorem item_tf {k : Int} (h : k.fmod 4 < 2) : (Txt.charAt (PySem.Str.ofString "\t\x0c") (k.fmod 4)).getD 0 = 9 ∨ (Txt.charAt (PySem.Str.ofString "\t\x0c") (k.fmod 4)).getD 0 = 12 := by
  have h1 := Int.fmod_nonneg_of_pos k (b := 4) (by decide)
  have h2 : k.fmod 4 = 0 ∨ k.fmod 4 = 1 := by omega
  rcases h2 with e | e <;> rw [e] <;> decide +kernel
theorem fm4 {k : Int} (h : ¬ k.fmod 4 < 2) : k.fmod 4 = 2 ∨ k.fmod 4 = 3 := by
  have h1 := Int.fmod_lt_of_pos k (b := 4) (by decide)
  omega
theorem near_pad (k : Int) : padc ((Txt.charAt (PySem.Str.ofString " ft\\\n\x0d\x0b\u0085\u00a0\u2028") (k.fmod 10)).getD 0) = 32 := by
  have h1 := Int.fmod_nonneg_of_pos k (b := 10) (by decide)
  have h2 := Int.fmod_lt_of_pos k (b := 10) (by decide)
  have h3 : k.fmod 10 = 0 ∨ k.fmod 10 = 1 ∨ k.fmod 10 = 2 ∨ k.fmod 10 = 3 ∨ k.fmod 10 = 4 ∨ k.fmod 10 = 5 ∨ k.fmod 10 = 6 ∨ k.fmod 10 = 7 ∨ k.fmod 10 = 8 ∨ k.fmod 10 = 9 := by omega
  rcases h3 with e | e | e | e | e | e | e | e | e | e <;> rw [e] <;> decide +kernel
abbrev TwoAt (pre : List Int) (one ones other others : PySem.Str) : Prop := Two one ones other others ∧ one.length = pre.length ∧ other.length = pre.length ∧ ones.length ≤ pre.length ∧ others.length ≤ pre.length ∧ one.length ≤ 68 ∧ other.length ≤ 68 ∧ ones.length ≤ 68 ∧ others.length ≤ 68
section
variable {w pre post : List Int} {n : Int} {one ones other others : PySem.Str} (hE : [3, 0, 7, 1, 2] ++ w = pre ++ n :: post) (hw : ¬ ((63 : Nat) : Int) < (w.length : Int)) (h : Two one ones other others) (h1 : one.length = pre.length) (h2 : other.length = pre.length) (h3 : ones.length ≤ pre.length) (h4 : others.length ≤ pre.length)
include hE hw h h1 h2 h3 h4
theorem two_turnA (hk : n.fmod 4 < 2) : TwoAt (pre ++ [n]) (one ++ Txt.item (PySem.Str.ofString "\t\x0c") (n.fmod 4)) ones (other ++ Txt.item (PySem.Str.ofString "\t\x0c") (n.fmod 4)) others := by
  have e := congrArg List.length hE
  simp only [List.length_append, List.length_cons, List.length_nil] at e
  have l1 : (Txt.item (PySem.Str.ofString "\t\x0c") (n.fmod 4)).length = 1 := rfl
  refine ⟨two_keep h (item_tf hk), ?_⟩
  simp only [PySem.Str.length_append, List.length_append, List.length_cons, List.length_nil, l1]
  omega
theorem two_turnB {a b : Nat} (ha : padc a = 32) (hb : padc b = 32) : TwoAt (pre ++ [n]) (one ++ (⟨#[a]⟩ : PySem.Str)) (ones ++ (⟨#[a]⟩ : PySem.Str)) (other ++ (⟨#[b]⟩ : PySem.Str)) (others ++ (⟨#[b]⟩ : PySem.Str)) := by
  have e := congrArg List.length hE
  simp only [List.length_append, List.length_cons, List.length_nil] at e
  have l1 : (⟨#[a]⟩ : PySem.Str).length = 1 := rfl
  have l2 : (⟨#[b]⟩ : PySem.Str).length = 1 := rfl
  refine ⟨two_sign h ha hb, ?_⟩
  simp only [PySem.Str.length_append, List.length_append, List.length_cons, List.length_nil, l1, l2]
  omega
theorem two_turnS : TwoAt (pre ++ [n]) (one ++ signOf (n.fdiv 4)) (ones ++ signOf (n.fdiv 4)) (other ++ Txt.item (PySem.Str.ofString " ft\\\n\x0d\x0b\u0085\u00a0\u2028") ((n.fdiv 4).fmod 10)) (others ++ Txt.item (PySem.Str.ofString " ft\\\n\x0d\x0b\u0085\u00a0\u2028") ((n.fdiv 4).fmod 10)) :=
  two_turnB hE hw h h1 h2 h3 h4 (padc_sign _) (near_pad _)
theorem two_turnR : TwoAt (pre ++ [n]) (one ++ Txt.item (PySem.Str.ofString " ft\\\n\x0d\x0b\u0085\u00a0\u2028") ((n.fdiv 4).fmod 10)) (ones ++ Txt.item (PySem.Str.ofString " ft\\\n\x0d\x0b\u0085\u00a0\u2028") ((n.fdiv 4).fmod 10)) (other ++ signOf (n.fdiv 4)) (others ++ signOf (n.fdiv 4)) :=
  two_turnB hE hw h h1 h2 h3 h4 (near_pad _) (padc_sign _)
end
theorem sign_use {prog : Program} {w : World} {K : Frag} {p : Program} {loose : List PySem.Str} {mean : ExcName → Option Value} {mg mb : PySem.Str → Option Value} {f : Addr} {n : Nat} {news : List (Addr × Obj)} {k : Int} {tk : Tok}
    {dp un : Nat} {gd : Option (List Code)} {cn : PySem.Str} {cs : Scope} {a : Addr} {ccd : Value} {cl : List (PySem.Str × Addr)} {outer : List Env} {A₀ : Around} {base h₀ : Heap} {L : Addr} {m : PySem.Str → Option Value} {s : Shared} {Q E : Value → Shared → Prop}
    (C : Cs prog w K p loose mean mg mb f n news True [.int k tk] (fun t => .str (signOf k) t)) (B : Below A₀ base outer h₀) (F : Fr h₀ L s.heap m) (X : K.In h₀) (N : News h₀ L s.heap news) (T : Top p loose mean mg mb h₀) (hk : cs.kind = .function) (hd : dp + n < recursionLimit) (hu : un + 8 * n < cLine)
    (ret : (signOf k).length = 1 → ∀ (t : Tok) (h' : Heap) (tk' : Nat), Fr h₀ L h' m → News h₀ L h' news → Q (.str (signOf k) t) { s with heap := h', toks := tk' }) :
    wpAny (model prog w) (ktrTop dp un gd cn cs L a ccd cl outer) (call (.ref f) [.int k tk]) Q E s := cs_use C B F X N T hk trivial hd hu (ret (sign_length k))
section
variable {prog : Program} {w : World} {A : Around} {E : Value → Shared → Prop} {s : Shared} {value slice : PySem.Expr} {l : Addr} {v0 v1 : Value} {i : Int} {u : Tok} {Q : Value → Shared → Prop}
theorem item2_0 (hl : s.heap.IsList l #[v0, v1]) (hi : i = 0) (h : Q v0 s)
    (hs : subscripted slice false (.ref l) (.int i u) = operate [.ref l, .int i u] (getItem (.ref l) (.int i u)) := by with_unfolding_all rfl) :
    wpAny (model prog w) A (subscriptTail value slice (.ref l) (.int i u)) Q E s :=
  tail_any hl.typeIs slot_list_getitem.lookup (wpAny_getItem_list hl (by omega) (by omega) (by subst hi; rfl) h) hs
theorem item2_1 (hl : s.heap.IsList l #[v0, v1]) (hi : i = 1) (h : Q v1 s)
    (hs : subscripted slice false (.ref l) (.int i u) = operate [.ref l, .int i u] (getItem (.ref l) (.int i u)) := by with_unfolding_all rfl) :
    wpAny (model prog w) A (subscriptTail value slice (.ref l) (.int i u)) Q E s :=
  tail_any hl.typeIs slot_list_getitem.lookup (wpAny_getItem_list hl (by omega) (by omega) (by subst hi; rfl) h) hs
end
theorem two_begin : TwoAt [] (PySem.Str.ofString "") (PySem.Str.ofString "") (PySem.Str.ofString "") (PySem.Str.ofString "") :=
  ⟨two_start, by decide +kernel, by decide +kernel, by decide +kernel, by decide +kernel, by decide +kernel, by decide +kernel, by decide +kernel, by decide +kernel⟩
open_top hd03 for PySem.Challenge.rw_dm0005_03
theorem pad_claim (w : World) (mean : ExcName → Option Value) (mg mb : PySem.Str → Option Value) (news : List (Addr × Obj)) (src : PySem.Str) (tk : Tok) :
    Cs Challenge.rw_dm0005_03.prog w (hd03.heap_39 w.params) hd03.view_39 (looseW hd03.view_39 []) mean mg mb 21 1 news (src.length ≤ 1048576) [.str src tk] (fun t => .str (pad src) t) := by
  w_top off
  k_fill
  dsimp only [Cs]; intros; rename_i hlen _ _ hret
  k_with_none
  k_with "pyIter str" => k_state (fun (pre : List Int) r => r = pad (KStt.txt pre) ∧ r.length = pre.length) "result"
  k_with "state" => first | exact pad_start | exact pad_keep (by assumption) (by assumption) (by assumption) | exact pad_blank (by assumption) (by assumption) (by assumption)
  refine wpAny_call ?_
  k_dflt cell_enter
  k_steps
  exact cb_retS hret (pad_done (by assumption)) (by k_asm) (by k_asm)
theorem sign_claim (w : World) (mean : ExcName → Option Value) (mg mb : PySem.Str → Option Value) (news : List (Addr × Obj)) (k : Int) (tk : Tok) :
    Cs Challenge.rw_dm0005_03.prog w (hd03.heap_39 w.params) hd03.view_39 (looseW hd03.view_39 []) mean mg mb 28 1 news True [.int k tk] (fun t => .str (signOf k) t) := by
  w_top off
  k_fill
  dsimp only [Cs]; intros; rename_i hret
  k_with_none
  refine wpAny_call ?_
  k_dflt cell_enter
  k_steps
  all_goals exact cb_retS hret (sign_is (by unfold signC; dsimp only; (repeat' split) <;> omega)) (by k_asm) (by k_asm)
local macro_rules | `(tactic| walk_at "MINE enter") => `(tactic| (
  (case kA => exact rfl); (case kF => exact rfl); (case kK => assumption); (case k1 => k_asm); (case k2 => k_asm); (case k3 => k_asm); (case k4 => k_asm); (case k5 => k_asm); (case k6 => k_is); (case k7 => k_is); (case k8 => ktr_room); (case k9 => exact BindsTo.of_eq rfl); (case c5 => decide); (case kB => exact locs rfl); (case c2 => exact rfl); (case c3 => exact rfl); (case c4 => exact rfl); k_whole; intro g' L' h' FG' F' N' B' X' T'; (try dsimp only); (try k_lift B'); (try k_fold)))
local macro_rules | `(tactic| walk_at "call type:list") => `(tactic| (
  k_here; (with_reducible show wpAny _ _ (call (Value.type _) [Value.str _ _]) _ _ _);
  (k_dflt (refine' list_text ?k1 ?k2 ?k3 ?k4 ?_; (case k1 => rfl); (case k2 => k_asm); (case k3 => k_asm); (case k4 => rw [sizeLine_eq]; omega))); intro D9 ys9 c9 h9 tk9 F9 N9 l9 S9; (try k_lt l9); (try dsimp only); (try k_fold)))
local macro_rules | `(tactic| walk_at "call builtin:list.pop") => `(tactic| (
  k_here; (with_reducible show wpAny _ _ (call (Value.builtin _) [Value.ref _, Value.int 0 _]) _ _ _);
  (have p9 := fill_more (by assumption) (by assumption) (by assumption) (by assumption));
  (obtain ⟨x9, t9, us9, xs9, e8, e9, S9⟩ := strs_cons (by assumption) p9); (subst e8); (subst e9); (clear p9); (have o9 := fill_one (by assumption));
  k_dflt (refine' pop_first ?F ?N ?U ?z ?_; (case F => k_asm); (case N => k_asm); (case U => k_upd); (case z => (simp only [List.length_cons] at *; rw [sizeLine_eq]; omega))); intro h9 F9 N9; (try simp only [List.nil_append, List.cons_append] at N9); (try dsimp only); (try k_fold)))
theorem fill_claim (w : World) (mean : ExcName → Option Value) (mg mb : PySem.Str → Option Value) (news : List (Addr × Obj)) (p y : PySem.Str) (tk tk2 : Tok) :
    Cs Challenge.rw_dm0005_03.prog w (hd03.heap_39 w.params) hd03.view_39 (looseW hd03.view_39 []) mean mg mb 35 1 news (p.length ≤ 1048576 ∧ y.length ≤ 1048576 ∧ (KStt.codes p).count 32 = y.length) [.str p tk, .str y tk2] (fun t => .str (fillF (signs y) (KStt.codes p)).1 t) := by
  w_top off
  k_fill
  dsimp only [Cs]; intros; rename_i hasks _ _ hret
  obtain ⟨hlen, hy, hc⟩ := hasks
  have hC : Txt.count p (PySem.Str.ofString " ") = (y.length : Int) := by rw [count_blank, hc]
  k_with_none
  k_with "pyIter str" => k_state (fun (pre : List Int) line rest => Filling y pre line rest ∧ line.length = pre.length ∧ rest.length ≤ y.length) "line" "rest$"
  k_with "state" => first | exact fill_all (fill_start _) | exact fill_all (fill_blank (by assumption) (by assumption)) | exact fill_all (fill_other (by assumption) (by assumption))
  refine wpAny_call ?_
  k_dflt (refine' code_def (binds := [(PySem.Str.ofString "padded", .str p tk), (PySem.Str.ofString "signs", .str y tk2)]) ?k1 ?k2 ?k3 ?k4 ?k5 ?kA ?kF ?kK ?k6 ?k7 ?k8 ?k9 ?kB ?_ ?c2 ?c3 ?c4 ?c5; walk_at "MINE enter")
  k_steps
  · exact absurd hC (by assumption)
  · exact cb_retS hret (fill_done (by assumption)) (by k_asm) (cb_drop (by k_asm) (fun p hp => .tail _ hp))
local macro_rules | `(tactic| walk_at "exec For Name BinOp cons nil") => `(tactic| (k_here; (rename Fr _ _ _ _ => lF'); (with_unfolding_all refine' For_invVF lF' ?k1 ?k2 ?_; (case k1 => exact rfl); (case k2 => exact rfl); k_whole)))
local macro_rules | `(tactic| walk_at "MINE call2") => `(tactic| (
  (case k1 => first | k_asm | ktn_no "MINE: the frames below");
  (case k2 => first | k_asm | ktn_no "MINE: the frame");
  (case k3 => first | k_asm | ktn_no "MINE: the written part");
  (case k4 => first | k_asm | ktn_no "MINE: the ledger");
  (case k5 => first | k_asm | ktn_no "MINE: the top's facts");
  (case kK => first | exact rfl | assumption | ktn_no "MINE: the caller is no def");
  (case kd => first | ktr_room | ktn_no "MINE: the frames' room");
  (case ku => first | ktr_units | ktn_no "MINE: the C units")))
local macro_rules | `(tactic| walk_at "MINE sign") => `(tactic| (
  k_here; (with_reducible show wpAny _ _ (call (Value.ref 28) [Value.int _ _]) _ _ _);
  (k_dflt (refine' sign_use (sign_claim _ _ _ _ _ _ _) ?k1 ?k2 ?k3 ?k4 ?k5 ?kK ?kd ?ku ?_; walk_at "MINE call2")); k_whole; intro l9 t9 h9 tk9 F9 N9; (try dsimp only); (try k_fold); (rcases fm4 (by assumption) with e9 | e9)))
local macro_rules | `(tactic| walk_at "MINE pair") => `(tactic| (
  k_here; (with_reducible show wpAny _ _ (subscriptTail (Expr.Name (PySem.Str.ofString "pair") _) _ (Value.ref _) (Value.int _ _)) _ _ _);
  (k_dflt (first | (refine' item2_0 ?k1 ?k2 ?_ ?k3; (case k2 => omega)) | (refine' item2_1 ?k1 ?k2 ?_ ?k3; (case k2 => omega))); (case k1 => exact News.isList (by k_asm) (by k_mem)); (case k3 => with_unfolding_all rfl)); (try dsimp only); (try k_fold)))
local macro_rules | `(tactic| walk_at "MINE pad") => `(tactic| (
  k_here; (with_reducible show wpAny _ _ (call (Value.ref 21) [Value.str _ _]) _ _ _);
  (k_dflt (refine' cs_use (pad_claim _ _ _ _ _ _ _) ?k1 ?k2 ?k3 ?k4 ?k5 ?kK ?kq ?kd ?ku ?_; (case kq => first | omega | ((simp only [pad_length]); omega)); walk_at "MINE call2")); k_whole; intro t9 h9 tk9 F9 N9; (try dsimp only); (first | rw [two_cut (by assumption) _] | rw [Two.pads (by assumption)] | rw [pad_pad] | skip); (try k_fold)))
local macro_rules | `(tactic| walk_at "MINE fill") => `(tactic| (
  k_here; (with_reducible show wpAny _ _ (call (Value.ref 35) [Value.str _ _, Value.str _ _]) _ _ _);
  (k_dflt (refine' cs_use (fill_claim _ _ _ _ _ _ _ _ _) ?k1 ?k2 ?k3 ?k4 ?k5 ?kK ?kq ?kd ?ku ?_; (case kq => (refine ⟨?_, ?_, ?_⟩; all_goals (first | exact Two.c1 (by assumption) | exact Two.c2 (by assumption) | omega | ((simp only [pad_length]); omega)))); walk_at "MINE call2")); k_whole; intro t9 h9 tk9 F9 N9; (try dsimp only); (first | rw [Two.f1 (by assumption)] | rw [Two.f2 (by assumption)]); (try dsimp only); (try k_fold)))
theorem addPads {prog : Program} {w : World} {A : Around} {E : Value → Shared → Prop} {s : Shared} {one ones other others : PySem.Str} {c : Int} {t u : Tok} {Q : Value → Shared → Prop} (h2 : Two one ones other others) (hn : one.length ≤ 68) (h : ∀ t' tk, Q (.str (pad one) t') { s with toks := tk }) :
    wpAny (model prog w) A (binaryOp .Add (.str (pad (Txt.slice one none (some (c.fmod ((one.length : Int) + 1))))) t) (.str (pad (Txt.slice other (some (c.fmod ((one.length : Int) + 1))) none)) u)) Q E s := by
  refine PyProof.Rows.add_str (fun t' tk => by rw [two_cut2 h2]; exact h t' tk) ?_
  rw [← PySem.Str.length_append, two_cut2 h2, pad_length, sizeLine_eq]; omega
local macro_rules | `(tactic| walk_at "MINE add") => `(tactic| (
  k_here; (with_reducible show wpAny _ _ (binaryOp Operator.Add (Value.str (pad _) _) (Value.str (pad _) _)) _ _ _);
  (k_dflt (refine addPads (by assumption) (by omega) ?_)); intro t9 k9; (try dsimp only); (try k_fold)))
theorem t03 : PySem.Challenge.rw_dm0005_03.Holds := by
  k_with_none
  k_with "pyIter ref" => k_state (fun (pre : List Int) one ones other others => TwoAt pre one ones other others) "one" "ones" "other" "others"
  k_with "state" => with_reducible (first | exact two_begin | exact two_turnA (by assumption) (by assumption) (by assumption) (by assumption) (by assumption) (by assumption) (by assumption) (by assumption) | exact two_turnS (by assumption) (by assumption) (by assumption) (by assumption) (by assumption) (by assumption) (by assumption) | exact two_turnR (by assumption) (by assumption) (by assumption) (by assumption) (by assumption) (by assumption) (by assumption))
  refine hd03 ?_
  k_go0; (all_goals try k_fold)
  repeat' (first | walk_at "MINE sign" | walk_at "MINE pair" | walk_at "MINE pad" | walk_at "MINE fill" | walk_at "MINE add" | ((fail_if_success (with_reducible show wpAny _ _ (call (Value.ref _) _) _ _ _)); (first | (k_unfold; (try dsimp only)) | (k_end; wrow_close) | (walk1; (all_goals (try dsimp only))) | (dsimp only; walk1; (all_goals (try dsimp only))) | (leave1; walk_say "STEP leave1"; try dsimp only))))
end Mine
theorem PySem.Challenge.cw_dm0005_03_holds : PySem.Challenge.rw_dm0005_03.Holds :=
  Mine.t03
