import PyProof.Rows.All
import Wide.All
import OpenK.AllK
import Wide.FinOn
import PySem.Challenge.RW_ew0006_01
open PySem PySem.W PyProof.Rows
set_option Elab.async false
set_option linter.unusedVariables false
namespace Mine
set_option maxRecDepth 100000
set_option maxHeartbeats 8000000
open_top hd for PySem.Challenge.rw_ew0006_01
end Mine
namespace Mine
def skipN : Int → List Nat → Nat
  | _, [] => 0
  | n, c :: r => if (c = 32 ∨ c = 9 ∨ c = 13) ∧ n ≠ 0 then 1 + skipN (n - 1) r else 0
def skipF (s : Str) (e n : Int) : Int := e + (skipN n (s.cps.toList.drop e.toNat) : Nat)
theorem len_list (x : Str) : x.length = x.cps.toList.length := by simp [Str.length]
theorem sl_in {x : Str} {n : Int} (h0 : 0 ≤ n) (h1 : n < x.length) : Txt.slice x (some n) (some (n + 1)) = ⟨#[x.cps.getD n.toNat 0]⟩ :=
  eq_of_beq (slice_one_closes (x := x) h0 h1)
theorem sl_out {x : Str} {n : Int} (h1 : (x.length : Int) ≤ n) : Txt.slice x (some n) (some (n + 1)) = ⟨#[]⟩ := by
  have hi : Builtin.Str.strSliceIndices (some n) (some (n + 1)) 1 x.length = [] := by
    have a1 : ¬ n < 0 := by omega
    have a2 : ¬ (n + 1 < 0) := by omega
    have e1 : max (0 : Int) (min n (x.length : Int)) = x.length := by omega
    have e2 : max (0 : Int) (min (n + 1) (x.length : Int)) = x.length := by omega
    simp [Builtin.Str.strSliceIndices, a1, a2, e1, e2, sliceRange]
  unfold Txt.slice
  rw [hi]
  split
  · next h =>
    simp only [List.length_nil, Bool.and_eq_true, beq_iff_eq] at h
    have h2 : x.cps.size = 0 := h.2.symm
    cases x with
    | mk c => simp at h2; simp [h2]
  · rfl
theorem drop_in {x : Str} {n : Int} (h0 : 0 ≤ n) (h1 : n < x.length) : x.cps.toList.drop n.toNat = x.cps.getD n.toNat 0 :: x.cps.toList.drop (n + 1).toNat := by
  have h2 : n.toNat < x.cps.toList.length := by
    have := len_list x
    omega
  rw [List.drop_eq_getElem_cons h2]
  have h3 : (n + 1).toNat = n.toNat + 1 := by omega
  rw [h3]
  congr 1
  have h4 : n.toNat < x.cps.size := by simpa using h2
  simp [Array.getD, h4]
theorem drop_out {x : Str} {n : Int} (h1 : (x.length : Int) ≤ n) : x.cps.toList.drop n.toNat = [] := by
  apply List.drop_eq_nil_of_le
  have := len_list x
  omega
theorem os_empty : Str.ofString "" = ⟨#[]⟩ := by decide +kernel
theorem os_bl : Str.ofString " \t\x0d" = ⟨#[32, 9, 13]⟩ := by decide +kernel
theorem os_nl : Str.ofString "\n" = ⟨#[10]⟩ := by decide +kernel
theorem os_cr : Str.ofString "\x0d" = ⟨#[13]⟩ := by decide +kernel
theorem os_q : Str.ofString "'" = ⟨#[39]⟩ := by decide +kernel
theorem one_mem {c : Nat} : (!(Builtin.Str.occurrences (Str.ofString " \t\x0d") ⟨#[c]⟩ 0 (Str.ofString " \t\x0d").length 1).isEmpty) = decide (c = 32 ∨ c = 9 ∨ c = 13) := by
  rw [StrLaws.found_one, os_bl]
  rw [decide_eq_decide]
  simp
/-- what holds between the turns of skipIndent's while -/
def SkipI (sx : Str) (e n : Int) (e' n' : Int) (ch : Str) : Prop :=
  ch = Txt.slice sx (some e') (some (e' + 1)) ∧ 0 ≤ e' ∧ e' ≤ 1000000 ∧ -1000002 ≤ n' ∧ e' + n' = e + n ∧ skipF sx e' n' = skipF sx e n
theorem skip_start {sx : Str} {e n : Int} (h : 0 ≤ e ∧ e ≤ 1000000 ∧ sx.length ≤ 1000000 ∧ -1 ≤ n ∧ n ≤ 100) : SkipI sx e n e n (Txt.slice sx (some e) (some (e + 1))) :=
  ⟨rfl, h.1, h.2.1, by omega, rfl, rfl⟩
theorem skip_lt {sx : Str} {e n e' n' : Int} {ch : Str} (I : SkipI sx e n e' n' ch) (h : (ch != Str.ofString "") = true) : e' < sx.length := by
  obtain ⟨rfl, h0, _⟩ := I
  refine Int.not_le.mp fun hc => ?_
  rw [sl_out hc, os_empty] at h
  simp at h
theorem skip_turn {sx : Str} {e n e' n' : Int} {ch : Str} (hp : 0 ≤ e ∧ e ≤ 1000000 ∧ sx.length ≤ 1000000 ∧ -1 ≤ n ∧ n ≤ 100) (I : SkipI sx e n e' n' ch)
    (h : (ch != Str.ofString "") = true) (hb' : (Builtin.Str.occurrences (Str.ofString " \t\x0d") ch 0 (Str.ofString " \t\x0d").length 1).isEmpty = false) (hn : n' ≠ 0) :
    SkipI sx e n (e' + 1) (n' - 1) (Txt.slice sx (some (e' + 1)) (some (e' + 1 + 1))) := by
  have hl := skip_lt I h
  have hb : (!(Builtin.Str.occurrences (Str.ofString " \t\x0d") ch 0 (Str.ofString " \t\x0d").length 1).isEmpty) = true := by rw [hb']; rfl
  obtain ⟨rfl, h0, h1, h2, h3, h4⟩ := I
  rw [sl_in h0 hl, one_mem] at hb
  refine ⟨rfl, by omega, by omega, by omega, by omega, ?_⟩
  rw [← h4]
  unfold skipF
  rw [drop_in h0 hl, skipN]
  have hc := of_decide_eq_true hb
  rw [if_pos ⟨hc, hn⟩]
  omega
theorem skip_end1 {sx : Str} {e n e' n' : Int} {ch : Str} (I : SkipI sx e n e' n' ch) (h : (ch != Str.ofString "") = false) : e' = skipF sx e n := by
  obtain ⟨rfl, h0, h1, h2, h3, h4⟩ := I
  rw [← h4]
  have hl : (sx.length : Int) ≤ e' := by
    refine Int.not_lt.mp fun hc => ?_
    rw [sl_in h0 hc, os_empty] at h
    simp at h
  unfold skipF
  rw [drop_out hl]
  simp [skipN]
theorem skip_end2 {sx : Str} {e n e' n' : Int} {ch : Str} (I : SkipI sx e n e' n' ch) (h : (ch != Str.ofString "") = true) (hb' : (Builtin.Str.occurrences (Str.ofString " \t\x0d") ch 0 (Str.ofString " \t\x0d").length 1).isEmpty = true) : e' = skipF sx e n := by
  have hb : ¬ (!(Builtin.Str.occurrences (Str.ofString " \t\x0d") ch 0 (Str.ofString " \t\x0d").length 1).isEmpty) = true := by rw [hb']; simp
  have hl := skip_lt I h
  obtain ⟨rfl, h0, h1, h2, h3, h4⟩ := I
  rw [sl_in h0 hl, one_mem] at hb
  rw [← h4]
  unfold skipF
  rw [drop_in h0 hl, skipN, if_neg]
  · simp
  · intro hc
    exact hb (decide_eq_true hc.1)
theorem skip_end3 {sx : Str} {e n e' n' : Int} {ch : Str} (I : SkipI sx e n e' n' ch) (h : n' = 0) : e' = skipF sx e n := by
  obtain ⟨rfl, h0, h1, h2, h3, h4⟩ := I
  rw [← h4, h]
  unfold skipF
  cases sx.cps.toList.drop e'.toNat with
  | nil => simp [skipN]
  | cons c r => simp [skipN]
end Mine
namespace Mine
/-- one turn of mlscanstring's main loop a unit of fuel: (ind) the indent, then the rest of the text, the quotes seen, what is gathered -/
def scan (ind : Int) : Nat → List Nat → Nat → List Nat → Option (List Nat × List Nat)
  | 0, _, _, _ => none
  | _ + 1, [], _, _ => none
  | f + 1, c :: r, tr, acc =>
    if c = 39 then (if tr = 2 then some (if acc.getLast? = some 10 then acc.dropLast else acc, r) else scan ind f r (tr + 1) acc)
    else if c = 10 then scan ind f (r.drop (skipN ind r)) 0 (acc ++ List.replicate tr 39 ++ [10])
    else if c = 13 then scan ind f r 0 (acc ++ List.replicate tr 39)
    else scan ind f r 0 (acc ++ List.replicate tr 39 ++ [c])
/-- where the main loop starts -/
def startAt (sx : Str) (e c : Int) : Int :=
  if sx.cps.getD (skipF sx (e + 3) (-1)).toNat 0 = 10 then skipF sx (skipF sx (e + 3) (-1) + 1) c else skipF sx (e + 3) (-1)
structure MLOk (sx : Str) (e c : Int) (R : Str) (p : Int) : Prop where
  e0 : 0 ≤ e ∧ c + 1 ≤ e ∧ e + 3 ≤ sx.length
  size : sx.length ≤ 100000
  c0 : 0 ≤ c ∧ c ≤ 100
  back : ∀ i : Int, 0 ≤ i → i < c → sx.cps.getD (e - i - 1).toNat 0 ≠ 10
  nl : sx.cps.getD (e - c - 1).toNat 0 = 10
  q : e + 3 ≤ skipF sx (e + 3) (-1) ∧ skipF sx (e + 3) (-1) < sx.length
  go : ∃ f after, scan c f (sx.cps.toList.drop (startAt sx e c).toNat) 0 [] = some (R.cps.toList, after) ∧ p = sx.length - after.length
/-- between the turns of the main loop -/
def ScanI (sx : Str) (c : Int) (R : Str) (p : Int) (e' tr : Int) (str : Str) : Prop :=
  0 ≤ e' ∧ e' ≤ sx.length ∧ 0 ≤ tr ∧ tr ≤ 2 ∧ str.length + tr ≤ e' ∧ ∃ f after, scan c f (sx.cps.toList.drop e'.toNat) tr.toNat str.cps.toList = some (R.cps.toList, after) ∧ p = sx.length - after.length
abbrev ScanP (sx : Str) (c : Int) (R : Str) (p : Int) (e' tr : Int) (str : Str) : Prop :=
  0 ≤ e' ∧ e' ≤ sx.length ∧ 0 ≤ tr ∧ tr ≤ 2 ∧ str.length + tr ≤ e' ∧ ScanI sx c R p e' tr str
theorem skipN_le : ∀ (l : List Nat) (n : Int), skipN n l ≤ l.length
  | [], _ => by simp [skipN]
  | c :: r, n => by
    unfold skipN
    split
    · have := skipN_le r (n - 1); simp; omega
    · omega
theorem skipF_bounds (sx : Str) (e n : Int) : 0 ≤ e → e ≤ sx.length → e ≤ skipF sx e n ∧ skipF sx e n ≤ sx.length := by
  intro h0 h1
  unfold skipF
  have h2 := skipN_le (sx.cps.toList.drop e.toNat) n
  have h3 := len_list sx
  simp only [List.length_drop] at h2
  omega
theorem ScanP.of {sx : Str} {c : Int} {R : Str} {p e' tr : Int} {str : Str} (I : ScanI sx c R p e' tr str) : ScanP sx c R p e' tr str :=
  ⟨I.1, I.2.1, I.2.2.1, I.2.2.2.1, I.2.2.2.2.1, I⟩
theorem item_eq {x : Str} {i : Int} (h0 : 0 ≤ i) (h1 : i < x.length) : (Txt.item x i == Str.ofString "\n") = decide (x.cps.getD i.toNat 0 = 10) := by
  rw [item_at h0 h1 rfl, os_nl, Bool.eq_iff_iff, beq_iff_eq, decide_eq_true_eq]
  simp
theorem sl_eq {x : Str} {n : Int} (k : Nat) (h0 : 0 ≤ n) : (Txt.slice x (some n) (some (n + 1)) == ⟨#[k]⟩) = decide (n < x.length ∧ x.cps.getD n.toNat 0 = k) := by
  rw [Bool.eq_iff_iff, beq_iff_eq, decide_eq_true_eq]
  by_cases h : n < x.length
  · rw [sl_in h0 h]; simp [h]
  · rw [sl_out (by omega)]; simp [h]
theorem sl_empty {x : Str} {n : Int} (h0 : 0 ≤ n) : (Txt.slice x (some n) (some (n + 1)) == Str.ofString "") = decide (¬ n < x.length) := by
  rw [os_empty, Bool.eq_iff_iff, beq_iff_eq, decide_eq_true_eq]
  by_cases h : n < x.length
  · rw [sl_in h0 h]; simp [h]
  · rw [sl_out (by omega)]; simp [h]
section
variable {sx : Str} {e c : Int} {R : Str} {p : Int}
theorem ind_turn (ok : MLOk sx e c R p) {i : Int} (h0 : 0 ≤ i) (h1 : i ≤ c) (h : (Txt.item sx (e - i - 1) == Str.ofString "\n") = false) : 0 ≤ i + 1 ∧ i + 1 ≤ c := by
  have hE := ok.e0
  have hn := ok.nl
  refine ⟨by omega, ?_⟩
  refine Int.not_lt.mp fun hc => ?_
  have e1 : i = c := by omega
  rw [e1, item_eq (by omega) (by omega), hn] at h
  simp at h
theorem ind_stop (ok : MLOk sx e c R p) {i : Int} (h0 : 0 ≤ i) (h1 : i ≤ c) (h : (Txt.item sx (e - i - 1) == Str.ofString "\n") = true) : i = c := by
  have hE := ok.e0
  have hb := ok.back i h0
  rw [item_eq (by omega) (by omega)] at h
  have h2 := of_decide_eq_true h
  refine Int.not_lt.mp (fun hc => hb hc h2) |> fun h3 => by omega
theorem ind_less (ok : MLOk sx e c R p) {i : Int} (h0 : 0 ≤ i) (h1 : i ≤ c) (h : (Txt.item sx (e - i - 1) == Str.ofString "\n") = false) : (c - (i + 1)).toNat < (c - i).toNat := by
  have := (ind_turn ok h0 h1 h).2
  omega
theorem scan_start1 (ok : MLOk sx e c R p) {i : Int} (h0 : 0 ≤ i) (h1 : i ≤ c) (h : (Txt.item sx (e - i - 1) == Str.ofString "\n") = true)
    (h2 : (Txt.item sx (skipF sx (e + 3) (-1)) == Str.ofString "\n") = true) : ScanP sx c R p (skipF sx (skipF sx (e + 3) (-1) + 1) i) 0 (Str.ofString "") := by
  have hi := ind_stop ok h0 h1 h
  subst hi
  have hq := ok.q
  have hE := ok.e0
  rw [item_eq (by omega) (by omega), decide_eq_true_eq] at h2
  have hb := skipF_bounds sx (skipF sx (e + 3) (-1) + 1) i (by omega) (by omega)
  refine ScanP.of ⟨by omega, by omega, by omega, by omega, ?_, ?_⟩
  · rw [os_empty]; show ((0 : Nat) : Int) + 0 ≤ _; omega
  · have hg := ok.go
    unfold startAt at hg
    rw [if_pos h2] at hg
    rw [os_empty]
    exact hg
theorem scan_start2 (ok : MLOk sx e c R p) (h2 : (Txt.item sx (skipF sx (e + 3) (-1)) == Str.ofString "\n") = false) : ScanP sx c R p (skipF sx (e + 3) (-1)) 0 (Str.ofString "") := by
  have hq := ok.q
  have hE := ok.e0
  rw [item_eq (by omega) (by omega), decide_eq_false_iff_not] at h2
  refine ScanP.of ⟨by omega, by omega, by omega, by omega, ?_, ?_⟩
  · rw [os_empty]; show ((0 : Nat) : Int) + 0 ≤ _; omega
  · have hg := ok.go
    unfold startAt at hg
    rw [if_neg h2] at hg
    rw [os_empty]
    exact hg
variable {e' tr : Int} {str : Str}
theorem scan_lt (I : ScanI sx c R p e' tr str) : e' < sx.length := by
  obtain ⟨h0, h1, h2, h3, h4, f, after, h5, h6⟩ := I
  refine Int.not_le.mp fun hc => ?_
  rw [drop_out hc] at h5
  cases f <;> simp [scan] at h5
theorem scan_no_end (I : ScanI sx c R p e' tr str) (h : (Txt.slice sx (some e') (some (e' + 1)) == Str.ofString "") = true) : False := by
  have hl := scan_lt I
  rw [sl_empty I.1, decide_eq_true_eq] at h
  exact h hl
theorem scan_unf (I : ScanI sx c R p e' tr str) : ∃ f after, scan c (f + 1) (sx.cps.getD e'.toNat 0 :: sx.cps.toList.drop (e' + 1).toNat) tr.toNat str.cps.toList = some (R.cps.toList, after) ∧ p = sx.length - after.length := by
  have hl := scan_lt I
  obtain ⟨h0, h1, h2, h3, h4, f, after, h5, h6⟩ := I
  rw [drop_in h0 hl] at h5
  cases f with
  | zero => simp [scan] at h5
  | succ f => exact ⟨f, after, h5, h6⟩
theorem scan_quote (I : ScanI sx c R p e' tr str) (hq : (Txt.slice sx (some e') (some (e' + 1)) == Str.ofString "'") = true) (h3 : ¬ tr + 1 = 3) : ScanP sx c R p (e' + 1) (tr + 1) str := by
  obtain ⟨f, after, h5, h6⟩ := scan_unf I
  have hl := scan_lt I
  obtain ⟨h0, h1, h2, h3', h4, _⟩ := I
  rw [os_q, sl_eq 39 h0, decide_eq_true_eq] at hq
  rw [scan, if_pos hq.2, if_neg (by omega)] at h5
  refine ScanP.of ⟨by omega, by omega, by omega, by omega, by omega, f, after, ?_, h6⟩
  have ht : (tr + 1).toNat = tr.toNat + 1 := by omega
  rw [ht]
  exact h5
theorem scan_ret (I : ScanI sx c R p e' tr str) (hq : (Txt.slice sx (some e') (some (e' + 1)) == Str.ofString "'") = true) (h3 : tr + 1 = 3) :
    p = e' + 1 ∧ R.cps.toList = if str.cps.toList.getLast? = some 10 then str.cps.toList.dropLast else str.cps.toList := by
  obtain ⟨f, after, h5, h6⟩ := scan_unf I
  have hl := scan_lt I
  obtain ⟨h0, h1, h2, h3', h4, _⟩ := I
  rw [os_q, sl_eq 39 h0, decide_eq_true_eq] at hq
  rw [scan, if_pos hq.2, if_pos (by omega)] at h5
  simp only [Option.some.injEq, Prod.mk.injEq] at h5
  refine ⟨?_, h5.1.symm⟩
  rw [h6, ← h5.2]
  have := len_list sx
  simp only [List.length_drop]
  omega
theorem cps_app (a b : Str) : (a ++ b).cps.toList = a.cps.toList ++ b.cps.toList := by
  show (a.cps ++ b.cps).toList = _
  simp
theorem len_app (a b : Str) : (a ++ b).length = a.length + b.length := by
  rw [len_list, len_list, len_list, cps_app, List.length_append]
variable {str2 : Str} {tr2 : Int}
theorem scan_flush (hf : str2.cps.toList ++ List.replicate tr2.toNat 39 = str.cps.toList ++ List.replicate tr.toNat 39) (h1 : ¬ 0 < tr2) : str2.cps.toList = str.cps.toList ++ List.replicate tr.toNat 39 := by
  have : tr2.toNat = 0 := by omega
  rw [this] at hf
  simpa using hf
theorem scan_nl (I : ScanI sx c R p e' tr str) (hq : (Txt.slice sx (some e') (some (e' + 1)) == Str.ofString "'") = false) (hn : (Txt.slice sx (some e') (some (e' + 1)) == Str.ofString "\n") = true)
    (hf : str2.cps.toList ++ List.replicate tr2.toNat 39 = str.cps.toList ++ List.replicate tr.toNat 39) (h00 : 0 ≤ tr2) (h10 : ¬ 0 < tr2) {i : Int} (hi : i = c) :
    ScanP sx c R p (skipF sx (e' + 1) i) tr2 (str2 ++ Txt.slice sx (some e') (some (e' + 1))) := by
  have hf' := scan_flush hf h10
  obtain ⟨f, after, h5, h6⟩ := scan_unf I
  have hl := scan_lt I
  obtain ⟨h0, h1, h2, h3', h4, _⟩ := I
  rw [os_nl, sl_eq 10 h0, decide_eq_true_eq] at hn
  subst hi
  have hb := skipF_bounds sx (e' + 1) i (by omega) (by omega)
  rw [scan, if_neg (by omega), if_pos hn.2] at h5
  have hlen : str2.length = str.length + tr.toNat := by rw [len_list, len_list, hf']; simp
  have hs : (Txt.slice sx (some e') (some (e' + 1))) = ⟨#[10]⟩ := by rw [sl_in h0 hl, hn.2]
  refine ScanP.of ⟨by omega, by omega, by omega, by omega, ?_, f, after, ?_, h6⟩
  · rw [len_app, hs, hlen]
    show ((str.length + tr.toNat + 1 : Nat) : Int) + tr2 ≤ _
    omega
  · rw [cps_app, hf', hs]
    have ht : tr2.toNat = 0 := by omega
    rw [ht]
    have hd : sx.cps.toList.drop (skipF sx (e' + 1) i).toNat = (sx.cps.toList.drop (e' + 1).toNat).drop (skipN i (sx.cps.toList.drop (e' + 1).toNat)) := by
      rw [List.drop_drop]
      congr 1
      unfold skipF
      omega
    rw [hd]
    exact h5
theorem scan_cr (I : ScanI sx c R p e' tr str) (hq : (Txt.slice sx (some e') (some (e' + 1)) == Str.ofString "'") = false) (hn : (Txt.slice sx (some e') (some (e' + 1)) == Str.ofString "\n") = false) (hr : (Txt.slice sx (some e') (some (e' + 1)) != Str.ofString "\x0d") = false)
    (hf : str2.cps.toList ++ List.replicate tr2.toNat 39 = str.cps.toList ++ List.replicate tr.toNat 39) (h00 : 0 ≤ tr2) (h10 : ¬ 0 < tr2) :
    ScanP sx c R p (e' + 1) tr2 str2 := by
  have hf' := scan_flush hf h10
  obtain ⟨f, after, h5, h6⟩ := scan_unf I
  have hl := scan_lt I
  obtain ⟨h0, h1, h2, h3', h4, _⟩ := I
  rw [bne, Bool.not_eq_false', os_cr, sl_eq 13 h0, decide_eq_true_eq] at hr
  rw [scan, if_neg (by omega), if_neg (by omega), if_pos hr.2] at h5
  have hlen : str2.length = str.length + tr.toNat := by rw [len_list, len_list, hf']; simp
  refine ScanP.of ⟨by omega, by omega, by omega, by omega, by omega, f, after, ?_, h6⟩
  rw [hf']
  have ht : tr2.toNat = 0 := by omega
  rw [ht]
  exact h5
theorem scan_else (I : ScanI sx c R p e' tr str) (hq : (Txt.slice sx (some e') (some (e' + 1)) == Str.ofString "'") = false) (hn : (Txt.slice sx (some e') (some (e' + 1)) == Str.ofString "\n") = false) (hr : (Txt.slice sx (some e') (some (e' + 1)) != Str.ofString "\x0d") = true)
    (hf : str2.cps.toList ++ List.replicate tr2.toNat 39 = str.cps.toList ++ List.replicate tr.toNat 39) (h00 : 0 ≤ tr2) (h10 : ¬ 0 < tr2) :
    ScanP sx c R p (e' + 1) tr2 (str2 ++ Txt.slice sx (some e') (some (e' + 1))) := by
  have hf' := scan_flush hf h10
  obtain ⟨f, after, h5, h6⟩ := scan_unf I
  have hl := scan_lt I
  obtain ⟨h0, h1, h2, h3', h4, _⟩ := I
  rw [bne, Bool.not_eq_true', os_cr, sl_eq 13 h0, decide_eq_false_iff_not] at hr
  rw [os_nl, sl_eq 10 h0, decide_eq_false_iff_not] at hn
  rw [os_q, sl_eq 39 h0, decide_eq_false_iff_not] at hq
  rw [scan, if_neg (fun h => hq ⟨hl, h⟩), if_neg (fun h => hn ⟨hl, h⟩), if_neg (fun h => hr ⟨hl, h⟩)] at h5
  have hlen : str2.length = str.length + tr.toNat := by rw [len_list, len_list, hf']; simp
  have hs : (Txt.slice sx (some e') (some (e' + 1))) = ⟨#[sx.cps.getD e'.toNat 0]⟩ := sl_in h0 hl
  refine ScanP.of ⟨by omega, by omega, by omega, by omega, ?_, f, after, ?_, h6⟩
  · rw [len_app, hs, hlen]
    show ((str.length + tr.toNat + 1 : Nat) : Int) + tr2 ≤ _
    omega
  · rw [cps_app, hf', hs]
    have ht : tr2.toNat = 0 := by omega
    rw [ht]
    exact h5
end
end Mine
namespace Mine
theorem inner_turn {str s0 : Str} {tr t0 : Int} (h0 : 0 ≤ tr) (h1 : 0 < tr) (hl : (str.length : Int) + tr = s0.length + t0) (hf : str.cps.toList ++ List.replicate tr.toNat 39 = s0.cps.toList ++ List.replicate t0.toNat 39) :
    0 ≤ tr - 1 ∧ ((str ++ Str.ofString "'").length : Int) + (tr - 1) = s0.length + t0 ∧ (str ++ Str.ofString "'").cps.toList ++ List.replicate (tr - 1).toNat 39 = s0.cps.toList ++ List.replicate t0.toNat 39 := by
  have h2 : (Str.ofString "'").length = 1 := by rw [os_q]; rfl
  refine ⟨by omega, by rw [len_app, h2]; omega, ?_⟩
  rw [cps_app, os_q, ← hf]
  have ht : tr.toNat = (tr - 1).toNat + 1 := by omega
  rw [ht, List.replicate_succ]
  simp
end Mine
namespace Mine
theorem skipF_ge (sx : Str) (e n : Int) : e ≤ skipF sx e n := by unfold skipF; omega
theorem scan_less {sx : Str} {c : Int} {R : Str} {p e' tr : Int} {str : Str} (I : ScanI sx c R p e' tr str) {x : Int} (h : e' + 1 ≤ x) : (sx.length - x).toNat < (sx.length - e').toNat := by
  have := scan_lt I
  omega
end Mine
namespace Mine
theorem str_ext {a b : Str} (h : a.cps.toList = b.cps.toList) : a = b := by
  cases a; cases b; simp only [Str.mk.injEq]; exact Array.toList_inj.mp h
theorem sl_to {x : Str} {j : Int} (h0 : 0 ≤ j) (h1 : j ≤ x.length) : (Txt.slice x none (some j)).cps.toList = x.cps.toList.take j.toNat := by
  have h := eq_of_beq (slice_closes_toL (x := x) h0 h1)
  rw [h]
  simp
theorem sl_from {x : Str} {i : Int} (h0 : 0 ≤ i) (h1 : i ≤ x.length) : (Txt.slice x (some i) none).cps.toList = x.cps.toList.drop i.toNat := by
  have h := slice_from_eq (x := x) h0 h1 rfl
  rw [h]
  have := len_list x
  simp only []
  rw [List.take_of_length_le]
  simp only [List.length_drop]
  omega
/-- the text less its last sign -/
theorem sl_less (x : Str) : (Txt.slice x none (some (-1))).cps.toList = x.cps.toList.dropLast := by
  rw [slice_to_neg (by omega), sl_to (by omega) (by omega), List.dropLast_eq_take]
  have := len_list x
  congr 1
  omega
/-- the text's last sign, if any -/
theorem sl_last (x : Str) : (Txt.slice x (some (-1)) none).cps.toList = x.cps.toList.drop (x.cps.toList.length - 1) := by
  rw [slice_from_neg (by omega), sl_from (by omega) (by omega)]
  have := len_list x
  congr 1
  omega
theorem item_last {x : Str} (h : (x.length : Int) ≠ 0) : (Txt.item x (-1) == Str.ofString "\n") = decide (x.cps.toList.getLast? = some 10) := by
  have hl := len_list x
  rw [eq_of_beq (item_closes_neg (x := x) (i := -1) (j := -1 + x.length) (by omega) (by omega) rfl), os_nl, Bool.eq_iff_iff, beq_iff_eq, decide_eq_true_eq]
  have e1 : (-1 + (x.length : Int)).toNat = x.cps.toList.length - 1 := by omega
  rw [e1, List.getLast?_eq_getElem?]
  have h2 : x.cps.toList.length - 1 < x.cps.toList.length := by omega
  rw [List.getElem?_eq_getElem h2]
  have h3 : x.cps.toList.length - 1 < x.cps.size := by simpa using h2
  simp [Array.getD]
  have h4 : x.cps.size - 1 < x.cps.size := by simpa using h3
  rw [dif_pos h4]
section
variable {sx : Str} {e c : Int} {R : Str} {p : Int} {e' tr : Int} {str : Str}
theorem ret1 (I : ScanI sx c R p e' tr str) (hq : (Txt.slice sx (some e') (some (e' + 1)) == Str.ofString "'") = true) (h3 : tr + 1 = 3)
    (h4 : (str.length : Int) ≠ 0) (h5 : (Txt.item str (-1) == Str.ofString "\n") = true) : Txt.slice str none (some (-1)) = R ∧ e' + 1 = p := by
  obtain ⟨hp, hR⟩ := scan_ret I hq h3
  rw [item_last h4, decide_eq_true_eq] at h5
  rw [if_pos h5] at hR
  exact ⟨str_ext (by rw [sl_less, hR]), hp.symm⟩
theorem ret2 (I : ScanI sx c R p e' tr str) (hq : (Txt.slice sx (some e') (some (e' + 1)) == Str.ofString "'") = true) (h3 : tr + 1 = 3)
    (h4 : (str.length : Int) ≠ 0) (h5 : (Txt.item str (-1) == Str.ofString "\n") = false) : str = R ∧ e' + 1 = p := by
  obtain ⟨hp, hR⟩ := scan_ret I hq h3
  rw [item_last h4, decide_eq_false_iff_not] at h5
  rw [if_neg h5] at hR
  exact ⟨str_ext hR.symm, hp.symm⟩
theorem ret3 (I : ScanI sx c R p e' tr str) (hq : (Txt.slice sx (some e') (some (e' + 1)) == Str.ofString "'") = true) (h3 : tr + 1 = 3)
    (h4 : (str.length : Int) = 0) : str = R ∧ e' + 1 = p := by
  obtain ⟨hp, hR⟩ := scan_ret I hq h3
  have h6 : str.cps.toList = [] := by
    have := len_list str
    exact List.eq_nil_of_length_eq_zero (by omega)
  rw [h6] at hR
  simp only [List.getLast?_nil] at hR
  refine ⟨str_ext (by rw [hR, h6]; rfl), hp.symm⟩
end
abbrev tupO (R : Str) (t1 : Tok) (p : Int) (t2 : Tok) : Obj := { cls := .type "tuple", data := .seq #[.str R t1, .int p t2] }
abbrev MLRet (h₀ : Heap) (L : Addr) (m : Str → Option Value) (news : List (Addr × Obj)) (s : Shared) (Q : Value → Shared → Prop) (R : Str) (p : Int) : Prop :=
  ∀ (x : Addr) (t1 t2 : Tok) (h' : Heap) (tk' : Nat), Fr h₀ L h' m → News h₀ L h' ((x, tupO R t1 p t2) :: news) → (∀ q ∈ news, q.1 < x) → Q (.ref x) { s with heap := h', toks := tk' }
theorem ml_end {h₀ h' : Heap} {L : Addr} {m : Str → Option Value} {news : List (Addr × Obj)} {s : Shared} {Q : Value → Shared → Prop} {R R' : Str} {p p' : Int} {x : Addr} {t1 t2 : Tok} {tk' : Nat} (hret : MLRet h₀ L m news s Q R p) (he : R' = R ∧ p' = p)
    (F : Fr h₀ L h' m) (N : News h₀ L h' ((x, tupO R' t1 p' t2) :: news)) (l : ∀ q ∈ news, q.1 < x) : Q (.ref x) { s with heap := h', toks := tk' } := by
  obtain ⟨rfl, rfl⟩ := he
  exact hret x t1 t2 h' tk' F N l
end Mine
namespace Mine
set_option maxRecDepth 100000 in
set_option maxHeartbeats 8000000 in
theorem skip_spec (w : World) (loose : List Str) (mean : ExcName → Option Value) (mg mb : Str → Option Value) (news : List (Addr × Obj)) (sx : Str) (t : Tok) (e : Int) (te : Tok) (n : Int) (tn : Tok) :
    CbClaim PySem.Challenge.rw_ew0006_01.row.prog w (Mine.hd.heap_39 w.params) Mine.hd.view_39 loose mean mg mb 59 news [] (0 ≤ e ∧ e ≤ 1000000 ∧ sx.length ≤ 1000000 ∧ -1 ≤ n ∧ n ≤ 100) [.str sx t, .int e te, .int n tn] (fun t => .int (skipF sx e n) t) := by
  k_fill
  dsimp only [CbClaim, CbLists, CbRet]
  intro dp un gd cn cs a ccd cl outer A₀ base h₀ L m s Q E B F X N T hk hpre hd hu hret
  have hpre' := hpre
  have cbI : CbIn 59 := CbIn.mk
  k_with "exec While BoolOp cons nil" => k_while (fun _ e' n' ch => SkipI sx e n e' n' ch) (fun _ e' _ _ => (sx.length - e').toNat) "end" "n" "ch"
  k_with "state" => first | exact skip_start hpre' | exact skip_turn hpre' (by assumption) (by assumption) (by assumption) (by omega)
  k_with "measure" => ((have hL := skip_lt (by assumption) (by assumption)); omega)
  refine wpAny_call ?_
  w_strict (k_dflt cell_enter; k_steps; all_goals (refine cb_retI hret ?_ (by assumption) (by assumption); first | exact skip_end1 (by assumption) (by assumption) | exact skip_end2 (by assumption) (by assumption) (by assumption) | exact skip_end3 (by assumption) (by omega)))
end Mine
namespace Mine
set_option maxRecDepth 100000 in
set_option maxHeartbeats 100000000 in
theorem ml_spec (w : World) (loose : List Str) (mean : ExcName → Option Value) (mg mb : Str → Option Value) (news : List (Addr × Obj)) (sx : Str) (t : Tok) (e : Int) (te : Tok) (c : Int) (R : Str) (p : Int) (ok : MLOk sx e c R p)
    (dp un : Nat) (gd : Option (List Code)) (cn : Str) (cs : Scope) (a : Addr) (ccd : Value) (cl : List (Str × Addr)) (outer : List Env) (A₀ : Around) (base h₀ : Heap) (L : Addr) (m : Str → Option Value) (s : Shared) (Q E : Value → Shared → Prop)
    (B : Below A₀ base outer h₀) (F : Fr h₀ L s.heap m) (X : (Mine.hd.heap_39 w.params).In h₀) (N : News h₀ L s.heap news) (T : Top Mine.hd.view_39 loose mean mg mb h₀) (hk : cs.kind = .function) (hd : dp + 2 < recursionLimit) (hu : un + 16 < cLine)
    (hret : MLRet h₀ L m news s Q R p) :
    wpAny (model PySem.Challenge.rw_ew0006_01.row.prog w) (ktrTop dp un gd cn cs L a ccd cl outer) (call (.ref 66) [.str sx t, .int e te]) Q E s := by
  revert X; k_fill; intro X
  have Cb : CbC 59 0 (∀ (news : List (Addr × Obj)) (sx : Str) (t : Tok) (e : Int) (te : Tok) (n : Int) (tn : Tok), CbClaim PySem.Challenge.rw_ew0006_01.row.prog w (Mine.hd.heap_39 w.params) Mine.hd.view_39 loose mean mg mb 59 news [] (0 ≤ e ∧ e ≤ 1000000 ∧ sx.length ≤ 1000000 ∧ -1 ≤ n ∧ n ≤ 100) [.str sx t, .int e te, .int n tn] (fun t => .int (skipF sx e n) t)) := skip_spec w loose mean mg mb
  have hE0 := ok.e0
  have hSz := ok.size
  have hC0 := ok.c0
  have hq := ok.q
  k_with "call ref" => k_call_by "skipIndent" skipF (fun (s : Str) (e n : Int) => 0 ≤ e ∧ e ≤ 1000000 ∧ s.length ≤ 1000000 ∧ -1 ≤ n ∧ n ≤ 100)
  k_with "exec While Constant cons nil" => first
    | ((with_reducible show wpAny _ _ (exec (Stmt.While _ (Stmt.Assign _ (Expr.Subscript _ (Expr.BinOp _ _ _ _) _) _ :: _) _ _) _) _ _ _); k_while (fun _ i => 0 ≤ i ∧ i ≤ c) (fun _ i => (c - i).toNat) "indent")
    | k_while (fun _ e' tr str => 0 ≤ e' ∧ e' ≤ sx.length ∧ 0 ≤ tr ∧ tr ≤ 2 ∧ str.length + tr ≤ e' ∧ ScanI sx c R p e' tr str) (fun _ e' _ _ => (sx.length - e').toNat) "end" "triple" "string"
  k_with "state" => first
    | exact ind_turn ok (by assumption) (by assumption) (by assumption)
    | exact inner_turn (by assumption) (by assumption) (by assumption) (by assumption)
    | exact scan_start1 ok (by assumption) (by assumption) (by assumption) (by assumption)
    | exact scan_start2 ok (by assumption)
    | exact scan_quote (by assumption) (by assumption) (by assumption)
    | exact scan_nl (by assumption) (by assumption) (by assumption) (by assumption) (by assumption) (by assumption) (ind_stop ok (by assumption) (by assumption) (by assumption))
    | exact scan_cr (by assumption) (by assumption) (by assumption) (by assumption) (by assumption) (by assumption) (by assumption)
    | exact scan_else (by assumption) (by assumption) (by assumption) (by assumption) (by assumption) (by assumption) (by assumption)
  k_with "measure" => first
    | exact ind_less ok (by assumption) (by assumption) (by assumption)
    | exact scan_less (by assumption) (by first | exact Int.le_refl _ | exact skipF_ge _ _ _)
    | omega
  k_with "exec Raise some none" => exact absurd (scan_no_end (by assumption) (by assumption)) (by trivial)
  k_with "exec While Compare cons nil" => k_while_given ["string!", "triple!"] (fun (s0 : Str) (t0 : Int) _ str tr => 0 ≤ tr ∧ str.length + tr = s0.length + t0 ∧ str.cps.toList ++ List.replicate tr.toNat 39 = s0.cps.toList ++ List.replicate t0.toNat 39) (fun _ _ _ _ tr => tr.toNat) "string" "triple"
  refine wpAny_call ?_
  w_strict (k_dflt cell_enter; k_steps; all_goals (refine ml_end hret ?_ (by assumption) (by assumption) (by assumption); first | exact ret1 (by assumption) (by assumption) (by assumption) (by assumption) (by assumption) | exact ret2 (by assumption) (by assumption) (by assumption) (by assumption) (by assumption) | exact ret3 (by assumption) (by assumption) (by assumption) (by assumption)))
theorem ml_use {w : World} {loose : List Str} {mean : ExcName → Option Value} {mg mb : Str → Option Value} {news : List (Addr × Obj)} {sx : Str} {t : Tok} {e : Int} {te : Tok} {c : Int} {R : Str} {p : Int}
    {dp un : Nat} {gd : Option (List Code)} {cn : Str} {cs : Scope} {a : Addr} {ccd : Value} {cl : List (Str × Addr)} {outer : List Env} {A₀ : Around} {base h₀ : Heap} {L : Addr} {m : Str → Option Value} {s : Shared} {Q E : Value → Shared → Prop} (ok : MLOk sx e c R p)
    (B : Below A₀ base outer h₀) (F : Fr h₀ L s.heap m) (X : (Mine.hd.heap_39 w.params).In h₀) (N : News h₀ L s.heap news) (T : Top Mine.hd.view_39 loose mean mg mb h₀) (hk : cs.kind = .function) (hd : dp + 2 < recursionLimit) (hu : un + 16 < cLine)
    (hret : MLRet h₀ L m news s Q R p) :
    wpAny (model PySem.Challenge.rw_ew0006_01.row.prog w) (ktrTop dp un gd cn cs L a ccd cl outer) (call (.ref 66) [.str sx t, .int e te]) Q E s :=
  ml_spec w loose mean mg mb news sx t e te c R p ok dp un gd cn cs a ccd cl outer A₀ base h₀ L m s Q E B F X N T hk hd hu hret
end Mine
namespace Mine
def blanksOf (n : Int) : List Nat := if (n.fdiv 48).fmod 2 = 0 then List.replicate ((n.fdiv 8).fmod 6).toNat 32 else List.replicate ((n.fdiv 8).fmod 3).toNat 9 ++ [32]
def words : List (List Nat) := [[], [97], [98, 39, 99], [39, 39], [100, 32, 32], [39, 101], [34, 102, 34], [35, 103, 44, 32, 93]]
def wordOf (n : Int) : List Nat := words.getD (n.fmod 8).toNat []
def bodyOf (E : List Nat) (ns : List Int) : List Nat := ns.flatMap fun n => blanksOf n ++ wordOf n ++ E
def lineOf (c : Nat) (n : Int) : List Nat := (blanksOf n).drop c ++ wordOf n
def sameL : List Nat := [111, 110, 32, 116, 104, 101, 32, 115, 97, 109, 101, 32, 108, 105, 110, 101]
/-- the main loop ends so from here -/
def Sc (c : Int) (l : List Nat) (tr : Nat) (acc : List Nat) (res : List Nat × List Nat) : Prop := ∃ f, scan c f l tr acc = some res
section
variable {c : Int} {r : List Nat} {tr : Nat} {acc : List Nat} {res : List Nat × List Nat}
theorem Sc.quote (h2 : tr ≠ 2) (h : Sc c r (tr + 1) acc res) : Sc c (39 :: r) tr acc res := by
  obtain ⟨f, h⟩ := h
  exact ⟨f + 1, by rw [scan, if_pos rfl, if_neg h2]; exact h⟩
theorem Sc.fin : Sc c (39 :: r) 2 acc (if acc.getLast? = some 10 then acc.dropLast else acc, r) := ⟨1, by rw [scan, if_pos rfl, if_pos rfl]⟩
theorem Sc.nl (h : Sc c (r.drop (skipN c r)) 0 (acc ++ List.replicate tr 39 ++ [10]) res) : Sc c (10 :: r) tr acc res := by
  obtain ⟨f, h⟩ := h
  exact ⟨f + 1, by rw [scan, if_neg (by decide), if_pos rfl]; exact h⟩
theorem Sc.cr (h : Sc c r 0 (acc ++ List.replicate tr 39) res) : Sc c (13 :: r) tr acc res := by
  obtain ⟨f, h⟩ := h
  exact ⟨f + 1, by rw [scan, if_neg (by decide), if_neg (by decide), if_pos rfl]; exact h⟩
theorem Sc.ch {x : Nat} (h1 : x ≠ 39 ∧ x ≠ 10 ∧ x ≠ 13) (h : Sc c r 0 (acc ++ List.replicate tr 39 ++ [x]) res) : Sc c (x :: r) tr acc res := by
  obtain ⟨f, h⟩ := h
  exact ⟨f + 1, by rw [scan, if_neg h1.1, if_neg h1.2.1, if_neg h1.2.2]; exact h⟩
theorem Sc.plain : ∀ (l : List Nat) {acc : List Nat}, (∀ x ∈ l, x ≠ 39 ∧ x ≠ 10 ∧ x ≠ 13) → Sc c r 0 (acc ++ l) res → Sc c (l ++ r) 0 acc res
  | [], _, _, h => by simpa using h
  | x :: l, acc, hl, h => by
    refine Sc.ch (hl x (List.mem_cons_self ..)) ?_
    refine Sc.plain l (fun y hy => hl y (List.mem_cons_of_mem _ hy)) ?_
    simpa using h
end
def EndP (E : List Nat) : Prop := E = [10] ∨ E = [13, 10]
theorem Sc.end {c : Int} {r : List Nat} {tr : Nat} {acc E : List Nat} {res : List Nat × List Nat} (hE : EndP E) (h : Sc c (r.drop (skipN c r)) 0 (acc ++ List.replicate tr 39 ++ [10]) res) : Sc c (E ++ r) tr acc res := by
  rcases hE with rfl | rfl
  · exact Sc.nl h
  · refine Sc.cr (Sc.nl ?_)
    simpa using h
/-- a word of the law's, then the line's end -/
theorem Sc.word {c : Int} {r : List Nat} {acc E w : List Nat} {res : List Nat × List Nat} (hw : w ∈ words) (hE : EndP E) (h : Sc c (r.drop (skipN c r)) 0 (acc ++ w ++ [10]) res) : Sc c (w ++ (E ++ r)) 0 acc res := by
  simp only [words, List.mem_cons, List.not_mem_nil, or_false] at hw
  rcases hw with rfl | rfl | rfl | rfl | rfl | rfl | rfl | rfl
  all_goals simp only [List.cons_append, List.nil_append]
  · exact Sc.end hE (by simpa using h)
  · exact Sc.ch (by decide) (Sc.end hE (by simpa using h))
  · exact Sc.ch (by decide) (Sc.quote (by decide) (Sc.ch (by decide) (Sc.end hE (by simpa using h))))
  · exact Sc.quote (by decide) (Sc.quote (by decide) (Sc.end hE (by simpa using h)))
  · exact Sc.ch (by decide) (Sc.ch (by decide) (Sc.ch (by decide) (Sc.end hE (by simpa using h))))
  · exact Sc.quote (by decide) (Sc.ch (by decide) (Sc.end hE (by simpa using h)))
  · exact Sc.ch (by decide) (Sc.ch (by decide) (Sc.ch (by decide) (Sc.end hE (by simpa using h))))
  · exact Sc.ch (by decide) (Sc.ch (by decide) (Sc.ch (by decide) (Sc.ch (by decide) (Sc.ch (by decide) (Sc.end hE (by simpa using h))))))
theorem word_mem (n : Int) : wordOf n ∈ words := by
  have h0 : 0 ≤ n.fmod 8 := Int.fmod_nonneg_of_pos _ (by decide)
  have h1 : n.fmod 8 < 8 := Int.fmod_lt_of_pos _ (by decide)
  unfold wordOf
  have h2 : (n.fmod 8).toNat < words.length := by show _ < 8; omega
  rw [List.getD_eq_getElem?_getD, List.getElem?_eq_getElem h2]
  exact List.getElem_mem h2
def Blank (l : List Nat) : Prop := ∀ x ∈ l, x = 32 ∨ x = 9
theorem blanks_blank (n : Int) : Blank (blanksOf n) := by
  intro x hx
  unfold blanksOf at hx
  split at hx
  · exact .inl (List.eq_of_mem_replicate hx)
  · rcases List.mem_append.mp hx with h | h
    · exact .inr (List.eq_of_mem_replicate h)
    · exact .inl (List.mem_singleton.mp h)
theorem Blank.plain {l : List Nat} (h : Blank l) : ∀ x ∈ l, x ≠ 39 ∧ x ≠ 10 ∧ x ≠ 13 := by
  intro x hx
  rcases h x hx with rfl | rfl <;> decide
theorem Blank.drop {l : List Nat} (h : Blank l) (k : Nat) : Blank (l.drop k) := fun x hx => h x (List.mem_of_mem_drop hx)
theorem skip_zero (l : List Nat) : skipN 0 l = 0 := by
  cases l <;> simp [skipN]
theorem skip_blank : ∀ (l : List Nat) (k : Nat) (z : List Nat), Blank l → (l ++ z).drop (skipN k (l ++ z)) = l.drop k ++ z.drop (skipN ((k - l.length : Nat) : Int) z)
  | [], k, z, _ => by simp
  | x :: l, 0, z, _ => by simp [skip_zero]
  | x :: l, k + 1, z, h => by
    have hx := h x (List.mem_cons_self ..)
    have ih := skip_blank l k z (fun y hy => h y (List.mem_cons_of_mem _ hy))
    have e1 : ((k + 1 : Nat) : Int) - 1 = (k : Int) := by omega
    rw [List.cons_append, skipN, if_pos ⟨by omega, by omega⟩, e1, Nat.add_comm 1, List.drop_succ_cons, ih]
    have e2 : k + 1 - (x :: l).length = k - l.length := by simp only [List.length_cons]; omega
    rw [e2, List.drop_succ_cons]
theorem skip_stop {x : Nat} {r : List Nat} (n : Int) (h : ¬ (x = 32 ∨ x = 9 ∨ x = 13)) : skipN n (x :: r) = 0 := by
  rw [skipN, if_neg (fun a => h a.1)]
theorem word_head {w : List Nat} (hw : w ∈ words) : w = [] ∨ ∃ x l, w = x :: l ∧ ¬ (x = 32 ∨ x = 9 ∨ x = 13) := by
  simp only [words, List.mem_cons, List.not_mem_nil, or_false] at hw
  rcases hw with rfl | rfl | rfl | rfl | rfl | rfl | rfl | rfl
  · exact .inl rfl
  all_goals exact .inr ⟨_, _, rfl, by decide⟩
/-- one line -/
theorem Sc.line {k : Nat} {r acc E b w : List Nat} {res : List Nat × List Nat} (hb : Blank b) (hw : w ∈ words) (hE : EndP E) (h : Sc k (r.drop (skipN k r)) 0 (acc ++ (b.drop k ++ w) ++ [10]) res) :
    Sc k ((b ++ w ++ E ++ r).drop (skipN k (b ++ w ++ E ++ r))) 0 acc res := by
  have e : b ++ w ++ E ++ r = b ++ (w ++ (E ++ r)) := by simp
  rw [e, skip_blank b k _ hb]
  refine Sc.plain _ (hb.drop k).plain ?_
  have h' : Sc k (r.drop (skipN k r)) 0 (acc ++ b.drop k ++ w ++ [10]) res := by simpa using h
  rcases word_head hw with rfl | ⟨x, l, rfl, hx⟩
  · rcases hE with rfl | rfl
    · rw [List.nil_append, List.cons_append, skip_stop _ (by decide)]
      exact Sc.word hw (.inl rfl) h'
    · generalize hm : k - b.length = m
      cases m with
      | zero =>
        rw [show ((0 : Nat) : Int) = 0 from rfl, skip_zero]
        exact Sc.word hw (.inr rfl) h'
      | succ m =>
        simp only [List.nil_append, List.cons_append]
        rw [skipN, if_pos ⟨by decide, by omega⟩, skip_stop _ (by decide)]
        exact Sc.word hw (.inl rfl) h'
  · rw [List.cons_append, skip_stop _ hx]
    exact Sc.word hw hE h'
/-- all lines, then what is behind -/
theorem Sc.body {k : Nat} {E : List Nat} {res : List Nat × List Nat} (hE : EndP E) {r : List Nat} : ∀ (ns : List Int) (acc : List Nat), Sc k (r.drop (skipN k r)) 0 (acc ++ ns.flatMap fun n => lineOf k n ++ [10]) res →
    Sc k ((bodyOf E ns ++ r).drop (skipN k (bodyOf E ns ++ r))) 0 acc res
  | [], acc, h => by simpa [bodyOf] using h
  | n :: ns, acc, h => by
    have e : bodyOf E (n :: ns) ++ r = blanksOf n ++ wordOf n ++ E ++ (bodyOf E ns ++ r) := by simp [bodyOf]
    rw [e]
    refine Sc.line (blanks_blank n) (word_mem n) hE ?_
    refine Sc.body hE ns _ ?_
    simpa [lineOf] using h
theorem skip_neg : ∀ (l : List Nat) (n : Int) (z : List Nat), Blank l → n < 0 → (l ++ z).drop (skipN n (l ++ z)) = z.drop (skipN (n - l.length) z)
  | [], n, z, _, _ => by simp
  | x :: l, n, z, h, hn => by
    have hx := h x (List.mem_cons_self ..)
    have ih := skip_neg l (n - 1) z (fun y hy => h y (List.mem_cons_of_mem _ hy)) (by omega)
    rw [List.cons_append, skipN, if_pos ⟨by omega, by omega⟩, Nat.add_comm 1, List.drop_succ_cons, ih]
    congr 2
    simp only [List.length_cons]
    omega
/-- the last line and the quotes -/
theorem Sc.last {k m : Nat} {acc : List Nat} : Sc k ((List.replicate m 32 ++ [39, 39, 39, 10, 125]).drop (skipN k (List.replicate m 32 ++ [39, 39, 39, 10, 125]))) 0 acc
    (if (acc ++ (List.replicate m 32).drop k).getLast? = some 10 then (acc ++ (List.replicate m 32).drop k).dropLast else (acc ++ (List.replicate m 32).drop k), [10, 125]) := by
  have hb : Blank (List.replicate m 32) := fun x hx => .inl (List.eq_of_mem_replicate hx)
  rw [skip_blank _ k _ hb, skip_stop _ (by decide), List.drop_zero]
  refine Sc.plain _ (hb.drop k).plain ?_
  exact Sc.quote (by decide) (Sc.quote (by decide) Sc.fin)
end Mine
namespace Mine
theorem st_str {M : Model} {A : Around} {env : Env} {nm x : Str} {t : Tok} {Q : Unit → Shared → Prop} {E : Value → Shared → Prop} {s : Shared} {P : Str → Prop} (hx : P x)
    (h : ∀ y, P y → wpAny M A (storeName env nm (.str y t)) Q E s) : wpAny M A (storeName env nm (.str x t)) Q E s := h x hx
abbrev ColP (C : Str) : Prop := C.length ≤ 4 ∧ 10 ∉ C.cps.toList
abbrev LeadP (C L : Str) : Prop := L.length ≤ 7 ∧ ∃ p0 : List Nat, L.cps.toList = p0 ++ 10 :: C.cps.toList
abbrev EndS (E : Str) : Prop := E.length ≤ 2 ∧ EndP E.cps.toList
abbrev HeadP (L T : Str) : Prop := T.length ≤ 12 ∧ ∃ gap : List Nat, Blank gap ∧ T.cps.toList = L.cps.toList ++ [39, 39, 39] ++ gap
abbrev BlP (n : Int) (B : Str) : Prop := B.length ≤ 5 ∧ B.cps.toList = blanksOf n
abbrev WordP (n : Int) (W : Str) : Prop := W.length ≤ 5 ∧ W.cps.toList = wordOf n
abbrev LastP (La : Str) : Prop := La.length ≤ 5 ∧ ∃ m : Nat, La.cps.toList = List.replicate m 32
theorem os1 : Str.ofString " " = ⟨#[32]⟩ := by decide +kernel
theorem os2 : Str.ofString "  " = ⟨#[32, 32]⟩ := by decide +kernel
theorem os3 : Str.ofString "\t " = ⟨#[9, 32]⟩ := by decide +kernel
theorem os4 : Str.ofString "k: " = ⟨#[107, 58, 32]⟩ := by decide +kernel
theorem os5 : Str.ofString "    " = ⟨#[32, 32, 32, 32]⟩ := by decide +kernel
theorem os6 : Str.ofString "{\n" = ⟨#[123, 10]⟩ := by decide +kernel
theorem os7 : Str.ofString "x\n\n" = ⟨#[120, 10, 10]⟩ := by decide +kernel
theorem os8 : Str.ofString "'''" = ⟨#[39, 39, 39]⟩ := by decide +kernel
theorem os9 : Str.ofString " \t" = ⟨#[32, 9]⟩ := by decide +kernel
theorem os10 : Str.ofString "\x0d\n" = ⟨#[13, 10]⟩ := by decide +kernel
theorem os11 : Str.ofString "on the same line" = ⟨#[111, 110, 32, 116, 104, 101, 32, 115, 97, 109, 101, 32, 108, 105, 110, 101]⟩ := by decide +kernel
theorem os12 : Str.ofString "\t" = ⟨#[9]⟩ := by decide +kernel
theorem os13 : Str.ofString "\n}" = ⟨#[10, 125]⟩ := by decide +kernel
theorem getD_mem {α : Type} (l : List α) (i : Nat) (d : α) : l.getD i d ∈ l ∨ l.getD i d = d := by
  rw [List.getD_eq_getElem?_getD]
  cases h : l[i]? with
  | none => exact .inr rfl
  | some x => exact .inl (List.mem_of_getElem? h)
theorem getD_in {α : Type} (l : List α) (i : Nat) (d : α) (h : i < l.length) : l.getD i d ∈ l := by
  rw [List.getD_eq_getElem?_getD, List.getElem?_eq_getElem h]
  exact List.getElem_mem h
theorem col_tab (i : Nat) : ColP ([Str.ofString "", Str.ofString " ", Str.ofString "  ", Str.ofString "\t ", Str.ofString "k: ", Str.ofString "    "].getD i Str.empty) := by
  rw [os_empty, os1, os2, os3, os4, os5]
  have h := getD_mem [(⟨#[]⟩ : Str), ⟨#[32]⟩, ⟨#[32, 32]⟩, ⟨#[9, 32]⟩, ⟨#[107, 58, 32]⟩, ⟨#[32, 32, 32, 32]⟩] i Str.empty
  generalize List.getD _ i Str.empty = x at h
  simp only [List.mem_cons, List.not_mem_nil, or_false] at h
  rcases h with (rfl | rfl | rfl | rfl | rfl | rfl) | rfl
  all_goals exact ⟨by decide, by decide⟩
theorem fmod_lt' (x : Int) (k : Nat) (hk : 0 < k) : (x.fmod k).toNat < k := by
  have h0 : 0 ≤ x.fmod k := Int.fmod_nonneg_of_pos _ (by omega)
  have h1 : x.fmod k < k := Int.fmod_lt_of_pos _ (by omega)
  omega
theorem lead_tab (x : Int) {C : Str} (hC : ColP C) : LeadP C ([Str.ofString "\n", Str.ofString "{\n", Str.ofString "x\n\n"].getD (x.fmod 3).toNat Str.empty ++ C) := by
  rw [os_nl, os6, os7]
  have h := getD_in [(⟨#[10]⟩ : Str), ⟨#[123, 10]⟩, ⟨#[120, 10, 10]⟩] (x.fmod 3).toNat Str.empty (fmod_lt' x 3 (by decide))
  generalize List.getD _ (x.fmod 3).toNat Str.empty = y at h
  simp only [List.mem_cons, List.not_mem_nil, or_false] at h
  have hl := hC.1
  rcases h with rfl | rfl | rfl
  · refine ⟨by rw [len_app]; show 1 + _ ≤ _; omega, [], by rw [cps_app]; rfl⟩
  · refine ⟨by rw [len_app]; show 2 + _ ≤ _; omega, [123], by rw [cps_app]; rfl⟩
  · refine ⟨by rw [len_app]; show 3 + _ ≤ _; omega, [120, 10], by rw [cps_app]; rfl⟩
theorem end_a : EndS (Str.ofString "\x0d\n") := by rw [os10]; exact ⟨by decide, .inr rfl⟩
theorem end_b : EndS (Str.ofString "\n") := by rw [os_nl]; exact ⟨by decide, .inl rfl⟩
theorem head_tab (i : Nat) {C L : Str} (hL : LeadP C L) : HeadP L (L ++ Str.ofString "'''" ++ [Str.ofString "", Str.ofString " ", Str.ofString " \t"].getD i Str.empty) := by
  rw [os_empty, os1, os8, os9]
  have h := getD_mem [(⟨#[]⟩ : Str), ⟨#[32]⟩, ⟨#[32, 9]⟩] i Str.empty
  generalize List.getD _ i Str.empty = y at h
  simp only [List.mem_cons, List.not_mem_nil, or_false] at h
  have hl := hL.1
  have hy : y.length ≤ 2 ∧ Blank y.cps.toList := by
    unfold Blank
    rcases h with (rfl | rfl | rfl) | rfl
    all_goals exact ⟨by decide, by decide⟩
  refine ⟨?_, y.cps.toList, hy.2, by rw [cps_app, cps_app]⟩
  rw [len_app, len_app]
  have h3 : (⟨#[39, 39, 39]⟩ : Str).length = 3 := rfl
  omega
/-- between the turns of the law's loop over the lines -/
def TxtI (C L E : Str) (pre : List Int) (text : Str) (lines : List Str) : Prop :=
  ∃ (gap : List Nat) (b : Bool), Blank gap ∧ text.cps.toList = L.cps.toList ++ [39, 39, 39] ++ gap ++ (if b then sameL else []) ++ E.cps.toList ++ bodyOf E.cps.toList pre ∧
    lines.map (·.cps.toList) = (if b then [sameL] else []) ++ pre.map (lineOf C.length)
abbrev TxtP (C L E : Str) (pre : List Int) (text : Str) (lines : List Str) : Prop :=
  pre.length ≤ 12 ∧ text.length ≤ 40 + 20 * pre.length ∧ lines.length ≤ 1 + pre.length ∧ TxtI C L E pre text lines
theorem txt_start1 {C L E T : Str} (hT : HeadP L T) (hE : EndS E) : TxtP C L E [] (T ++ (Str.ofString "on the same line" ++ E)) [Str.ofString "on the same line"] := by
  obtain ⟨hl, gap, hg, ht⟩ := hT
  have he := hE.1
  rw [os11]
  refine ⟨by decide, ?_, by decide, gap, true, hg, ?_, rfl⟩
  · rw [len_app, len_app]
    have h3 : (⟨#[111, 110, 32, 116, 104, 101, 32, 115, 97, 109, 101, 32, 108, 105, 110, 101]⟩ : Str).length = 16 := rfl
    simp only [List.length_nil]
    omega
  · rw [cps_app, cps_app, ht]
    simp [sameL, bodyOf]
theorem txt_start2 {C L E T : Str} (hT : HeadP L T) (hE : EndS E) : TxtP C L E [] (T ++ E) [] := by
  obtain ⟨hl, gap, hg, ht⟩ := hT
  have he := hE.1
  refine ⟨by decide, ?_, by decide, gap, false, hg, ?_, rfl⟩
  · rw [len_app]
    simp only [List.length_nil]
    omega
  · rw [cps_app, ht]
    simp [bodyOf]
theorem l8 : (Str.ofString "'''").length = 3 := by rw [os8]; rfl
theorem l1 : (Str.ofString " ").length = 1 := by rw [os1]; rfl
theorem l11 : (Str.ofString "on the same line").length = 16 := by rw [os11]; rfl
theorem l13 : (Str.ofString "\n}").length = 2 := by rw [os13]; rfl
theorem fmod_bd (x : Int) (k : Nat) (hk : 0 < k) : x.fmod k ≤ ((k - 1 : Nat) : Int) := by
  have h1 : x.fmod k < k := Int.fmod_lt_of_pos _ (by omega)
  omega
theorem l_sp (x : Int) : (Txt.mul (Str.ofString " ") (x.fmod 6)).length ≤ 5 := len_mul_one os1 (fmod_bd x 6 (by decide))
theorem l_tab (x : Int) : (Txt.mul (Str.ofString "\t") (x.fmod 3)).length ≤ 2 := len_mul_one os12 (fmod_bd x 3 (by decide))
theorem sz_tab (x : Int) : (Txt.mul (Str.ofString "\t") (x.fmod 3)).length + (Str.ofString " ").length ≤ sizeLine := by
  have h := l_tab x
  rw [l1, sizeLine_eq]
  omega
theorem bl1 {n : Int} (h : (n.fdiv 48).fmod 2 = 0) : BlP n (Txt.mul (Str.ofString " ") ((n.fdiv 8).fmod 6)) := by
  refine ⟨l_sp _, ?_⟩
  rw [os1, mul_one_list, blanksOf, if_pos h]
theorem bl2 {n : Int} (h : ¬ (n.fdiv 48).fmod 2 = 0) : BlP n (Txt.mul (Str.ofString "\t") ((n.fdiv 8).fmod 3) ++ Str.ofString " ") := by
  have h1 := l_tab (n.fdiv 8)
  refine ⟨by rw [len_app, l1]; omega, ?_⟩
  rw [cps_app, os12, mul_one_list, blanksOf, if_neg h, os1]
theorem last_ok (x : Int) : LastP (Txt.mul (Str.ofString " ") (x.fmod 6)) := by
  refine ⟨l_sp _, (x.fmod 6).toNat, ?_⟩
  rw [os1, mul_one_list]
theorem osw : [Str.ofString "", Str.ofString "a", Str.ofString "b'c", Str.ofString "''", Str.ofString "d  ", Str.ofString "'e", Str.ofString "\"f\"", Str.ofString "#g, ]"] = words.map fun w => ⟨w.toArray⟩ := by decide +kernel
theorem words_len : ∀ w ∈ words, w.length ≤ 5 := by decide
theorem word_tab (n : Int) : WordP n ([Str.ofString "", Str.ofString "a", Str.ofString "b'c", Str.ofString "''", Str.ofString "d  ", Str.ofString "'e", Str.ofString "\"f\"", Str.ofString "#g, ]"].getD (n.fmod 8).toNat Str.empty) := by
  rw [osw]
  have e : (words.map fun w => (⟨w.toArray⟩ : Str)).getD (n.fmod 8).toNat Str.empty = ⟨(wordOf n).toArray⟩ := by
    unfold wordOf
    have h2 : (n.fmod 8).toNat < words.length := fmod_lt' n 8 (by decide)
    rw [List.getD_eq_getElem?_getD, List.getD_eq_getElem?_getD, List.getElem?_map, List.getElem?_eq_getElem h2]
    rfl
  rw [e]
  refine ⟨?_, rfl⟩
  have := words_len _ (word_mem n)
  show (wordOf n).toArray.size ≤ 5
  simpa using this
theorem sl_min (B C : Str) : (Txt.slice B (some (if (B.length : Int) < (C.length : Int) then (B.length : Int) else (C.length : Int))) none).cps.toList = B.cps.toList.drop C.length := by
  have hl := len_list B
  by_cases h : (B.length : Int) < (C.length : Int)
  · rw [if_pos h, sl_from (by omega) (by omega)]
    rw [List.drop_eq_nil_of_le (by omega), List.drop_eq_nil_of_le (by omega)]
  · rw [if_neg h, sl_from (by omega) (by omega)]
    congr 1
theorem txt_turn {C L E text B W : Str} {lines : List Str} {pre : List Int} {n : Int} (h1 : pre.length + 1 ≤ 12) (h2 : text.length ≤ 40 + 20 * pre.length) (h3 : lines.length ≤ 1 + pre.length) (I : TxtI C L E pre text lines)
    (hB : BlP n B) (hW : WordP n W) (hE : EndS E) : TxtP C L E (pre ++ [n]) (text ++ (B ++ W ++ E)) (lines ++ [Txt.slice B (some (if (B.length : Int) < (C.length : Int) then (B.length : Int) else (C.length : Int))) none ++ W]) := by
  obtain ⟨gap, b, hg, ht, hls⟩ := I
  have hb1 := hB.1
  have hw1 := hW.1
  have he1 := hE.1
  refine ⟨by simpa using h1, ?_, by simp; omega, gap, b, hg, ?_, ?_⟩
  · rw [len_app, len_app, len_app, List.length_append, List.length_singleton]
    omega
  · rw [cps_app, cps_app, cps_app, ht, hB.2, hW.2]
    simp [bodyOf]
  · rw [List.map_append, hls]
    simp only [List.map_cons, List.map_nil, cps_app, sl_min B C, hB.2, hW.2, List.map_append, List.append_assoc, lineOf]
end Mine
namespace Mine
theorem blanks_len (n : Int) : (blanksOf n).length ≤ 5 := by
  unfold blanksOf
  split
  · have := fmod_lt' (n.fdiv 8) 6 (by decide)
    rw [List.length_replicate]
    simp only [Int.cast_ofNat_Int] at this
    omega
  · have := fmod_lt' (n.fdiv 8) 3 (by decide)
    rw [List.length_append, List.length_replicate, List.length_singleton]
    simp only [Int.cast_ofNat_Int] at this
    omega
theorem line_len (c : Nat) (n : Int) : (lineOf c n).length ≤ 10 := by
  have h1 := blanks_len n
  have h2 := words_len _ (word_mem n)
  unfold lineOf
  simp only [List.length_append, List.length_drop]
  omega
theorem lens_sum : ∀ (ls : List Str) (k : Nat), (∀ l ∈ ls.map (·.cps.toList), l.length ≤ k) → (ls.map (·.length)).sum ≤ k * ls.length
  | [], k, _ => by simp
  | l :: ls, k, h => by
    have h1 := h l.cps.toList (by simp)
    have h2 := lens_sum ls k (fun x hx => h x (by simp only [List.map_cons]; exact List.mem_cons_of_mem _ hx))
    have h3 := len_list l
    simp only [List.map_cons, List.sum_cons, List.length_cons, Nat.mul_succ]
    omega
theorem lines_le {C L E text : Str} {pre : List Int} {lines : List Str} (I : TxtI C L E pre text lines) : ∀ l ∈ lines.map (·.cps.toList), l.length ≤ 16 := by
  obtain ⟨gap, b, hg, ht, hls⟩ := I
  intro l hl
  rw [hls] at hl
  rcases List.mem_append.mp hl with h | h
  · cases b with
    | true => rw [if_pos rfl] at h; rw [List.mem_singleton.mp h]; decide
    | false => rw [if_neg (by decide)] at h; cases h
  · obtain ⟨n, _, rfl⟩ := List.mem_map.mp h
    have := line_len C.length n
    omega
theorem weight {C L E text z : Str} {pre : List Int} {lines : List Str} (I : TxtI C L E pre text lines) (h1 : pre.length ≤ 12) (h2 : lines.length ≤ 1 + pre.length) (hz : z.length ≤ 5) :
    ((lines ++ [z]).map (·.length)).sum + (lines ++ [z]).length ≤ 1048576 := by
  have h := lens_sum lines 16 (lines_le I)
  simp only [List.map_append, List.sum_append, List.map_cons, List.map_nil, List.sum_cons, List.sum_nil, List.length_append, List.length_singleton]
  omega
section
variable {prog : Program} {w : World} {A : Around} {E₀ : Value → Shared → Prop} {s : Shared} {h₀ : Heap} {L₀ D : Addr}
theorem join_mine {news : List (Addr × Obj)} {Q : Value → Shared → Prop} {vs : List Value} {z : Str} {tz t : Tok} {n : Nat} {C L E text : Str} {pre : List Int} {lines : List Str} (N : News h₀ L₀ s.heap news) (hm : (D, W.listOf (vs.toArray.push (.str z tz)) n) ∈ news)
    (hS : StrsAre vs lines) (I : TxtI C L E pre text lines) (h1 : pre.length ≤ 12) (h2 : lines.length ≤ 1 + pre.length) (hz : z.length ≤ 5)
    (h : ∀ t' k, Q (.str (Txt.join (Str.ofString "\n") (lines ++ [z])) t') { s with toks := k }) : wpAny (model prog w) A (call (.builtin "str.join") [.str (Str.ofString "\n") t, .ref D]) Q E₀ s := by
  have hl : s.heap.IsList D (vs.toArray.push (.str z tz)) := ⟨_, (N _ hm).1, rfl, n, rfl⟩
  refine join_listW hl ?_ (by decide +kernel) (weight I h1 h2 hz) h
  have e : (vs.toArray.push (Value.str z tz)).toList = vs ++ [.str z tz] := by simp
  rw [e]
  exact StrsAre.append' hS (.cons _ _ .nil)
end
theorem join_list_eq : ∀ (ls : List Str) (z : Str), (Str.join ⟨#[10]⟩ (ls ++ [z])).cps.toList = (ls.flatMap fun l => l.cps.toList ++ [10]) ++ z.cps.toList
  | [], z => by simp [Str.join]
  | [l], z => by
    show (l ++ ⟨#[10]⟩ ++ Str.join ⟨#[10]⟩ [z]).cps.toList = _
    rw [cps_app, cps_app]
    simp [Str.join]
  | l :: l2 :: ls, z => by
    have ih := join_list_eq (l2 :: ls) z
    show (l ++ ⟨#[10]⟩ ++ Str.join ⟨#[10]⟩ (l2 :: ls ++ [z])).cps.toList = _
    rw [cps_app, cps_app, ih]
    simp
abbrev WantP (lines : List Str) (z Y : Str) : Prop := Y.length ≤ 1000 ∧ Y.cps.toList = (lines.flatMap fun l => l.cps.toList ++ [10]) ++ z.cps.toList
theorem flat_len : ∀ (ls : List Str), (ls.flatMap fun l => l.cps.toList ++ [10]).length = (ls.map (·.length)).sum + ls.length
  | [] => rfl
  | l :: ls => by
    have h3 := len_list l
    simp only [List.flatMap_cons, List.length_append, flat_len ls, List.map_cons, List.sum_cons, List.length_cons, List.length_nil]
    omega
theorem want_ok {C L E text z : Str} {pre : List Int} {lines : List Str} (I : TxtI C L E pre text lines) (h1 : pre.length ≤ 12) (h2 : lines.length ≤ 1 + pre.length) (hz : z.length ≤ 5) : WantP lines z (Txt.join (Str.ofString "\n") (lines ++ [z])) := by
  have e : (Txt.join (Str.ofString "\n") (lines ++ [z])).cps.toList = (lines.flatMap fun l => l.cps.toList ++ [10]) ++ z.cps.toList := by
    rw [os_nl]
    show (Builtin.Str.glued _ _).cps.toList = _
    rw [StrLaws.glued_eq_join, join_list_eq]
  refine ⟨?_, e⟩
  rw [len_list, e, List.length_append, flat_len]
  have h := lens_sum lines 16 (lines_le I)
  have h3 := len_list z
  omega
theorem last_nl (Y : Str) : (Txt.slice Y (some (-1)) none == Str.ofString "\n") = decide (Y.cps.toList.getLast? = some 10) := by
  rw [os_nl, Bool.eq_iff_iff, beq_iff_eq, decide_eq_true_eq]
  have h := sl_last Y
  generalize Y.cps.toList = l at h
  have h2 : (Txt.slice Y (some (-1)) none = ⟨#[10]⟩) ↔ l.drop (l.length - 1) = [10] := by
    rw [← h]
    constructor
    · intro e; rw [e]
    · intro e; exact str_ext e
  rw [h2]
  rcases List.eq_nil_or_concat l with rfl | ⟨l', x, rfl⟩
  · simp
  · simp
theorem getD_list (x : Str) (n : Nat) : x.cps.getD n 0 = x.cps.toList.getD n 0 := by
  simp [Array.getD, List.getD_eq_getElem?_getD]
  split
  · next h => simp [h]
  · next h => simp [h]
end Mine
namespace Mine
theorem start_ok {sx : Str} {Lc G : List Nat} {k : Nat} (hs : sx.cps.toList = Lc ++ [39, 39, 39] ++ G) {e : Int} (he : e = Lc.length) {X : List Nat} {x : Nat} (hX : G.drop (skipN (-1) G) = x :: X) :
    e + 3 ≤ skipF sx (e + 3) (-1) ∧ skipF sx (e + 3) (-1) < sx.length ∧ sx.cps.toList.drop (startAt sx e k).toNat = if x = 10 then X.drop (skipN k X) else x :: X := by
  have hd : sx.cps.toList.drop (e + 3).toNat = G := by
    rw [hs]
    have e1 : (e + 3).toNat = (Lc ++ [39, 39, 39]).length := by simp; omega
    rw [e1, List.drop_left]
  have hP : skipF sx (e + 3) (-1) = e + 3 + (skipN (-1) G : Nat) := by unfold skipF; rw [hd]
  have hdP : sx.cps.toList.drop (skipF sx (e + 3) (-1)).toNat = x :: X := by
    have e2 : (skipF sx (e + 3) (-1)).toNat = (e + 3).toNat + skipN (-1) G := by rw [hP]; omega
    rw [e2, ← List.drop_drop, hd, hX]
  have hge : 0 ≤ skipF sx (e + 3) (-1) := by rw [hP]; omega
  have hlt : skipF sx (e + 3) (-1) < sx.length := by
    refine Int.not_le.mp fun hc => ?_
    rw [drop_out hc] at hdP
    cases hdP
  have hdi := drop_in hge hlt
  rw [hdP] at hdi
  obtain ⟨hx, hXX⟩ := List.cons.inj hdi
  refine ⟨by rw [hP]; omega, hlt, ?_⟩
  unfold startAt
  rw [← hx]
  by_cases h : x = 10
  · rw [if_pos h, if_pos h]
    have hF : ∀ P : Int, 0 ≤ P → X = sx.cps.toList.drop (P + 1).toNat → (skipF sx (P + 1) k).toNat = (P + 1).toNat + skipN k X := by
      intro P h0 hX'
      unfold skipF
      rw [← hX']
      omega
    rw [hF _ hge hXX, ← List.drop_drop, ← hXX]
  · rw [if_neg h, if_neg h, hdP]
theorem same_plain : ∀ x ∈ sameL, x ≠ 39 ∧ x ≠ 10 ∧ x ≠ 13 := by decide
/-- the whole text's run -/
theorem go_list {k m : Nat} {E gap : List Nat} {b : Bool} {pre : List Int} (hE : EndP E) (hg : Blank gap) :
    ∃ x X, (gap ++ (if b then sameL else []) ++ E ++ (bodyOf E pre ++ (List.replicate m 32 ++ [39, 39, 39, 10, 125]))).drop (skipN (-1) (gap ++ (if b then sameL else []) ++ E ++ (bodyOf E pre ++ (List.replicate m 32 ++ [39, 39, 39, 10, 125])))) = x :: X ∧
      ∀ Y : List Nat, Y = (if b then sameL ++ [10] else []) ++ (pre.flatMap fun n => lineOf k n ++ [10]) ++ (List.replicate m 32).drop k →
        Sc k (if x = 10 then X.drop (skipN k X) else x :: X) 0 [] (if Y.getLast? = some 10 then Y.dropLast else Y, [10, 125]) := by
  generalize hT : bodyOf E pre ++ (List.replicate m 32 ++ [39, 39, 39, 10, 125]) = TL
  have hbody : ∀ acc : List Nat, Sc k (TL.drop (skipN k TL)) 0 acc (if (acc ++ (pre.flatMap fun n => lineOf k n ++ [10]) ++ (List.replicate m 32).drop k).getLast? = some 10 then (acc ++ (pre.flatMap fun n => lineOf k n ++ [10]) ++ (List.replicate m 32).drop k).dropLast else acc ++ (pre.flatMap fun n => lineOf k n ++ [10]) ++ (List.replicate m 32).drop k, [10, 125]) := by
    intro acc
    rw [← hT]
    exact Sc.body hE pre acc Sc.last
  cases b with
  | true =>
    simp only [if_true]
    have e1 : gap ++ sameL ++ E ++ TL = gap ++ (sameL ++ (E ++ TL)) := by simp
    rw [e1, skip_neg gap (-1) _ hg (by decide)]
    refine ⟨111, [110, 32, 116, 104, 101, 32, 115, 97, 109, 101, 32, 108, 105, 110, 101] ++ (E ++ TL), ?_, ?_⟩
    · show List.drop (skipN _ (111 :: _)) (111 :: _) = _
      rw [skip_stop _ (by decide)]
      rfl
    · intro Y hY
      rw [if_neg (by decide)]
      subst hY
      show Sc k (sameL ++ (E ++ TL)) 0 [] _
      refine Sc.plain sameL same_plain (Sc.end hE ?_)
      have h := hbody (sameL ++ [10])
      simpa using h
  | false =>
    simp only [Bool.false_eq_true, if_false, List.append_nil, List.nil_append]
    have e1 : gap ++ E ++ TL = gap ++ (E ++ TL) := by simp
    rw [e1, skip_neg gap (-1) _ hg (by decide)]
    refine ⟨10, TL, ?_, ?_⟩
    · rcases hE with rfl | rfl
      · show List.drop (skipN _ (10 :: _)) (10 :: _) = _
        rw [skip_stop _ (by decide)]
        rfl
      · show List.drop (skipN _ (13 :: 10 :: _)) (13 :: 10 :: _) = _
        rw [skipN, if_pos ⟨by decide, by omega⟩, skip_stop _ (by decide)]
        rfl
    · intro Y hY
      rw [if_pos rfl]
      subst hY
      have h := hbody []
      simpa using h
theorem flat_map : ∀ (ls : List Str), (ls.flatMap fun l => l.cps.toList ++ [10]) = (ls.map (·.cps.toList)).flatMap (· ++ [10])
  | [] => rfl
  | l :: ls => by simp only [List.flatMap_cons, List.map_cons, flat_map ls]
theorem law_ok {C L E text Z Y R : Str} {lines : List Str} {pre : List Int} (hC : ColP C) (hL : LeadP C L) (hE : EndS E) (hZ : LastP Z) (h1 : pre.length ≤ 12) (h2 : text.length ≤ 40 + 20 * pre.length) (I : TxtI C L E pre text lines)
    (hY : WantP lines (Txt.slice Z (some (if (Z.length : Int) < (C.length : Int) then (Z.length : Int) else (C.length : Int))) none) Y)
    (hR : R.cps.toList = if Y.cps.toList.getLast? = some 10 then Y.cps.toList.dropLast else Y.cps.toList) :
    MLOk (text ++ (Z ++ Str.ofString "'''") ++ Str.ofString "\n}") L.length C.length R ((text ++ (Z ++ Str.ofString "'''")).length : Nat) := by
  obtain ⟨gap, b, hg, ht, hls⟩ := I
  obtain ⟨m, hm⟩ := hZ.2
  obtain ⟨p0, hp0⟩ := hL.2
  have hC1 := hC.1
  have hL1 := hL.1
  have hZ1 := hZ.1
  have hLl := len_list L
  have hCl := len_list C
  generalize hsx : text ++ (Z ++ Str.ofString "'''") ++ Str.ofString "\n}" = sx
  have hlen : sx.length = (text ++ (Z ++ Str.ofString "'''")).length + 2 := by rw [← hsx, len_app, l13]
  have hlen2 : (text ++ (Z ++ Str.ofString "'''")).length = text.length + Z.length + 3 := by rw [len_app, len_app, l8]; omega
  have hs : sx.cps.toList = L.cps.toList ++ [39, 39, 39] ++ (gap ++ (if b then sameL else []) ++ E.cps.toList ++ (bodyOf E.cps.toList pre ++ (List.replicate m 32 ++ [39, 39, 39, 10, 125]))) := by
    rw [← hsx, cps_app, cps_app, cps_app, ht, hm, os8, os13]
    simp
  obtain ⟨x, X, hX, hgo⟩ := go_list (k := C.length) (m := m) (E := E.cps.toList) (gap := gap) (b := b) (pre := pre) hE.2 hg
  obtain ⟨a1, a2, a3⟩ := start_ok (k := C.length) hs (e := L.length) (by omega) hX
  have hLen : L.cps.toList.length = p0.length + 1 + C.cps.toList.length := by rw [hp0]; simp; omega
  have hget : ∀ n : Nat, sx.cps.getD n 0 = (p0 ++ 10 :: (C.cps.toList ++ ([39, 39, 39] ++ (gap ++ (if b then sameL else []) ++ E.cps.toList ++ (bodyOf E.cps.toList pre ++ (List.replicate m 32 ++ [39, 39, 39, 10, 125])))))).getD n 0 := by
    intro n
    rw [getD_list, hs, hp0]
    simp
  have hall : L.cps.toList.length + 3 ≤ sx.cps.toList.length := by rw [hs]; simp
  have hsl := len_list sx
  refine ⟨⟨by omega, by omega, by omega⟩, by omega, ⟨by omega, by omega⟩, ?_, ?_, ⟨a1, a2⟩, ?_⟩
  · intro i h0 h3
    rw [hget]
    have e1 : ((L.length : Int) - i - 1).toNat = p0.length + ((C.cps.toList.length - 1 - i.toNat) + 1) := by omega
    rw [e1, List.getD_eq_getElem?_getD, List.getElem?_append_right (by omega), Nat.add_sub_cancel_left, List.getElem?_cons_succ]
    have h4 : C.cps.toList.length - 1 - i.toNat < C.cps.toList.length := by omega
    rw [List.getElem?_append_left h4, List.getElem?_eq_getElem h4]
    intro h5
    exact hC.2 (h5 ▸ List.getElem_mem h4)
  · rw [hget]
    have e1 : ((L.length : Int) - C.length - 1).toNat = p0.length + 0 := by omega
    rw [e1, List.getD_eq_getElem?_getD, List.getElem?_append_right (by omega), Nat.add_sub_cancel_left]
    rfl
  · have hYl : Y.cps.toList = (if b then sameL ++ [10] else []) ++ (pre.flatMap fun n => lineOf C.length n ++ [10]) ++ (List.replicate m 32).drop C.length := by
      rw [hY.2, flat_map, hls, sl_min, hm]
      cases b <;> simp [List.flatMap_map]
    obtain ⟨f, hf⟩ := hgo _ hYl
    refine ⟨f, [10, 125], ?_, ?_⟩
    · rw [a3, hf, hR]
    · rw [hlen]
      simp only [List.length_cons, List.length_nil]
      omega
theorem law_ok1 {C L E text Z Y : Str} {lines : List Str} {pre : List Int} (hC : ColP C) (hL : LeadP C L) (hE : EndS E) (hZ : LastP Z) (h1 : pre.length ≤ 12) (h2 : text.length ≤ 40 + 20 * pre.length) (I : TxtI C L E pre text lines)
    (hY : WantP lines (Txt.slice Z (some (if (Z.length : Int) < (C.length : Int) then (Z.length : Int) else (C.length : Int))) none) Y) (h : (Txt.slice Y (some (-1)) none == Str.ofString "\n") = true) :
    MLOk (text ++ (Z ++ Str.ofString "'''") ++ Str.ofString "\n}") L.length C.length (Txt.slice Y none (some (-1))) ((text ++ (Z ++ Str.ofString "'''")).length : Nat) := by
  rw [last_nl, decide_eq_true_eq] at h
  exact law_ok hC hL hE hZ h1 h2 I hY (by rw [if_pos h, sl_less])
theorem law_ok2 {C L E text Z Y : Str} {lines : List Str} {pre : List Int} (hC : ColP C) (hL : LeadP C L) (hE : EndS E) (hZ : LastP Z) (h1 : pre.length ≤ 12) (h2 : text.length ≤ 40 + 20 * pre.length) (I : TxtI C L E pre text lines)
    (hY : WantP lines (Txt.slice Z (some (if (Z.length : Int) < (C.length : Int) then (Z.length : Int) else (C.length : Int))) none) Y) (h : (Txt.slice Y (some (-1)) none == Str.ofString "\n") = false) :
    MLOk (text ++ (Z ++ Str.ofString "'''") ++ Str.ofString "\n}") L.length C.length Y ((text ++ (Z ++ Str.ofString "'''")).length : Nat) := by
  rw [last_nl, decide_eq_false_iff_not] at h
  exact law_ok hC hL hE hZ h1 h2 I hY (by rw [if_neg h])
theorem fit_txt {text Z : Str} {k : Nat} (h1 : k ≤ 12) (h2 : text.length ≤ 40 + 20 * k) (h3 : Z.length ≤ 5) : ¬ (((text ++ (Z ++ Str.ofString "'''")).length : Nat) : Int) ≥ 2 ^ 63 := by
  rw [len_app, len_app, l8]
  omega
section
variable {prog : Program} {w : World} {A : Around} {E : Value → Shared → Prop} {s : Shared}
theorem eq_str_self {x : Str} {t u : Tok} {Q : Value → Shared → Prop} (h : Q (.bool true) s) : wpAny (model prog w) A (compareOp .Eq (.str x t) (.str x u)) Q E s :=
  eq_str (by rw [beq_self_eq_true]; exact h)
theorem eq_int_self {x : Int} {t u : Tok} {Q : Value → Shared → Prop} (h : Q (.bool true) s) : wpAny (model prog w) A (compareOp .Eq (.int x t) (.int x u)) Q E s :=
  eq_int (by rw [beq_self_eq_true]; exact h)
end
end Mine
namespace Mine
local macro_rules | `(tactic| walk_at "storeName") => `(tactic| (k_here; (with_reducible show wpAny _ _ (storeName _ (PySem.Str.ofString "column") (Value.str (List.getD _ _ _) _)) _ _ _); refine st_str (P := ColP) (col_tab _) ?_; intro C9 hC9; (have hC9' := hC9.1)))
local macro_rules | `(tactic| walk_at "storeName") => `(tactic| (k_here; (with_reducible show wpAny _ _ (storeName _ (PySem.Str.ofString "lead") (Value.str (_ ++ _) _)) _ _ _); refine st_str (P := LeadP _) (lead_tab _ (by with_reducible assumption)) ?_; intro L9 hL9; (have hL9' := hL9.1)))
local macro_rules | `(tactic| walk_at "storeName") => `(tactic| (k_here; (with_reducible show wpAny _ _ (storeName _ (PySem.Str.ofString "line_end") (Value.str (PySem.Str.ofString _) _)) _ _ _); (first | refine st_str (P := EndS) end_a ?_ | refine st_str (P := EndS) end_b ?_); intro E9 hE9; (have hE9' := hE9.1)))
local macro_rules | `(tactic| walk_at "storeName") => `(tactic| (k_here; (with_reducible show wpAny _ _ (storeName _ (PySem.Str.ofString "text") (Value.str (_ ++ List.getD _ _ _) _)) _ _ _); refine st_str (P := HeadP _) (head_tab _ (by with_reducible assumption)) ?_; intro T9 hT9; (have hT9' := hT9.1)))
local macro_rules | `(tactic| walk_at "storeName") => `(tactic| (k_here; (first | ((with_reducible show wpAny _ _ (storeName _ (PySem.Str.ofString "blanks") (Value.str (Txt.mul _ _) _)) _ _ _); refine st_str (P := BlP _) (bl1 (by with_reducible assumption)) ?_) | ((with_reducible show wpAny _ _ (storeName _ (PySem.Str.ofString "blanks") (Value.str (_ ++ _) _)) _ _ _); refine st_str (P := BlP _) (bl2 (by with_reducible assumption)) ?_)); intro B9 hB9; (have hB9' := hB9.1)))
local macro_rules | `(tactic| walk_at "storeName") => `(tactic| (k_here; (with_reducible show wpAny _ _ (storeName _ (PySem.Str.ofString "word") (Value.str (List.getD _ _ _) _)) _ _ _); refine st_str (P := WordP _) (word_tab _) ?_; intro W9 hW9; (have hW9' := hW9.1)))
local macro_rules | `(tactic| walk_at "storeName") => `(tactic| (k_here; (with_reducible show wpAny _ _ (storeName _ (PySem.Str.ofString "last") (Value.str (Txt.mul _ _) _)) _ _ _); refine st_str (P := LastP) (last_ok _) ?_; intro Z9 hZ9; (have hZ9' := hZ9.1)))
local macro_rules | `(tactic| walk_at "binaryOp Add str str") => `(tactic| (k_here; (with_reducible show wpAny _ _ (binaryOp Operator.Add (Value.str _ _) (Value.str _ _)) _ _ _); (refine SB.add (hsz := ?hsz) ?_); (case hsz => first | exact sz_tab _ | (rw [sizeLine_eq]; (try simp only [len_app, l8, l11, l13]); omega)); intro _ _))
local macro_rules | `(tactic| walk_at "inplaceOp Add str str") => `(tactic| (k_here; (with_reducible show wpAny _ _ (inplaceOp Operator.Add (Value.str _ _) (Value.str _ _)) _ _ _); (refine SB.iadd (hsz := ?hsz) ?_); (case hsz => (rw [sizeLine_eq]; (try simp only [len_app, l8, l11, l13]); omega)); intro _ _))
local macro_rules | `(tactic| walk_at "callWith ref") => `(tactic| (k_here; k_dflt (refine' callWith_K ?k1 ?k2 ?_; (case k1 => k_asm); (case k2 => k_is); k_whole)))
local macro_rules | `(tactic| walk_at "callWith ref") => `(tactic| (k_here; k_dflt (refine' callWith_K0 ?k1 ?k2 ?_; (case k1 => exact Frag.In.keeps (by with_reducible assumption) (Fr.keep (by with_reducible assumption))); (case k2 => k_is); k_whole)))
local macro_rules | `(tactic| walk_at "call builtin:list.append") => `(tactic| (k_here; (with_reducible show wpAny _ _ (call (Value.builtin _) [Value.ref _, Value.str _ _]) _ _ _); k_dflt (refine' append_K ?k1 ?k2 ?k3 ?_ ?z; (case k1 => k_asm); (case k2 => k_asm); (case k3 => k_upd); (case z => first | decide | (simp only [List.size_toArray, sizeLine_eq]; omega)); k_whole); intro h' F' N'; (try k_sweep)))
local macro_rules | `(tactic| walk_at "call builtin:str.join") => `(tactic| (k_here; (with_reducible show wpAny _ _ (call (Value.builtin "str.join") [Value.str _ _, Value.ref _]) _ _ _); k_dflt (refine' join_mine ?N ?m ?S ?I ?a ?b ?c ?_; (case N => k_asm); (case m => k_mem); (case S => assumption); (case I => with_reducible assumption); (case a => with_reducible assumption); (case b => with_reducible assumption); (case c => omega); k_whole); intro _ _))
local macro_rules | `(tactic| walk_at "storeName") => `(tactic| (k_here; (with_reducible show wpAny _ _ (storeName _ (PySem.Str.ofString "wanted") (Value.str (Txt.join _ _) _)) _ _ _); refine st_str (P := WantP _ _) (want_ok (by with_reducible assumption) (by with_reducible assumption) (by with_reducible assumption) (by omega)) ?_; intro Y9 hY9; (have hY9' := hY9.1)))
local macro_rules | `(tactic| walk_at "call ref") => `(tactic| (k_here; (with_reducible show wpAny _ _ (call (Value.ref 66) _) _ _ _); k_dflt (refine' ml_use ?ok ?B ?F ?X ?N ?T ?hk ?hd ?hu ?_; (case ok => first | exact law_ok1 (by with_reducible assumption) (by with_reducible assumption) (by with_reducible assumption) (by with_reducible assumption) (by with_reducible assumption) (by with_reducible assumption) (by with_reducible assumption) (by with_reducible assumption) (by with_reducible assumption) | exact law_ok2 (by with_reducible assumption) (by with_reducible assumption) (by with_reducible assumption) (by with_reducible assumption) (by with_reducible assumption) (by with_reducible assumption) (by with_reducible assumption) (by with_reducible assumption) (by with_reducible assumption)); (case B => k_asm); (case F => k_asm); (case X => k_asm); (case N => k_asm); (case T => k_asm); (case hk => exact rfl); (case hd => ktr_room); (case hu => ktr_units); (intro x9 t9 u9 h9 k9 F9 N9 l9); (try k_lt l9); (try k_sweep); (try dsimp only); (try k_fold))))
local macro_rules | `(tactic| walk_at "call builtin:len") => `(tactic| (k_here; (with_reducible show wpAny _ _ (call (Value.builtin "len") [Value.str (_ ++ (_ ++ _)) _]) _ _ _); refine len_str (fit_txt (by with_reducible assumption) (by with_reducible assumption) (by with_reducible assumption)) ?_))
local macro_rules | `(tactic| walk_at "compareOp Eq str str") => `(tactic| (k_here; with_reducible refine eq_str_self ?_))
local macro_rules | `(tactic| walk_at "compareOp Eq int int") => `(tactic| (k_here; with_reducible refine eq_int_self ?_))
theorem post_true (ns : List Int) : (PySem.Challenge.rw_ew0006_01.row.claim).post [ofPy (PyData.list (List.map PyData.int ns))] (.bool true) [ofPy (PyData.list (List.map PyData.int ns))] = true := by
  first | rfl | wrow_post
local macro_rules | `(tactic| wrow_close) => `(tactic| (w_end; (show GoodW _ _ _ _ _ (Except.ok (Flow.ret (Value.bool true))) _); refine goodW_bool (by assumption) (by assumption) (raisesW_false ?_) ?_; (· wrow_none_raised); (· exact post_true _)))
set_option maxRecDepth 100000 in
set_option maxHeartbeats 8000000 in
theorem t3 : PySem.Challenge.rw_ew0006_01.Holds := by
  k_with "exec While Compare cons nil" => k_while (fun script numbers => numbers.length ≤ 12) (fun script numbers => 4 - numbers.length) "numbers"
  k_with "table" => skip
  k_with "pyIter ref" => k_state_given ["column", "lead", "line_end"] (fun (C L E : Str) pre text lines => TxtP C L E pre text lines) "text" "lines$"
  k_with "state" => first
    | exact txt_start1 (by with_reducible assumption) (by with_reducible assumption)
    | exact txt_start2 (by with_reducible assumption) (by with_reducible assumption)
    | exact txt_turn (by omega) (by with_reducible assumption) (by with_reducible assumption) (by with_reducible assumption) (by with_reducible assumption) (by with_reducible assumption) (by with_reducible assumption)
  refine Mine.hd ?_
  w_strict (k_go0; (all_goals try k_fold); k_steps)
end Mine
theorem PySem.Challenge.cw_ew0006_01_holds : PySem.Challenge.rw_ew0006_01.Holds := by
  exact Mine.t3
