import PyProof.Rows.All
import Wide.All
import OpenK.AllK
import Wide.FinOn
import PySem.Challenge.RW_ie0013_01
set_option Elab.async false
section
open PySem PySem.W PyProof.Rows
namespace Mine
/-- tokens never fall along a run -/
theorem wpAny_toks {α : Type} {M : Model} {A : Around} {t : Sem α} {Q : α → Shared → Prop} {E : Value → Shared → Prop} {s : Shared}
    (h : wpAny M A t (fun a s' => s.toks ≤ s'.toks → Q a s') (fun e s' => s.toks ≤ s'.toks → E e s') s) : wpAny M A t Q E s :=
  wpAny_with_toks (Nat.le_refl _) h
end Mine
end
section
open PySem PySem.W PyProof.Rows
namespace Mine
open PySem.Builtin PySem.Builtin.Str

def sub1 (c : Nat) (z : List Nat) (l : List Nat) : List Nat := l.flatMap fun k => if k = c then z else [k]
theorem sub1_append (c : Nat) (z a b : List Nat) : sub1 c z (a ++ b) = sub1 c z a ++ sub1 c z b := by simp [sub1]
theorem sub1_free (c : Nat) (z : List Nat) : ∀ l : List Nat, c ∉ l → sub1 c z l = l
  | [], _ => rfl
  | k :: r, h => by
    have h1 : ¬ k = c := fun e => h (e ▸ List.mem_cons_self ..)
    have h2 : c ∉ r := fun m => h (List.mem_cons_of_mem _ m)
    have ih := sub1_free c z r h2
    unfold sub1 at ih ⊢
    rw [List.flatMap_cons, if_neg h1, ih]
    rfl
theorem sub1_join (c : Nat) (z : Str) : ∀ parts : List Str, (∀ p ∈ parts, c ∉ p.cps.toList) → sub1 c z.cps.toList (Str.join ⟨#[c]⟩ parts).cps.toList = (Str.join z parts).cps.toList
  | [], _ => rfl
  | [p], h => sub1_free c _ _ (h p (List.mem_singleton.mpr rfl))
  | p :: q :: r, h => by
    have ih := sub1_join c z (q :: r) fun a ha => h a (List.mem_cons_of_mem _ ha)
    show sub1 c z.cps.toList (p ++ ⟨#[c]⟩ ++ Str.join ⟨#[c]⟩ (q :: r)).cps.toList = (p ++ z ++ Str.join z (q :: r)).cps.toList
    simp only [Str.cps_append, Array.toList_append]
    rw [sub1_append, sub1_append, ih, sub1_free c _ _ (h p (List.mem_cons_self ..))]
    simp [sub1]
theorem replace_list (x z : Str) (c : Nat) : (Txt.replace x ⟨#[c]⟩ z).cps.toList = sub1 c z.cps.toList x.cps.toList := by
  rw [StrLaws.replace_one, ← sub1_join c z _ (StrLaws.split_free x c), StrLaws.join_split]
theorem sub1_len (c : Nat) (z : List Nat) (n : Nat) (hz : z.length ≤ n) (hn : 1 ≤ n) : ∀ l : List Nat, (sub1 c z l).length ≤ n * l.length
  | [] => by simp [sub1]
  | k :: r => by
    have ih := sub1_len c z n hz hn r
    unfold sub1 at ih ⊢
    rw [List.flatMap_cons, List.length_append, List.length_cons, Nat.mul_succ]
    have : (if k = c then z else [k]).length ≤ n := by
      split
      · exact hz
      · exact hn
    omega
theorem replace_len (x z : Str) (c n m : Nat) (hz : z.length ≤ n) (hn : 1 ≤ n) (hm : n * x.length ≤ m) : (Txt.replace x ⟨#[c]⟩ z).length ≤ m := by
  have h := sub1_len c z.cps.toList n (by rw [Array.length_toList]; exact hz) hn x.cps.toList
  rw [← replace_list] at h
  simp only [Array.length_toList] at h
  exact Nat.le_trans h hm
theorem str_ext {a b : Str} (h : a.cps.toList = b.cps.toList) : a = b := Str.ext' (Array.toList_inj.mp h)
theorem replace_absent (x z : Str) (c : Nat) (h : (occurrences x ⟨#[c]⟩ 0 x.length 1).isEmpty = true) : Txt.replace x ⟨#[c]⟩ z = x := by
  have q := StrLaws.found_one x c
  rw [h] at q
  have q' : c ∉ x.cps.toList := by
    have := of_decide_eq_false q.symm
    exact this
  exact str_ext (by rw [replace_list, sub1_free c _ _ q'])
theorem absent_of (x : Str) (c : Nat) (h : c ∉ x.cps.toList) : (occurrences x ⟨#[c]⟩ 0 x.length 1).isEmpty = true := by
  have q := StrLaws.found_one x c
  rw [decide_eq_false h] at q
  simpa using q

theorem lAmp : Str.ofString "&" = ⟨#[38]⟩ := by decide +kernel
theorem lLt : Str.ofString "<" = ⟨#[60]⟩ := by decide +kernel
theorem lGt : Str.ofString ">" = ⟨#[62]⟩ := by decide +kernel
theorem lQuot : Str.ofString "\"" = ⟨#[34]⟩ := by decide +kernel
theorem lCr : Str.ofString "\x0d" = ⟨#[13]⟩ := by decide +kernel
theorem lNl : Str.ofString "\n" = ⟨#[10]⟩ := by decide +kernel
theorem lTab : Str.ofString "\t" = ⟨#[9]⟩ := by decide +kernel
theorem lA : Str.ofString "a" = ⟨#[97]⟩ := by decide +kernel
theorem lAmpE : Str.ofString "&amp;" = ⟨#[38, 97, 109, 112, 59]⟩ := by decide +kernel
theorem lLtE : Str.ofString "&lt;" = ⟨#[38, 108, 116, 59]⟩ := by decide +kernel
theorem lGtE : Str.ofString "&gt;" = ⟨#[38, 103, 116, 59]⟩ := by decide +kernel
theorem lNil : Str.ofString "" = ⟨#[]⟩ := by decide +kernel

def escCh (c : Nat) : List Nat := if c = 38 then [38, 97, 109, 112, 59] else if c = 60 then [38, 108, 116, 59] else if c = 62 then [38, 103, 116, 59] else [c]
def escL (l : List Nat) : List Nat := l.flatMap escCh
def escS (x : Str) : Str := ⟨(escL x.cps.toList).toArray⟩
theorem escS_list (x : Str) : (escS x).cps.toList = escL x.cps.toList := rfl

theorem subs3 : ∀ l : List Nat, sub1 62 [38, 103, 116, 59] (sub1 60 [38, 108, 116, 59] (sub1 38 [38, 97, 109, 112, 59] l)) = escL l
  | [] => rfl
  | k :: r => by
    have ih := subs3 r
    have e1 : sub1 38 [38, 97, 109, 112, 59] (k :: r) = (if k = 38 then [38, 97, 109, 112, 59] else [k]) ++ sub1 38 [38, 97, 109, 112, 59] r := by simp [sub1]
    have e2 : escL (k :: r) = escCh k ++ escL r := by simp [escL]
    rw [e1, sub1_append, sub1_append, ih, e2]
    congr 1
    unfold escCh
    by_cases h1 : k = 38
    · subst h1; rfl
    · by_cases h2 : k = 60
      · subst h2; rfl
      · by_cases h3 : k = 62
        · subst h3; rfl
        · simp [h1, h2, h3, sub1]
theorem escS_eq (x : Str) : Txt.replace (Txt.replace (Txt.replace x (Str.ofString "&") (Str.ofString "&amp;")) (Str.ofString "<") (Str.ofString "&lt;")) (Str.ofString ">") (Str.ofString "&gt;") = escS x := by
  rw [lAmp, lAmpE, lLt, lLtE, lGt, lGtE]
  refine str_ext ?_
  rw [replace_list, replace_list, replace_list, escS_list, ← subs3]
theorem escCh_len (c : Nat) : 1 ≤ (escCh c).length ∧ (escCh c).length ≤ 5 := by
  unfold escCh
  repeat' split
  all_goals simp
theorem escL_len : ∀ l : List Nat, (escL l).length ≤ 5 * l.length
  | [] => by simp [escL]
  | k :: r => by
    have ih := escL_len r
    have e2 : escL (k :: r) = escCh k ++ escL r := by simp [escL]
    have := (escCh_len k).2
    rw [e2, List.length_append, List.length_cons]
    omega
theorem escS_len (x : Str) : (escS x).length ≤ 5 * x.length := by
  have := escL_len x.cps.toList
  simpa [Str.length, escS] using this
end Mine
end
section
open PySem PySem.W PyProof.Rows
namespace Mine
open PySem.Builtin PySem.Builtin.Str

theorem slice_clamp (l u : Int) (len : Nat) (hl : 0 ≤ l) (hu : 0 ≤ u) : strSliceIndices (some l) (some u) 1 len = strSliceIndices (some (min l len)) (some (min u len)) 1 len := by
  have h1 : ¬ l < 0 := by omega
  have h2 : ¬ u < 0 := by omega
  have h3 : ¬ (min l (len : Int)) < 0 := by omega
  have h4 : ¬ (min u (len : Int)) < 0 := by omega
  have hp : (1 : Int) > 0 := by decide
  simp only [strSliceIndices, h1, h2, h3, h4, if_false, if_pos hp]
  have e1 : min (min l (len : Int)) (len : Int) = min l len := by omega
  have e2 : min (min u (len : Int)) (len : Int) = min u len := by omega
  rw [e1, e2]

theorem slice_list (x : Str) (i j : Int) (h0 : 0 ≤ i) (h1 : i ≤ j) : (Txt.slice x (some i) (some j)).cps.toList = (x.cps.toList.drop i.toNat).take (j - i).toNat := by
  have e : Txt.slice x (some i) (some j) = StrLaws.sliceText x (some (min i (x.length : Int))) (some (min j (x.length : Int))) := by
    show StrLaws.sliceText x (some i) (some j) = _
    unfold StrLaws.sliceText
    rw [slice_clamp i j x.length h0 (by omega)]
  have hL : x.cps.toList.length = x.length := by simp [Str.length]
  rw [e, StrLaws.sliceText_plain ⟨by omega, by omega, by rw [hL]; omega⟩]
  show (x.cps.toList.drop (min i (x.length : Int)).toNat).take (min j (x.length : Int) - min i (x.length : Int)).toNat = _
  by_cases hi : i ≤ x.length
  · have ei : (min i (x.length : Int)).toNat = i.toNat := by omega
    rw [ei]
    by_cases hj : j ≤ x.length
    · congr 1; omega
    · have hlen : (x.cps.toList.drop i.toNat).length = x.length - i.toNat := by rw [List.length_drop, hL]
      rw [List.take_of_length_le (by rw [hlen]; omega), List.take_of_length_le (by rw [hlen]; omega)]
  · have a1 : x.cps.toList.drop i.toNat = [] := List.drop_eq_nil_of_le (by rw [hL]; omega)
    have a2 : x.cps.toList.drop (min i (x.length : Int)).toNat = [] := List.drop_eq_nil_of_le (by rw [hL]; omega)
    rw [a1, a2]; simp

def readStep (l : List Nat) : List Nat × Nat :=
  if l.take 5 = [38, 97, 109, 112, 59] then ([38], 5) else if l.take 4 = [38, 108, 116, 59] then ([60], 4) else if l.take 4 = [38, 103, 116, 59] then ([62], 4) else (l.take 1, 1)
def readF : Nat → List Nat → List Nat
  | 0, _ => []
  | n + 1, l => if l = [] then [] else (readStep l).1 ++ readF n (l.drop (readStep l).2)
def readL (l : List Nat) : List Nat := readF l.length l
def readS (x : Str) : Str := ⟨(readL x.cps.toList).toArray⟩

theorem readStep_pos (l : List Nat) : 1 ≤ (readStep l).2 := by
  unfold readStep
  repeat' split
  all_goals simp
theorem readF_fuel : ∀ (n m : Nat) (l : List Nat), l.length ≤ n → l.length ≤ m → readF n l = readF m l
  | 0, 0, _, _, _ => rfl
  | 0, m + 1, l, h, _ => by
    have : l = [] := List.length_eq_zero_iff.mp (by omega)
    subst this; simp [readF]
  | n + 1, 0, l, _, h => by
    have : l = [] := List.length_eq_zero_iff.mp (by omega)
    subst this; simp [readF]
  | n + 1, m + 1, l, hn, hm => by
    unfold readF
    split
    · rfl
    · rename_i hne
      have hp := readStep_pos l
      have hl : 1 ≤ l.length := by
        cases l with
        | nil => exact absurd rfl hne
        | cons a r => simp
      rw [readF_fuel n m (l.drop (readStep l).2) (by rw [List.length_drop]; omega) (by rw [List.length_drop]; omega)]
theorem readL_nil : readL [] = [] := rfl
theorem readL_step (l : List Nat) (h : l ≠ []) : readL l = (readStep l).1 ++ readL (l.drop (readStep l).2) := by
  have hl : 1 ≤ l.length := by
    cases l with
    | nil => exact absurd rfl h
    | cons a r => simp
  have hp := readStep_pos l
  unfold readL
  obtain ⟨k, hk⟩ : ∃ k, l.length = k + 1 := ⟨l.length - 1, by omega⟩
  rw [hk]
  show (if l = [] then [] else (readStep l).1 ++ readF k (l.drop (readStep l).2)) = _
  rw [if_neg h, readF_fuel k (l.drop (readStep l).2).length _ (by rw [List.length_drop]; omega) (Nat.le_refl _)]

def rdInv (told found : Str) (here : Int) : Prop := 0 ≤ here ∧ here ≤ (told.length : Int) ∧ (found.length : Int) ≤ here ∧ found.cps.toList ++ readL (told.cps.toList.drop here.toNat) = readL told.cps.toList

theorem rd_start (a : Str) : rdInv a (Str.ofString "") 0 := by
  rw [lNil]
  refine ⟨by omega, by omega, ?_, ?_⟩
  · show ((0 : Nat) : Int) ≤ 0; omega
  · show [] ++ readL (a.cps.toList.drop (0 : Int).toNat) = _
    rfl

theorem rd_next {a fo x : Str} {he k : Int} (hI : rdInv a fo he) (hlt : he < a.length) (hk0 : 0 ≤ k) (hk : k.toNat = (readStep (a.cps.toList.drop he.toNat)).2) (hx : x.cps.toList = (readStep (a.cps.toList.drop he.toNat)).1) (hxk : (x.length : Int) ≤ k) (hin : he + k ≤ a.length) : rdInv a (fo ++ x) (he + k) := by
  obtain ⟨h1, h2, h3, h4⟩ := hI
  have hL : a.cps.toList.length = a.length := by simp [Str.length]
  refine ⟨by omega, hin, ?_, ?_⟩
  · rw [Str.length_append]; omega
  · rw [← h4, Str.cps_append, Array.toList_append, List.append_assoc]
    congr 1
    have hne : a.cps.toList.drop he.toNat ≠ [] := by
      intro e
      have := congrArg List.length e
      rw [List.length_drop, hL] at this
      simp at this
      omega
    rw [readL_step _ hne, hx, ← hk, List.drop_drop]
    congr 2
    congr 1
    omega

theorem slice_is {a : Str} {he k : Int} {t : Str} (h0 : 0 ≤ he) (hk : 0 ≤ k) (b : Bool) (m : (Txt.slice a (some he) (some (he + k)) == t) = b) : decide ((a.cps.toList.drop he.toNat).take k.toNat = t.cps.toList) = b := by
  have e := slice_list a he (he + k) h0 (by omega)
  have e2 : (he + k - he).toNat = k.toNat := by omega
  rw [e2] at e
  rw [← m, ← e]
  cases b with
  | true =>
    have := eq_of_beq m
    rw [this]; simp
  | false =>
    have hne : Txt.slice a (some he) (some (he + k)) ≠ t := by
      intro h; rw [h] at m; simp at m
    rw [m]
    apply decide_eq_false
    intro h; exact hne (str_ext h)

theorem take_len {l t : List Nat} {k : Nat} (h : l.take k = t) : t.length ≤ l.length := by
  rw [← h, List.length_take]; omega

theorem rd_amp {a fo : Str} {he : Int} (hI : rdInv a fo he) (hlt : he < a.length) (m : (Txt.slice a (some he) (some (he + 5)) == Str.ofString "&amp;") = true) : rdInv a (fo ++ Str.ofString "&") (he + 5) := by
  have q := of_decide_eq_true (slice_is hI.1 (by decide) true m)
  rw [lAmpE] at q
  change (a.cps.toList.drop he.toNat).take 5 = [38, 97, 109, 112, 59] at q
  have hs : readStep (a.cps.toList.drop he.toNat) = ([38], 5) := by unfold readStep; rw [if_pos q]
  have hlen := take_len q
  have hL : a.cps.toList.length = a.length := by simp [Str.length]
  rw [List.length_drop, hL] at hlen
  simp only [List.length_cons, List.length_nil] at hlen
  refine rd_next hI hlt (by decide) (by rw [hs]; rfl) (by rw [hs, lAmp]) (by rw [lAmp]; decide) ?_
  have := hI.1
  omega
theorem rd_lt {a fo : Str} {he : Int} (hI : rdInv a fo he) (hlt : he < a.length) (m5 : (Txt.slice a (some he) (some (he + 5)) == Str.ofString "&amp;") = false) (m : (Txt.slice a (some he) (some (he + 4)) == Str.ofString "&lt;") = true) : rdInv a (fo ++ Str.ofString "<") (he + 4) := by
  have q5 := of_decide_eq_false (slice_is hI.1 (by decide) false m5)
  have q := of_decide_eq_true (slice_is hI.1 (by decide) true m)
  rw [lAmpE] at q5
  change ¬ (a.cps.toList.drop he.toNat).take 5 = [38, 97, 109, 112, 59] at q5
  rw [lLtE] at q
  change (a.cps.toList.drop he.toNat).take 4 = [38, 108, 116, 59] at q
  have hs : readStep (a.cps.toList.drop he.toNat) = ([60], 4) := by unfold readStep; rw [if_neg q5, if_pos q]
  have hlen := take_len q
  have hL : a.cps.toList.length = a.length := by simp [Str.length]
  rw [List.length_drop, hL] at hlen
  simp only [List.length_cons, List.length_nil] at hlen
  refine rd_next hI hlt (by decide) (by rw [hs]; rfl) (by rw [hs, lLt]) (by rw [lLt]; decide) ?_
  have := hI.1
  omega
theorem rd_gt {a fo : Str} {he : Int} (hI : rdInv a fo he) (hlt : he < a.length) (m5 : (Txt.slice a (some he) (some (he + 5)) == Str.ofString "&amp;") = false) (ml : (Txt.slice a (some he) (some (he + 4)) == Str.ofString "&lt;") = false)
    (m : (Txt.slice a (some he) (some (he + 4)) == Str.ofString "&gt;") = true) : rdInv a (fo ++ Str.ofString ">") (he + 4) := by
  have q5 := of_decide_eq_false (slice_is hI.1 (by decide) false m5)
  have ql := of_decide_eq_false (slice_is hI.1 (by decide) false ml)
  have q := of_decide_eq_true (slice_is hI.1 (by decide) true m)
  rw [lAmpE] at q5
  change ¬ (a.cps.toList.drop he.toNat).take 5 = [38, 97, 109, 112, 59] at q5
  rw [lLtE] at ql
  change ¬ (a.cps.toList.drop he.toNat).take 4 = [38, 108, 116, 59] at ql
  rw [lGtE] at q
  change (a.cps.toList.drop he.toNat).take 4 = [38, 103, 116, 59] at q
  have hs : readStep (a.cps.toList.drop he.toNat) = ([62], 4) := by unfold readStep; rw [if_neg q5, if_neg ql, if_pos q]
  have hlen := take_len q
  have hL : a.cps.toList.length = a.length := by simp [Str.length]
  rw [List.length_drop, hL] at hlen
  simp only [List.length_cons, List.length_nil] at hlen
  refine rd_next hI hlt (by decide) (by rw [hs]; rfl) (by rw [hs, lGt]) (by rw [lGt]; decide) ?_
  have := hI.1
  omega
theorem item_list (x : Str) (i : Int) (h0 : 0 ≤ i) (h1 : i < x.length) : (Txt.item x i).cps.toList = (x.cps.toList.drop i.toNat).take 1 := by
  have hL : x.cps.toList.length = x.length := by simp [Str.length]
  have hlt : i.toNat < x.cps.toList.length := by rw [hL]; omega
  rw [List.drop_eq_getElem_cons hlt]
  have hc : x.cps[i.toNat]? = some x.cps.toList[i.toNat] := by
    rw [← Array.getElem?_toList]
    exact List.getElem?_eq_getElem hlt
  have hs : seqIndex? i x.length = some i.toNat := by
    unfold seqIndex?
    have : ¬ i < 0 := by omega
    simp [this]
    omega
  have : Txt.charAt x i = some x.cps.toList[i.toNat] := by
    unfold Txt.charAt
    rw [hs]
    exact hc
  show [(Txt.charAt x i).getD 0] = [x.cps.toList[i.toNat]]
  rw [this]
  rfl
theorem rd_one {a fo : Str} {he : Int} (hI : rdInv a fo he) (hlt : he < a.length) (m5 : (Txt.slice a (some he) (some (he + 5)) == Str.ofString "&amp;") = false) (ml : (Txt.slice a (some he) (some (he + 4)) == Str.ofString "&lt;") = false)
    (m : (Txt.slice a (some he) (some (he + 4)) == Str.ofString "&gt;") = false) : rdInv a (fo ++ Txt.item a he) (he + 1) := by
  have q5 := of_decide_eq_false (slice_is hI.1 (by decide) false m5)
  have ql := of_decide_eq_false (slice_is hI.1 (by decide) false ml)
  have q := of_decide_eq_false (slice_is hI.1 (by decide) false m)
  rw [lAmpE] at q5
  change ¬ (a.cps.toList.drop he.toNat).take 5 = [38, 97, 109, 112, 59] at q5
  rw [lLtE] at ql
  change ¬ (a.cps.toList.drop he.toNat).take 4 = [38, 108, 116, 59] at ql
  rw [lGtE] at q
  change ¬ (a.cps.toList.drop he.toNat).take 4 = [38, 103, 116, 59] at q
  have hs : readStep (a.cps.toList.drop he.toNat) = ((a.cps.toList.drop he.toNat).take 1, 1) := by unfold readStep; rw [if_neg q5, if_neg ql, if_neg q]
  have hit := item_list a he hI.1 hlt
  refine rd_next hI hlt (by decide) (by rw [hs]; rfl) (by rw [hs, hit]) ?_ (by omega)
  have : (Txt.item a he).length = (Txt.item a he).cps.toList.length := by simp [Str.length]
  rw [this, hit, List.length_take]
  omega
theorem rd_end {a fo : Str} {he : Int} (hI : rdInv a fo he) (hge : ¬ he < a.length) : fo = readS a := by
  obtain ⟨h1, h2, h3, h4⟩ := hI
  have hL : a.cps.toList.length = a.length := by simp [Str.length]
  have e : a.cps.toList.drop he.toNat = [] := List.drop_eq_nil_of_le (by rw [hL]; omega)
  rw [e, readL_nil, List.append_nil] at h4
  exact str_ext (by rw [h4]; rfl)
end Mine
end
section
open PySem PySem.W PyProof.Rows
namespace Mine
open PySem.Builtin PySem.Builtin.Str

theorem str_len (x : Str) : x.cps.toList.length = x.length := by simp [Str.length]
theorem slice_from (x : Str) (i : Int) (h0 : 0 ≤ i) (h1 : i ≤ x.length) : (Txt.slice x (some i) none).cps.toList = x.cps.toList.drop i.toNat := by
  have hL := str_len x
  have e : Txt.slice x (some i) none = StrLaws.sliceText x (some i) none := rfl
  rw [e, StrLaws.sliceText_from ⟨h0, by rw [hL]; exact h1⟩]
  show (x.cps.toList.drop i.toNat).take ((x.cps.toList.length : Int) - i).toNat = _
  rw [List.take_of_length_le]
  rw [List.length_drop, hL]
  omega
theorem slice_from_len (x : Str) (i : Int) (h0 : 0 ≤ i) (h1 : i ≤ x.length) : ((Txt.slice x (some i) none).length : Int) = x.length - i := by
  have := congrArg List.length (slice_from x i h0 h1)
  rw [str_len, List.length_drop, str_len] at this
  omega

def preInv (a b : Str) (p : Int) : Prop := 0 ≤ p ∧ p ≤ a.length ∧ p ≤ b.length ∧ a.cps.toList.take p.toNat = b.cps.toList.take p.toNat
theorem pre_start (a b : Str) : preInv a b 0 := ⟨by omega, by omega, by omega, rfl⟩

theorem item_eq {a b : Str} {i j : Int} (ha0 : 0 ≤ i) (ha : i < a.length) (hb0 : 0 ≤ j) (hb : j < b.length) : (Txt.item a i == Txt.item b j) = decide (a.cps.toList[i.toNat]? = b.cps.toList[j.toNat]?) := by
  have e1 := item_list a i ha0 ha
  have e2 := item_list b j hb0 hb
  have hL := str_len a
  have hL' := str_len b
  have l1 : i.toNat < a.cps.toList.length := by rw [hL]; omega
  have l2 : j.toNat < b.cps.toList.length := by rw [hL']; omega
  rw [List.drop_eq_getElem_cons l1] at e1
  rw [List.drop_eq_getElem_cons l2] at e2
  simp only [List.take_succ_cons, List.take_zero] at e1 e2
  rw [List.getElem?_eq_getElem l1, List.getElem?_eq_getElem l2]
  by_cases h : a.cps.toList[i.toNat] = b.cps.toList[j.toNat]
  · have : Txt.item a i = Txt.item b j := str_ext (by rw [e1, e2, h])
    rw [this, h]; simp
  · have : Txt.item a i ≠ Txt.item b j := by
      intro e
      rw [e, e2] at e1
      exact h (by simpa using e1.symm)
    rw [beq_eq_false_iff_ne.mpr this]
    exact (decide_eq_false (fun e => h (Option.some.inj e))).symm

theorem pre_next {a b : Str} {p : Int} (hI : preInv a b p) (ha : ((Txt.slice a (some p) none).length : Int) ≠ 0) (hb : ((Txt.slice b (some p) none).length : Int) ≠ 0) (he : (Txt.item a p == Txt.item b p) = true) : preInv a b (p + 1) := by
  obtain ⟨h0, h1, h2, h3⟩ := hI
  rw [slice_from_len a p h0 h1] at ha
  rw [slice_from_len b p h0 h2] at hb
  have hL := str_len a
  have hL' := str_len b
  refine ⟨by omega, by omega, by omega, ?_⟩
  rw [item_eq h0 (by omega) h0 (by omega)] at he
  have he := of_decide_eq_true he
  have e : (p + 1).toNat = p.toNat + 1 := by omega
  rw [e, List.take_add_one, List.take_add_one, h3, he]
theorem pre_less {a b : Str} {p : Int} (hI : preInv a b p) (ha : ((Txt.slice a (some p) none).length : Int) ≠ 0) : a.length - (p + 1).toNat < a.length - p.toNat := by
  obtain ⟨h0, h1, h2, h3⟩ := hI
  rw [slice_from_len a p h0 h1] at ha
  omega

def postInv (a b : Str) (q : Int) : Prop := q ≤ 0 ∧ -q ≤ a.length ∧ -q ≤ b.length ∧ a.cps.toList.drop (a.length - (-q).toNat) = b.cps.toList.drop (b.length - (-q).toNat)
theorem post_start (a b : Str) : postInv a b 0 := by
  refine ⟨by omega, by omega, by omega, ?_⟩
  have h1 := str_len a
  have h2 := str_len b
  rw [List.drop_eq_nil_of_le (by rw [h1]; simp), List.drop_eq_nil_of_le (by rw [h2]; simp)]

theorem slice_nn (x : Str) : Txt.slice x none none = x := by
  have e : Txt.slice x none none = StrLaws.sliceText x none none := rfl
  have hL := str_len x
  have h : StrLaws.sliceText x none none = StrLaws.sliceText x (some 0) none := by unfold StrLaws.sliceText; rw [StrLaws.sliceIdx_none_lo]
  have h2 := slice_from x 0 (by omega) (by omega)
  rw [e, h]
  exact str_ext h2
theorem slice_neg (x : Str) (q : Int) (h0 : q < 0) (h1 : -q ≤ x.length) : (Txt.slice x none (some q)).cps.toList = x.cps.toList.take (x.length - (-q).toNat) := by
  have hL := str_len x
  have e : Txt.slice x none (some q) = StrLaws.sliceText x none (some ((x.length : Int) + q)) := by
    show StrLaws.sliceText x none (some q) = _
    have : strSliceIndices none (some q) 1 x.length = strSliceIndices none (some ((x.length : Int) + q)) 1 x.length := by
      have hp : (1 : Int) > 0 := by decide
      have a1 : q < 0 := h0
      have a2 : ¬ ((x.length : Int) + q < 0) := by omega
      have a3 : q + (x.length : Int) = (x.length : Int) + q := by omega
      simp only [strSliceIndices, a1, a2, if_true, if_false, if_pos hp, a3]
    unfold StrLaws.sliceText
    rw [this]
  rw [e, StrLaws.sliceText_to ⟨by omega, by rw [hL]; omega⟩]
  show (x.cps.toList.drop 0).take ((x.length : Int) + q - 0).toNat = _
  rw [List.drop_zero]
  congr 1
  omega
theorem slice_neg_len (x : Str) (q : Int) (h0 : q < 0) (h1 : -q ≤ x.length) : ((Txt.slice x none (some q)).length : Int) = x.length + q := by
  have := congrArg List.length (slice_neg x q h0 h1)
  rw [str_len, List.length_take, str_len] at this
  omega

/-- what «x[:post or None]» is long -/
def cutLen (x : Str) (q : Int) : Prop := (q = 0 ∧ ((Txt.slice x none none).length : Int) ≠ 0) ∨ (q ≠ 0 ∧ ((Txt.slice x none (some q)).length : Int) ≠ 0)
theorem cutLen_in {x : Str} {q : Int} (h0 : q ≤ 0) (h1 : -q ≤ x.length) (h : cutLen x q) : -(x.length : Int) ≤ q - 1 := by
  rcases h with ⟨e, h⟩ | ⟨e, h⟩
  · rw [slice_nn] at h; omega
  · rw [slice_neg_len x q (by omega) h1] at h; omega
theorem in_a {a b : Str} {q : Int} (hI : postInv a b q) (hn : q ≠ 0) (hs : ((Txt.slice a none (some q)).length : Int) ≠ 0) : -(a.length : Int) ≤ q - 1 := cutLen_in hI.1 hI.2.1 (.inr ⟨hn, hs⟩)
theorem in_b {a b : Str} {q : Int} (hI : postInv a b q) (hn : q ≠ 0) (hs : ((Txt.slice b none (some q)).length : Int) ≠ 0) : -(b.length : Int) ≤ q - 1 := cutLen_in hI.1 hI.2.2.1 (.inr ⟨hn, hs⟩)
theorem in_a0 {a b : Str} {q : Int} (hI : postInv a b q) (hn : q = 0) (hs : ((Txt.slice a none none).length : Int) ≠ 0) : -(a.length : Int) ≤ q - 1 := cutLen_in hI.1 hI.2.1 (.inl ⟨hn, hs⟩)
theorem in_b0 {a b : Str} {q : Int} (hI : postInv a b q) (hn : q = 0) (hs : ((Txt.slice b none none).length : Int) ≠ 0) : -(b.length : Int) ≤ q - 1 := cutLen_in hI.1 hI.2.2.1 (.inl ⟨hn, hs⟩)

theorem item_neg (x : Str) (i : Int) (h0 : i < 0) (h1 : -(x.length : Int) ≤ i) : Txt.item x i = Txt.item x (x.length + i) := by
  have : Txt.charAt x i = Txt.charAt x (x.length + i) := by
    unfold Txt.charAt
    have : seqIndex? i x.length = seqIndex? (x.length + i) x.length := by
      unfold seqIndex?
      have a2 : ¬ ((x.length : Int) + i < 0) := by omega
      have a3 : i + (x.length : Int) = (x.length : Int) + i := by omega
      simp only [h0, a2, if_true, if_false, a3]
    rw [this]
  show (⟨#[(Txt.charAt x i).getD 0]⟩ : Str) = ⟨#[(Txt.charAt x (x.length + i)).getD 0]⟩
  rw [this]

theorem post_next {a b : Str} {q : Int} (hI : postInv a b q) (ha : -(a.length : Int) ≤ q - 1) (hb : -(b.length : Int) ≤ q - 1) (he : (Txt.item a (q - 1) == Txt.item b (q - 1)) = true) : postInv a b (q - 1) := by
  obtain ⟨h0, h1, h2, h3⟩ := hI
  have hL := str_len a
  have hL' := str_len b
  refine ⟨by omega, by omega, by omega, ?_⟩
  rw [item_neg a (q - 1) (by omega) ha, item_neg b (q - 1) (by omega) hb, item_eq (by omega) (by omega) (by omega) (by omega)] at he
  have he := of_decide_eq_true he
  have e1 : ((a.length : Int) + (q - 1)).toNat = a.length - (-(q - 1)).toNat := by omega
  have e2 : ((b.length : Int) + (q - 1)).toNat = b.length - (-(q - 1)).toNat := by omega
  rw [e1, e2] at he
  have l1 : a.length - (-(q - 1)).toNat < a.cps.toList.length := by rw [hL]; omega
  have l2 : b.length - (-(q - 1)).toNat < b.cps.toList.length := by rw [hL']; omega
  rw [List.getElem?_eq_getElem l1, List.getElem?_eq_getElem l2] at he
  rw [List.drop_eq_getElem_cons l1, List.drop_eq_getElem_cons l2, Option.some.inj he]
  congr 1
  have e3 : a.length - (-(q - 1)).toNat + 1 = a.length - (-q).toNat := by omega
  have e4 : b.length - (-(q - 1)).toNat + 1 = b.length - (-q).toNat := by omega
  rw [e3, e4, h3]
theorem post_less {a b : Str} {q : Int} (hI : postInv a b q) (ha : -(a.length : Int) ≤ q - 1) : a.length - (-(q - 1)).toNat < a.length - (-q).toNat := by
  obtain ⟨h0, h1, h2, h3⟩ := hI
  omega
theorem in_a1 {a b : Str} {q : Int} (hI : postInv a b q) (hn : q = 0) (hs : (a.length : Int) ≠ 0) : -(a.length : Int) ≤ q - 1 := by omega
theorem in_b1 {a b : Str} {q : Int} (hI : postInv a b q) (hn : q = 0) (hs : (b.length : Int) ≠ 0) : -(b.length : Int) ≤ q - 1 := by omega

def trimS (x : Str) (q : Int) : Str := if q = 0 then x else Txt.slice x none (some q)
theorem trimS_list (x : Str) (q : Int) (h0 : q ≤ 0) (h1 : -q ≤ x.length) : (trimS x q).cps.toList = x.cps.toList.take (x.length - (-q).toNat) := by
  unfold trimS
  split
  · rename_i h
    subst h
    have hL := str_len x
    rw [List.take_of_length_le]
    rw [hL]
    simp
  · exact slice_neg x q (by omega) h1
structure Trim (a b a2 b2 : Str) : Prop where
  ex : ∃ x y : List Nat, a.cps.toList = x ++ (a2.cps.toList ++ y) ∧ b.cps.toList = x ++ (b2.cps.toList ++ y)
theorem trimmed {a b a1 b1 : Str} {p q : Int} (hI : preInv a b p) (hA : a1.cps.toList = a.cps.toList.drop p.toNat) (hB : b1.cps.toList = b.cps.toList.drop p.toNat) (hJ : postInv a1 b1 q) : Trim a b (trimS a1 q) (trimS b1 q) := by
  refine ⟨a.cps.toList.take p.toNat, a1.cps.toList.drop (a1.length - (-q).toNat), ?_, ?_⟩
  · rw [trimS_list a1 q hJ.1 hJ.2.1, List.take_append_drop, hA, List.take_append_drop]
  · rw [hJ.2.2.2, trimS_list b1 q hJ.1 hJ.2.2.1, List.take_append_drop, hB, hI.2.2.2, List.take_append_drop]
theorem Trim.len {a b a2 b2 : Str} (h : Trim a b a2 b2) : ((b2.length : Int) - a2.length = b.length - a.length) ∧ a2.length ≤ a.length ∧ b2.length ≤ b.length := by
  obtain ⟨x, y, e1, e2⟩ := h.ex
  have h1 := congrArg List.length e1
  have h2 := congrArg List.length e2
  simp only [List.length_append, str_len] at h1 h2
  refine ⟨by omega, by omega, by omega⟩
theorem Trim.sub {a b a2 b2 : Str} (h : Trim a b a2 b2) (hs : a.cps.toList.Sublist b.cps.toList) : a2.cps.toList.Sublist b2.cps.toList := by
  obtain ⟨x, y, e1, e2⟩ := h.ex
  rw [e1, e2] at hs
  exact (List.append_sublist_append_right y).mp ((List.append_sublist_append_left x).mp hs)
end Mine
end
section
open PySem PySem.W PyProof.Rows
namespace Mine

theorem escL_nil : escL [] = [] := rfl
theorem escL_cons (c : Nat) (l : List Nat) : escL (c :: l) = escCh c ++ escL l := by simp [escL]
theorem escL_append (a b : List Nat) : escL (a ++ b) = escL a ++ escL b := by simp [escL]

/-- read sign for sign, what is told is the text -/
theorem read_esc : ∀ l : List Nat, readL (escL l) = l
  | [] => rfl
  | c :: r => by
    have ih := read_esc r
    rw [escL_cons]
    by_cases h1 : c = 38
    · subst h1
      show readL (38 :: 97 :: 109 :: 112 :: 59 :: escL r) = _
      rw [readL_step _ (by simp)]
      have : readStep (38 :: 97 :: 109 :: 112 :: 59 :: escL r) = ([38], 5) := by simp [readStep]
      rw [this]
      simp [ih]
    · by_cases h2 : c = 60
      · subst h2
        show readL (38 :: 108 :: 116 :: 59 :: escL r) = _
        rw [readL_step _ (by simp)]
        have : readStep (38 :: 108 :: 116 :: 59 :: escL r) = ([60], 4) := by simp [readStep]
        rw [this]
        simp [ih]
      · by_cases h3 : c = 62
        · subst h3
          show readL (38 :: 103 :: 116 :: 59 :: escL r) = _
          rw [readL_step _ (by simp)]
          have : readStep (38 :: 103 :: 116 :: 59 :: escL r) = ([62], 4) := by simp [readStep]
          rw [this]
          simp [ih]
        · have : escCh c = [c] := by simp [escCh, h1, h2, h3]
          rw [this]
          show readL (c :: escL r) = _
          rw [readL_step _ (by simp)]
          have : readStep (c :: escL r) = ([c], 1) := by simp [readStep, h1]
          rw [this]
          simp [ih]
theorem read_escS (x : Str) : readS (escS x) = x := str_ext (by
  show readL (escL x.cps.toList) = _
  exact read_esc _)

/-- the four kinds -/
def Kinds (l : List Nat) : Prop := ∀ c ∈ l, c = 97 ∨ c = 38 ∨ c = 60 ∨ c = 62

def cnt (c : Nat) (l : List Nat) : Nat := l.count c

/-- how many of a sign in what is told -/
theorem cnt_esc_amp : ∀ l : List Nat, (escL l).count 38 = l.count 38 + l.count 60 + l.count 62
  | [] => rfl
  | c :: r => by
    have ih := cnt_esc_amp r
    rw [escL_cons, List.count_append, ih]
    unfold escCh
    by_cases h1 : c = 38
    · subst h1; simp; omega
    · by_cases h2 : c = 60
      · subst h2; simp; omega
      · by_cases h3 : c = 62
        · subst h3; simp; omega
        · simp [h1, h2, h3, List.count_cons]
theorem cnt_esc_lt : ∀ l : List Nat, (escL l).count 60 = 0
  | [] => rfl
  | c :: r => by
    have ih := cnt_esc_lt r
    rw [escL_cons, List.count_append, ih]
    unfold escCh
    by_cases h1 : c = 38
    · subst h1; rfl
    · by_cases h2 : c = 60
      · subst h2; rfl
      · by_cases h3 : c = 62
        · subst h3; rfl
        · simp [h1, h2, h3]
theorem cnt_esc_gt : ∀ l : List Nat, (escL l).count 62 = 0
  | [] => rfl
  | c :: r => by
    have ih := cnt_esc_gt r
    rw [escL_cons, List.count_append, ih]
    unfold escCh
    by_cases h1 : c = 38
    · subst h1; rfl
    · by_cases h2 : c = 60
      · subst h2; rfl
      · by_cases h3 : c = 62
        · subst h3; rfl
        · simp [h1, h2, h3]
theorem len_esc : ∀ l : List Nat, (escL l).length = l.length + 4 * l.count 38 + 3 * (l.count 60 + l.count 62)
  | [] => rfl
  | c :: r => by
    have ih := len_esc r
    rw [escL_cons, List.length_append, ih]
    unfold escCh
    by_cases h1 : c = 38
    · subst h1; simp; omega
    · by_cases h2 : c = 60
      · subst h2; simp; omega
      · by_cases h3 : c = 62
        · subst h3; simp; omega
        · simp [h1, h2, h3, List.count_cons]; omega
/-- without brackets, the text lies in what is told, in its order -/
theorem esc_sub : ∀ l : List Nat, l.count 60 = 0 → l.count 62 = 0 → l.Sublist (escL l)
  | [], _, _ => .slnil
  | c :: r, h2, h3 => by
    rw [List.count_cons] at h2 h3
    have c2 : c ≠ 60 := fun e => by subst e; simp at h2
    have c3 : c ≠ 62 := fun e => by subst e; simp at h3
    have ih := esc_sub r (by omega) (by omega)
    rw [escL_cons]
    by_cases h1 : c = 38
    · subst h1
      show (38 :: r).Sublist (38 :: ([97, 109, 112, 59] ++ escL r))
      exact .cons_cons _ (ih.trans (List.sublist_append_right _ _))
    · have : escCh c = [c] := by simp [escCh, h1, c2, c3]
      rw [this]
      exact .cons_cons _ ih

theorem join_list0 : ∀ l : List Str, (Str.join ⟨#[]⟩ l).cps.toList = l.flatMap (fun y => y.cps.toList)
  | [] => rfl
  | [x] => by simp [Str.join]
  | x :: y :: r => by
    have ih := join_list0 (y :: r)
    show (x ++ ⟨#[]⟩ ++ Str.join ⟨#[]⟩ (y :: r)).cps.toList = _
    simp only [Str.cps_append, Array.toList_append, ih]
    simp
theorem txt_join_list (l : List Str) : (Txt.join (Str.ofString "") l).cps.toList = l.flatMap (fun y => y.cps.toList) := by
  show (Builtin.Str.glued (Str.ofString "") l).cps.toList = _
  rw [StrLaws.glued_eq_join, lNil, join_list0]
def pick (k : Int) : Str := Txt.item (Str.ofString "a&<>") (k.fmod 4)
theorem pick_kind (k : Int) : (pick k).cps.toList = [97] ∨ (pick k).cps.toList = [38] ∨ (pick k).cps.toList = [60] ∨ (pick k).cps.toList = [62] := by
  have h : k.fmod 4 = 0 ∨ k.fmod 4 = 1 ∨ k.fmod 4 = 2 ∨ k.fmod 4 = 3 := by
    have h1 := Int.fmod_nonneg_of_pos k (b := 4) (by decide)
    have h2 := Int.fmod_lt_of_pos k (b := 4) (by decide)
    omega
  unfold pick
  rcases h with h | h | h | h <;> rw [h]
  · left; decide +kernel
  · right; left; decide +kernel
  · right; right; left; decide +kernel
  · right; right; right; decide +kernel
theorem kinds_join (ns : List Int) : Kinds (Txt.join (Str.ofString "") (ns.map fun k => Txt.item (Str.ofString "a&<>") (k.fmod 4))).cps.toList := by
  rw [txt_join_list]
  intro c hc
  obtain ⟨y, hy, hcy⟩ := List.mem_flatMap.mp hc
  obtain ⟨k, _, rfl⟩ := List.mem_map.mp hy
  rcases pick_kind k with h | h | h | h <;> (unfold pick at h; rw [h] at hcy; rw [List.mem_singleton.mp hcy]; omega)

def escCS (c : Nat) : Str := ⟨(escCh c).toArray⟩
theorem join_esc (x : Str) : Txt.join (Str.ofString "") (x.cps.toList.map escCS) = escS x := by
  refine str_ext ?_
  rw [txt_join_list]
  show (x.cps.toList.map escCS).flatMap (fun y => y.cps.toList) = escL x.cps.toList
  unfold escL
  rw [List.flatMap_map]
  rfl
theorem esc_weight : ∀ l : List Nat, ((l.map escCS).map (·.length)).sum ≤ 5 * l.length
  | [] => by simp
  | c :: r => by
    have ih := esc_weight r
    have h := (escCh_len c).2
    have : (escCS c).length = (escCh c).length := by simp [escCS, Str.length]
    simp only [List.map_cons, List.sum_cons, List.length_cons, this]
    omega
theorem kinds_ascii {x : Str} (h : Kinds x.cps.toList) : x.cps.all (· < 128) = true := by
  rw [Array.all_eq_true']
  intro c hc
  have := h c (Array.mem_toList_iff.mpr hc)
  simp
  omega
theorem join_rule {prog : Program} {w : World} {A : Around} {E : Value → Shared → Prop} {s : Shared} {D : Addr} {items : Array Value} {x : Str} {t : Tok} {Q : Value → Shared → Prop} (hl : s.heap.IsList D items) (hi : StrsAre items.toList (x.cps.toList.map escCS)) (hx : x.length ≤ 1000)
    (h : ∀ t' k, Q (.str (escS x) t') { s with toks := k }) : wpAny (model prog w) A (call (.builtin "str.join") [.str (Str.ofString "") t, .ref D]) Q E s := by
  refine join_listW hl hi (by decide) ?_ ?_
  · have := esc_weight x.cps.toList
    rw [List.length_map, str_len]
    rw [str_len] at this
    omega
  · rw [join_esc]; exact h
end Mine
end
section
open PySem PySem.W PyProof.Rows
namespace Mine

theorem escCS_a : escCS 97 = Str.ofString "a" := by decide +kernel
theorem escCS_amp : escCS 38 = Str.ofString "&amp;" := by decide +kernel
theorem escCS_lt : escCS 60 = Str.ofString "&lt;" := by decide +kernel
theorem escCS_gt : escCS 62 = Str.ofString "&gt;" := by decide +kernel
theorem comp_el {c : Nat} {y : Str} {t : Tok} (h : escCS c = y) : ([] : List (Addr × Obj)) = [] ∧ ∃ t', Value.str y t = .str (escCS c) t' := ⟨rfl, t, by rw [h]⟩

theorem mul_a (n : Nat) : (Txt.mul (Str.ofString "a") n).cps.toList = List.replicate n 97 := by
  rw [lA]
  unfold Txt.mul
  by_cases h1 : (n : Int) < 1
  · have : n = 0 := by omega
    subst this
    rfl
  · rw [if_neg h1]
    by_cases h2 : n = 1
    · subst h2; rfl
    · have h3 : ((((n : Int) == 1) || ((⟨#[97]⟩ : Str).length == 0)) = true) ↔ False := by
        have : (⟨#[97]⟩ : Str).length = 1 := rfl
        rw [this]
        simp
        omega
      rw [if_neg (fun h => h3.mp h)]
      have key : ∀ (k : Nat) (acc : Array Nat), ((List.replicate k #[97]).foldl (· ++ ·) acc).toList = acc.toList ++ List.replicate k 97 := by
        intro k
        induction k with
        | zero => intro acc; simp
        | succ k ih =>
          intro acc
          rw [List.replicate_succ, List.foldl_cons, ih, List.replicate_succ]
          simp
      show ((List.replicate (Int.toNat n) #[97]).foldl (· ++ ·) #[]).toList = _
      rw [key]
      simp

theorem kinds_cnt : ∀ l : List Nat, Kinds l → l.count 38 = 0 → l.count 60 = 0 → l.count 62 = 0 → l = List.replicate l.length 97
  | [], _, _, _, _ => rfl
  | c :: r, h, h1, h2, h3 => by
    rw [List.count_cons] at h1 h2 h3
    have hc := h c List.mem_cons_self
    have ih := kinds_cnt r (fun d hd => h d (List.mem_cons_of_mem _ hd)) (by omega) (by omega) (by omega)
    rcases hc with rfl | rfl | rfl | rfl
    · rw [List.length_cons, List.replicate_succ, ← ih]
    · simp at h1
    · simp at h2
    · simp at h3
theorem escL_a (n : Nat) : escL (List.replicate n 97) = List.replicate n 97 := by
  induction n with
  | zero => rfl
  | succ n ih => rw [List.replicate_succ, escL_cons, ih]; rfl
theorem told_is_text {x : Str} (hk : Kinds x.cps.toList) : (escS x == x) = (x == Txt.mul (Str.ofString "a") (x.length : Int)) := by
  have hL := str_len x
  have e : (escS x = x) ↔ (x = Txt.mul (Str.ofString "a") (x.length : Int)) := by
    constructor
    · intro h
      have h' : escL x.cps.toList = x.cps.toList := congrArg (fun y : Str => y.cps.toList) h
      have hl := len_esc x.cps.toList
      rw [h'] at hl
      have := kinds_cnt _ hk (by omega) (by omega) (by omega)
      refine str_ext ?_
      rw [mul_a, ← hL]
      exact this
    · intro h
      have h' : x.cps.toList = List.replicate x.length 97 := by
        have := congrArg (fun y : Str => y.cps.toList) h
        rw [mul_a] at this
        exact this
      refine str_ext ?_
      show escL x.cps.toList = _
      rw [h', escL_a]
  by_cases h : escS x = x
  · have h2 := e.mp h
    rw [beq_iff_eq.mpr h, beq_iff_eq.mpr h2]
  · have h2 : ¬ x = Txt.mul (Str.ofString "a") (x.length : Int) := fun q => h (e.mpr q)
    rw [beq_eq_false_iff_ne.mpr h, beq_eq_false_iff_ne.mpr h2]

/-- the text without brackets -/
def plainS (x : Str) : Str := Txt.replace (Txt.replace x (Str.ofString "<") (Str.ofString "")) (Str.ofString ">") (Str.ofString "")
theorem sub1_nil (c : Nat) (l : List Nat) : sub1 c [] l = l.filter (fun k => k != c) := by
  induction l with
  | nil => rfl
  | cons k r ih =>
    have : sub1 c [] (k :: r) = (if k = c then [] else [k]) ++ sub1 c [] r := by simp [sub1]
    rw [this, ih, List.filter_cons]
    by_cases h : k = c
    · simp [h]
    · simp [h]
theorem plainS_list (x : Str) : (plainS x).cps.toList = (x.cps.toList.filter (fun k => k != 60)).filter (fun k => k != 62) := by
  unfold plainS
  rw [lLt, lGt, lNil, replace_list, replace_list]
  show sub1 62 [] (sub1 60 [] _) = _
  rw [sub1_nil, sub1_nil]
theorem plain1_len (x : Str) : (Txt.replace x (Str.ofString "<") (Str.ofString "")).length ≤ x.length := by
  have h : (Txt.replace x (Str.ofString "<") (Str.ofString "")).cps.toList = x.cps.toList.filter (fun k => k != 60) := by
    rw [lLt, lNil, replace_list]
    exact sub1_nil _ _
  have h := congrArg List.length h
  rw [str_len] at h
  rw [h, ← str_len x]
  exact List.length_filter_le _ _
theorem plainS_len (x : Str) : (plainS x).length ≤ x.length := by
  have h := congrArg List.length (plainS_list x)
  rw [str_len] at h
  rw [h, ← str_len x]
  exact Nat.le_trans (List.length_filter_le _ _) (List.length_filter_le _ _)
theorem plainS_lt (x : Str) : (plainS x).cps.toList.count 60 = 0 := by
  rw [plainS_list, List.count_eq_zero]
  intro h
  have := List.mem_filter.mp (List.mem_filter.mp h).1
  simp at this
theorem plainS_gt (x : Str) : (plainS x).cps.toList.count 62 = 0 := by
  rw [plainS_list, List.count_eq_zero]
  intro h
  have := List.mem_filter.mp h
  simp at this

theorem count_nat (x : Str) (c : Nat) : Txt.count x ⟨#[c]⟩ = (x.cps.toList.count c : Int) := by
  rw [count_cnt]
  induction x.cps.toList with
  | nil => rfl
  | cons k r ih =>
    rw [cnt_cons, ih, List.count_cons]
    by_cases h : k = c
    · simp [h]; omega
    · simp [h]
theorem count_amp (x : Str) : Txt.count x (Str.ofString "&") = (x.cps.toList.count 38 : Int) := by rw [lAmp, count_nat]
theorem count_lt (x : Str) : Txt.count x (Str.ofString "<") = (x.cps.toList.count 60 : Int) := by rw [lLt, count_nat]
theorem count_gt (x : Str) : Txt.count x (Str.ofString ">") = (x.cps.toList.count 62 : Int) := by rw [lGt, count_nat]

theorem slice_to (x : Str) (k : Int) (h0 : 0 ≤ k) (h1 : k ≤ x.length) : (Txt.slice x none (some k)).cps.toList = x.cps.toList.take k.toNat := by
  have hL := str_len x
  show (StrLaws.sliceText x none (some k)).cps.toList = _
  rw [StrLaws.sliceText_to ⟨by omega, by rw [hL]; omega⟩]
  show (x.cps.toList.drop 0).take (k - 0).toNat = _
  rw [List.drop_zero]
  congr 1
  omega
theorem esc_parts (x : Str) (k : Int) (h0 : 0 ≤ k) (h1 : k ≤ x.length) : escS (Txt.slice x none (some k)) ++ escS (Txt.slice x (some k) none) = escS x := by
  refine str_ext ?_
  rw [Str.cps_append, Array.toList_append]
  show escL _ ++ escL _ = escL _
  rw [slice_to x k h0 h1, slice_from x k h0 h1, ← escL_append, List.take_append_drop]
theorem slice_to_len (x : Str) (k : Int) (h0 : 0 ≤ k) (h1 : k ≤ x.length) : (Txt.slice x none (some k)).length ≤ x.length := by
  have := congrArg List.length (slice_to x k h0 h1)
  rw [str_len, List.length_take, str_len] at this
  omega

/-- the counts of what is told -/
theorem esc_len (x : Str) : ((escS x).length : Int) = x.length + 4 * (x.cps.toList.count 38 : Int) + 3 * ((x.cps.toList.count 60 : Int) + (x.cps.toList.count 62 : Int)) := by
  have h := len_esc x.cps.toList
  have h2 := str_len (escS x)
  have h1 := str_len x
  have : (escS x).cps.toList = escL x.cps.toList := rfl
  rw [this] at h2
  omega
theorem esc_c38 (x : Str) : (escS x).cps.toList.count 38 = x.cps.toList.count 38 + x.cps.toList.count 60 + x.cps.toList.count 62 := cnt_esc_amp _
theorem esc_c60 (x : Str) : (escS x).cps.toList.count 60 = 0 := cnt_esc_lt _
theorem esc_c62 (x : Str) : (escS x).cps.toList.count 62 = 0 := cnt_esc_gt _
theorem count_le (x : Str) (c : Nat) : x.cps.toList.count c ≤ x.length := by
  have := List.count_le_length (a := c) (l := x.cps.toList)
  rw [str_len] at this
  exact this
/-- told once more, what has no brackets -/
theorem esc_step (y : Str) (h1 : y.cps.toList.count 60 = 0) (h2 : y.cps.toList.count 62 = 0) : ((escS y).length : Int) = y.length + 4 * (y.cps.toList.count 38 : Int) ∧ (escS y).cps.toList.count 38 = y.cps.toList.count 38 := by
  have a := esc_len y
  have b := esc_c38 y
  rw [h1, h2] at a b
  omega
/-- what stands in «here» ahead of the turn of that number -/
def hereInv (x : Str) (m b : Int) (i : Nat) (y : Str) : Prop :=
  (y.length : Int) = x.length + (if 0 < i then 4 * m + 3 * b + 4 * ((i : Int) - 1) * (m + b) else 0) ∧ (i = 0 → y = x) ∧ (0 < i → y.cps.toList.count 60 = 0 ∧ y.cps.toList.count 62 = 0 ∧ (y.cps.toList.count 38 : Int) = m + b)
theorem here_start (x : Str) (m b : Int) : hereInv x m b 0 x := ⟨by simp, fun _ => rfl, fun h => absurd h (Nat.lt_irrefl _)⟩
theorem here_next {x y : Str} {m b : Int} {i : Nat} (hm : m = (x.cps.toList.count 38 : Int)) (hb : b = (x.cps.toList.count 60 : Int) + (x.cps.toList.count 62 : Int)) (h : hereInv x m b i y) : hereInv x m b (i + 1) (escS y) := by
  obtain ⟨h1, h2, h3⟩ := h
  by_cases hi : 0 < i
  · obtain ⟨c1, c2, c3⟩ := h3 hi
    have e := esc_step y c1 c2
    refine ⟨?_, fun q => absurd q (Nat.succ_ne_zero _), fun _ => ⟨esc_c60 _, esc_c62 _, by omega⟩⟩
    rw [if_pos hi] at h1
    rw [if_pos (Nat.succ_pos _), e.1, h1, c3]
    have : 4 * (((i + 1 : Nat) : Int) - 1) * (m + b) = 4 * ((i : Int) - 1) * (m + b) + 4 * (m + b) := by
      have : (((i + 1 : Nat) : Int) - 1) = ((i : Int) - 1) + 1 := by omega
      rw [this]
      generalize ((i : Int) - 1) = p
      generalize m + b = z
      rw [Int.mul_add, Int.add_mul, Int.mul_one]
    omega
  · have hi0 : i = 0 := by omega
    subst hi0
    have := h2 rfl
    subst this
    have e := esc_len y
    have c := esc_c38 y
    refine ⟨?_, fun q => absurd q (Nat.succ_ne_zero _), fun _ => ⟨esc_c60 _, esc_c62 _, by omega⟩⟩
    have z : 4 * (((0 + 1 : Nat) : Int) - 1) * (m + b) = 0 := by simp
    rw [if_pos (Nat.succ_pos _), e, z]
    omega
theorem here_cnt {x y : Str} {m b : Int} {i : Nat} (hm : m = (x.cps.toList.count 38 : Int)) (hb : b = (x.cps.toList.count 60 : Int) + (x.cps.toList.count 62 : Int)) (h : hereInv x m b i y) : Txt.count (escS y) (Str.ofString "&") = m + b := by
  rw [count_amp]
  exact ((here_next hm hb h).2.2 (Nat.succ_pos _)).2.2
theorem cnt_sum (l : List Nat) : l.count 38 + l.count 60 + l.count 62 ≤ l.length := by
  induction l with
  | nil => simp
  | cons c r ih =>
    simp only [List.count_cons, List.length_cons, beq_iff_eq]
    split <;> split <;> split <;> omega
theorem mb_le {x : Str} {m b : Int} (hm : m = (x.cps.toList.count 38 : Int)) (hb : b = (x.cps.toList.count 60 : Int) + (x.cps.toList.count 62 : Int)) : 0 ≤ m ∧ 0 ≤ b ∧ m + b ≤ x.length := by
  have := cnt_sum x.cps.toList
  rw [str_len] at this
  omega
end Mine
end
section
open PySem PySem.W PyProof.Rows PySem.Calls PySem.Spec
namespace Mine
section
variable {prog : Program} {w : World} {A : Around} {E : Value → Shared → Prop} {s : Shared} {env : Env} {h₀ : Heap} {x : Str} {px : Pos} {body : List Stmt} {Q : Flow → Shared → Prop}

/-- what a turn must leave -/
def TurnEnd (h₀ : Heap) (L I : Addr) (oI : Obj) (J : (Str → Option Value) → Prop) (s₁ : Shared) (Q : Flow → Shared → Prop) (f : Flow) (s' : Shared) : Prop :=
  match f with
  | .ret v => Q (.ret v) s'
  | .brk => Q .next s'
  | _ => ∃ h' tk m', s' = { s₁ with heap := h', toks := tk } ∧ Fr h₀ L h' m' ∧ News h₀ L h' [(I, oI)] ∧ J m'

theorem turn_end {L I : Addr} {oI : Obj} {J : (Str → Option Value) → Prop} {s₁ : Shared} {h' : Heap} {tk : Nat} {m' : Str → Option Value} {rest : List (Addr × Obj)} (F : Fr h₀ L h' m') (N : News h₀ L h' rest) (hm : (I, oI) ∈ rest) (hJ : J m') :
    TurnEnd h₀ L I oI J s₁ Q .next { s₁ with heap := h', toks := tk } := ⟨h', tk, m', rfl, F, fun p hp => by rw [List.mem_singleton.mp hp]; exact N _ hm, hJ⟩
def ForAt (prog : Program) (w : World) (A : Around) (env : Env) (x : Str) (px : Pos) (body : List Stmt) (Q : Flow → Shared → Prop) (E : Value → Shared → Prop) (it : Value) (s₂ : Shared) : Prop :=
  codeAny (model prog w) A (.forLoop (.Name x px) it body [] env) (fun r s' => match r with | .ok f => Q f s' | .error e => cameBackBy (model prog w) A env E e s') s₂

theorem for_T {iter : Expr} {pos : Pos} (hT : 0 < s.toks)
    (h : wpAny (model prog w) A (eval iter env) (fun xv s₁ => 0 < s₁.toks → wpAny (model prog w) A (pyIter xv) (fun it s₂ => ForAt prog w A env x px body Q E it s₂) E s₁) E s)
    (hs : ∀ x, foldedSetIterable iter env x = pure x := by intro _; rfl) :
    wpAny (model prog w) A (exec (.For (.Name x px) iter body [] pos) env) Q E s :=
  wpAny_For (wpAny_toks (wpAny_mono h (fun _ _ q hle => q (Nat.lt_of_lt_of_le hT hle)) (fun _ _ e _ => e))) hs

/-- a loop over a range: in each turn the tokens stand above nought -/
theorem range_T {r : Addr} {a₀ b₀ : Int} {t₀ u₀ v₀ : Tok} {n : Nat} {m₀ : Str → Option Value} (J : Nat → (Str → Option Value) → Prop)
    (hh : A.handled = none) (hr : IsRange s.heap r a₀ b₀ 1 t₀ u₀ v₀) (hsmall : Builtin.Range.small a₀ b₀ 1 = true) (hn : Builtin.Range.rangeSize a₀ b₀ 1 = (n : Int))
    (F : Fr h₀ env.locals s.heap m₀) (hT : 0 < s.toks) (hx : env.kindOf x = some .local)
    (hp : (env.scope.kind == .class || (env.scope.kind == .module && env.locals != env.globals)) = false) (h0 : J 0 m₀)
    (turn : ∀ (i : Nat) t m h tk I oI, i < n → 0 < tk → J i m → Fr h₀ env.locals h (fun y => if y = x then some (.int (a₀ + (i : Int)) t) else m y) → News h₀ env.locals h [(I, oI)] →
      wpAny (model prog w) A (execs body env) (TurnEnd h₀ env.locals I oI (J (i + 1)) { s with heap := h, toks := tk } Q) E { s with heap := h, toks := tk })
    (done : ∀ h tk m, 0 < tk → J n m → Fr h₀ env.locals h m → Q .next { s with heap := h, toks := tk })
    (hE : PassesOwn (model prog w) A env E := by passes_own) :
    wpAny (model prog w) A (pyIter (.ref r)) (fun it s₂ => ForAt prog w A env x px body Q E it s₂) E s := by
  refine wpAny_pyIter_range hr hsmall ?_
  have hL : env.locals ≠ s.heap.objs.size := Nat.ne_of_lt F.ns.lt
  have hI0 : h₀.get? s.heap.objs.size = none := next_is_new F
  generalize hI : s.heap.objs.size = I at *
  have W := Walks.range (prog := prog) (w := w) hh I a₀ 1 n
  refine codeAny_forLoop (fun k s' => ∃ h' tk m i, s' = { s with heap := h', toks := tk } ∧ 0 < tk ∧ IsRangeIter h' I (a₀ + ((i : Nat) : Int) * 1) ((n : Int) - (i : Nat)) 1 ∧ Fr h₀ env.locals h' m ∧ J i m ∧ i ≤ n ∧ k = n + 1 - i) ?_ (n + 1)
    ⟨_, _, m₀, 0, rfl, hT, ?_, F.push _, h0, Nat.zero_le _, rfl⟩
  · rintro k s' ⟨h', tk, m, i, rfl, htk, hst, F', hJ, hi, rfl⟩
    have keepF : ∀ h₁ : Heap, (∀ b o, b ∉ [I] → h'.get? b = some o → h₁.get? b = some o) → Fr h₀ env.locals h₁ m := fun h₁ hk₁ =>
      ⟨F'.ns.at' fun o e => hk₁ _ o (fun hm => hL (List.mem_singleton.mp hm)) e, fun b o e => hk₁ b o (fun hm => by rw [List.mem_singleton.mp hm, hI0] at e; cases e) (F'.keep b o e), F'.above⟩
    refine wpAny_toks ?_
    by_cases hlt : i < n
    · refine W.item i _ _ _ hlt hst fun v h₁ tk₁ hP hst₁ hk₁ => ?_
      intro hle
      have F₁ := keepF h₁ hk₁
      obtain ⟨t, rfl⟩ := hP
      have e1 : a₀ + (i : Int) * 1 = a₀ + (i : Int) := by omega
      rw [e1]
      refine wpAny_assign_Name (wpAny_storeName_local hx F₁.ns (fun h₂ hn₂ hs₂ => ?_) hp)
      have F₂ := F₁.set hn₂ hs₂
      have hst₂ := (hs₂.2 I (fun q => hL q.symm)).trans hst₁
      obtain ⟨oI, hoI⟩ : ∃ oI, h₂.get? I = some oI := ⟨_, hst₂⟩
      have hT9 := turn i t m h₂ (tk₁ + 1) I oI hlt (Nat.succ_pos _) hJ F₂ (fun p hp => by
        rw [List.mem_singleton.mp hp]
        exact ⟨hoI, fun q => hL q.symm, hI0⟩)
      rw [hoI] at hst₂
      refine wpAny_toks (wpAny_mono (wpAny_passesOwn hE hT9) (fun f s₃ h₃ => ?_) (fun _ _ e _ => e))
      · intro hle2
        have back : ∀ h₄ : Heap, h₄.get? I = some oI → IsRangeIter h₄ I (a₀ + ((i + 1 : Nat) : Int) * 1) ((n : Int) - ((i + 1 : Nat) : Int)) 1 := fun h₄ e => e.trans hst₂
        cases f with
        | ret v => exact h₃
        | brk => exact h₃
        | next =>
          obtain ⟨h₄, tk₄, m₄, rfl, F₄, N₄, J₄⟩ := h₃
          exact ⟨n + 1 - (i + 1), by omega, h₄, tk₄, m₄, i + 1, rfl, Nat.lt_of_lt_of_le (Nat.succ_pos _) hle2, back _ (N₄ _ (List.mem_singleton.mpr rfl)).1, F₄, J₄, hlt, rfl⟩
        | cont =>
          obtain ⟨h₄, tk₄, m₄, rfl, F₄, N₄, J₄⟩ := h₃
          exact ⟨n + 1 - (i + 1), by omega, h₄, tk₄, m₄, i + 1, rfl, Nat.lt_of_lt_of_le (Nat.succ_pos _) hle2, back _ (N₄ _ (List.mem_singleton.mpr rfl)).1, F₄, J₄, hlt, rfl⟩
    · have hin : i = n := by omega
      subst hin
      refine W.done _ _ _ hst fun h₁ tk₁ hk₁ => ?_
      intro hle
      refine wpAny_execs_nil ?_
      exact done h₁ tk₁ m (Nat.lt_of_lt_of_le htk hle) hJ (keepF h₁ hk₁)
  · show IsRangeIter _ _ _ _ _
    rw [hn]
    rw [← hI]
    simpa using Heap.get?_push_size _ rfl
end
end Mine
end
section
open PySem PySem.W PyProof.Rows PySem.Calls PySem.Spec
namespace Mine
open LCg

section
variable {prog : Program} {w : World} {A : Around} {E : Value → Shared → Prop} {s : Shared} {h₀ : Heap} {L : Addr} {m : Str → Option Value} {env : Env}

theorem striter_st {I : Addr} {x : Str} {t : Tok} : ∀ i (h h' : Heap) (o : Obj) (nw : List (Addr × Obj)), h.IsStrIter I "str_ascii_iterator" x t i → h.get? I = some o → h'.get? I = some o → (∀ b o, h₀.get? b = some o → h'.get? b = some o) → News h₀ L h' nw → True → h'.IsStrIter I "str_ascii_iterator" x t i :=
  fun i h h' o nw st e e' _ _ _ => by obtain ⟨o', q, r⟩ := st; rw [e] at q; cases q; exact ⟨o, e', r⟩

theorem ListComp_S {elt iter : Expr} {x : Str} {px : Pos} {scope : Scope} {cl : List (Str × Addr)} {pos : Pos} {Q : Value → Shared → Prop} {xt : Str} {tx : Tok} {news : List (Addr × Obj)} (F₀ : Fr h₀ L s.heap m) (N₀ : News h₀ L s.heap news) (hh : A.handled = none)
    (hclos : closureFor scope env = pure cl) (hcell : ∀ y ∈ scope.names, y.2 ≠ .cell) (hkind : scope.kind = .function)
    (hnames : ∀ y ∈ scope.names, y.2 = .local → scope.names.lookup y.1 = some .local) (hx : scope.names.lookup x = some .local) (hasc : xt.cps.all (· < 128) = true) (hsz : xt.cps.size ≤ sizeLine)
    (hi : ∀ E', wpAny (model prog w) A (eval iter env) (fun v s' => v = .str xt tx ∧ s' = s) E' s)
    (R : ∀ g, CompRest prog w A h₀ L m env elt x scope cl { s with heap := g } (fun _ => True) (SignAt xt) (FinE h₀ L m { s with heap := g } Q) xt.cps.size 0 [] news)
    (hs : ∀ x, foldedSetIterable iter env x = pure x := by intro _; rfl) :
    wpAny (model prog w) A (eval (.ListComp elt [⟨.Name x px, iter, [], 0⟩] scope pos) env) Q E s := by
  rw [eval_ListComp]
  refine wpAny_comprehension_free (use := none) rfl hs hclos hkind hnames (wpAny_mono (hi _) (fun xv s₁ h₁ => ?_) fun _ _ e => e)
  obtain ⟨rfl, rfl⟩ := h₁
  refine wpAny_pyIter_ascii hasc ?_
  refine block_U (Walks.strAscii hh _ xt tx) hsz (fun i h st => by obtain ⟨o, e, _⟩ := st; exact ⟨o, e⟩) striter_st hcell hkind hx ⟨_, Heap.get?_push_size _ rfl, rfl, rfl⟩ (fun b hb => ?_)
      (F₀.keeps fun _ _ e => Heap.get?_push_of_some _ e) (N₀.grown fun _ _ e => Heap.get?_push_of_some _ e) (Nat.ne_of_lt F₀.ns.lt) (next_is_new F₀) (fun p hp => Nat.ne_of_lt (Heap.lt_size (N₀ p hp).1)) trivial (R _) ?_
  · rw [List.mem_singleton.mp hb]
    show _ < (Heap.push _ _).objs.size
    rw [Heap.size_push]; exact Nat.lt_succ_self _
  · intro D C h tk m' ys news' F' N' o1 hn hC₀ hD₀ hCL hDL hCD offC fin
    refine ⟨m', hn, fun h'' hs'' => fin D h'' tk (F'.change hs'' hCL hC₀) (fun p hp => ?_) o1⟩
    refine ⟨hs''.extBut _ _ ?_ (N' p hp).1, (N' p hp).2⟩
    rcases List.mem_cons.mp hp with rfl | hp
    · exact Ne.symm hCD
    · exact offC p hp

theorem strs_snoc {y : Str} {t : Tok} : ∀ {vs : List Value} {ys : List Str}, StrsAre vs ys → StrsAre (vs ++ [.str y t]) (ys ++ [y])
  | _, _, .nil => .cons y t .nil
  | _, _, .cons z u r => .cons z u (strs_snoc r)

theorem comp_signs {elt : Expr} {x : Str} {scope : Scope} {cl : List (Str × Addr)} {S : List (Addr × Obj) → Prop} {Fin : List Value → List (Addr × Obj) → Prop} {news : List (Addr × Obj)} {xt : Str} (g : Nat → Str)
    (turn : ∀ c t I oI C oC D m₂ ys h tk (E' : Value → Shared → Prop), c ∈ xt.cps.toList → NsObj oC m₂ → m₂ x = some (.str ⟨#[c]⟩ t) → Fr h₀ L h m → News h₀ L h ((I, oI) :: (C, oC) :: (D, lst ys) :: news) → Off3 I C D news → ((@Ne Nat I C) ∧ (@Ne Nat I D) ∧ (@Ne Nat C D)) →
      wpAny (model prog w) A (eval elt (compEnvC scope cl C env)) (CompEnd h₀ L m { s with heap := h, toks := tk } I oI C oC D (lst ys) S (fun y news' => news' = news ∧ ∃ t', y = .str (g c) t')) E' { s with heap := h, toks := tk })
    (fin : ∀ ys, StrsAre ys (xt.cps.toList.map g) → Fin ys news) : CompRest prog w A h₀ L m env elt x scope cl s S (SignAt xt) Fin xt.cps.size 0 [] news := by
  have key : ∀ (j i : Nat) (ys : List Value), i + j = xt.cps.size → StrsAre ys ((xt.cps.toList.take i).map g) → CompRest prog w A h₀ L m env elt x scope cl s S (SignAt xt) Fin j i ys news := by
    intro j
    induction j with
    | zero =>
      intro i ys hi hy
      have e : i = xt.cps.toList.length := by rw [Array.length_toList]; omega
      rw [e, List.take_length] at hy
      exact CompRest.zero (fin ys hy)
    | succ j ih =>
      intro i ys hi hy
      refine CompRest.succ ?_
      rintro v I oI C oC D m₂ h tk E' ⟨c, u, hc, rfl⟩ hC hx F N off ne
      have hc' : xt.cps.toList[i]? = some c := by rw [Array.getElem?_toList]; exact hc
      refine wpAny_mono (turn c u I oI C oC D m₂ ys h tk E' (List.mem_of_getElem? hc') hC hx F N off ne) (fun y s₂ hq => ?_) fun _ _ e => e
      obtain ⟨h', tk', nw, e, F', N', off', hS, hn, t', hy'⟩ := hq
      rw [hn] at N' off' hS
      refine ⟨h', tk', news, e, F', N', off', hS, ?_⟩
      rw [hy']
      refine ih (i + 1) _ (by omega) ?_
      rw [List.take_add_one, hc']
      simpa using strs_snoc hy
  exact key _ 0 [] (by omega) (by simp only [List.take_zero, List.map_nil]; exact .nil)
end
end Mine
end
section
open PySem PySem.W PyProof.Rows PySem.Calls PySem.Spec
set_option maxRecDepth 100000
set_option maxHeartbeats 4000000
namespace Mine

theorem keys_list_none : typeLookup (.type "list") (Str.ofString "keys") = pure none := am_miss_of_fast (by decide +kernel)

theorem getAttrQ_keys_list {prog : Program} {w : World} {A : Around} {E : Value → Shared → Prop} {s : Shared} {a : Addr} {o : Obj} {xs : Array Value} {k : Nat} {Q : Option Value → Shared → Prop}
    (hx : s.heap.get? a = some o) (hc : o.cls = .type "list") (hdat : o.data = .seq xs k) (hd : o.dict = none) (hA : A.handled = none)
    (h : ∀ h' tk, s.heap.StaysIn h' → Q none { s with heap := h', toks := tk }) :
    wpAny (model prog w) A (getAttr? (.ref a) "keys") Q E s := by
  obtain ⟨c, dct, dat, sl⟩ := o
  simp only at hc hdat hd
  subst hc hdat hd
  obtain ⟨hp, g, d, tk, os⟩ := s
  have hT : ∀ tk', (⟨hp, g, d, tk', os⟩ : Shared).TypeIs (.ref a) "list" := fun _ => ⟨_, hx, rfl⟩
  have f1 := sub_AttributeError
  have f3 := F.slot_list_getattribute.lookup
  have f4 := F.slot_list_getattribute.bind (.ref a)
  have f5 := am_list_getattr_none
  unfold getAttr? getAttrBy? getAttrBy
  repeat (any_goals (first | assumption | exact hT _ | ((with_reducible show wpAny _ _ (call (Value.builtin "list.__getattribute__") _ _) _ _ _); refine call_meets F.slot_list_getattribute (hT _) am_entry_list_getattribute (F.args_list_getattribute_2 _ _) (meets_getattribute_miss_list a xs k sl _ _ keys_list_none (by decide +kernel)) ⟨hx, hA, fun h' tk' e hx' => ?_⟩) | wp_step))
  obtain ⟨t', u', he⟩ := hx'.there
  have hk := hx'.keeps
  show wpAny _ _ (getattributeRaised _ _ _ _ _ _ _) _ _ _
  unfold getattributeRaised
  repeat (any_goals (first | assumption | wp_step))
  exact h _ _ hk

abbrev PQ := Addr × Str × Tok × Str × Tok
def PairAt (h : Heap) (q : PQ) : Prop := h.IsTuple q.1 #[.str q.2.1 q.2.2.1, .str q.2.2.2.1 q.2.2.2.2]
def store1 (kvs : List (Str × Value)) (q : PQ) : List (Str × Value) := stored kvs q.2.1 (.str q.2.2.2.1 q.2.2.2.2)

theorem entry_upd : entryFor table "dict.update.loop" = some Builtin.«dict.update.loop» := entryFor_of_tree (by kernel_rfl)
theorem plain_upd : plainId "dict.update.loop" = true := by decide +kernel

theorem store1_len (kvs : List (Str × Value)) (q : PQ) : (store1 kvs q).length ≤ kvs.length + 1 := by
  unfold store1 stored
  split
  · simp
  · simp

theorem upd_loop {prog : Program} {w : World} {A : Around} {R : Result → Shared → Prop} (hh : A.handled = none) (d it l : Addr) (its : List PQ) (hid : it ≠ d) (hli : l ≠ it) (hld : l ≠ d) (hq : ∀ q ∈ its, q.1 ≠ it ∧ q.1 ≠ d) :
    ∀ (rest don : List PQ) (kvs : List (Str × Value)) (s : Shared), its = don ++ rest → s.heap.IsListIter it l don.length → s.heap.IsList l (its.map (fun q => Value.ref q.1)).toArray → (∀ q ∈ its, PairAt s.heap q) →
      s.heap.DictOf (strKind prog w) d kvs → kvs.length + rest.length ≤ 1000 →
      (∀ h' tk', h'.DictOf (strKind prog w) d (rest.foldl store1 kvs) → (∀ b o, b ≠ it → b ≠ d → s.heap.get? b = some o → h'.get? b = some o) → R (.ok (.ret .none)) { s with heap := h', toks := tk' }) →
      codeAny (model prog w) A (.builtin "dict.update.loop" ⟨[.ref d, .ref it, .int (don.length : Int) 0, .none], []⟩) R s := by
  intro rest
  induction rest with
  | nil =>
    intro don kvs s hits hit hl hp hd hsz hR
    refine codeAny_builtin entry_upd ?_
    rw [Around.under_plainId plain_upd]
    unfold Builtin.«dict.update.loop»
    refine wpAny_bind (wpAny_pyNext_list_end (i := don.length) hh hit hl (by rw [hits]; simp) fun h' hx => ?_)
    show wpAny _ _ (Builtin.Dict.addKeywords d [] >>= _) _ _ _
    refine wpAny_bind (wpAny_pure (wpAny_pure ?_))
    exact hR h' s.toks (hd.extBut hx (Ne.symm hid)) (fun b o h1 h2 e => hx b o h1 e)
  | cons q r ih =>
    intro don kvs s hits hit hl hp hd hsz hR
    refine codeAny_builtin entry_upd ?_
    rw [Around.under_plainId plain_upd]
    unfold Builtin.«dict.update.loop»
    have hm : q ∈ its := by rw [hits]; simp
    refine wpAny_bind (wpAny_pyNext_list_item (i := don.length) (x := .ref q.1) hit hl (by rw [hits]; simp) fun h' hit' hx => ?_)
    have hp' : ∀ q ∈ its, PairAt h' q := fun q hq' => by
      obtain ⟨o, ho, r⟩ := hp q hq'
      exact ⟨o, (hx.2 _ (hq q hq').1).trans ho, r⟩
    have hl' : h'.IsList l (its.map (fun q => Value.ref q.1)).toArray := by
      obtain ⟨o, ho, r⟩ := hl
      exact ⟨o, (hx.2 _ hli).trans ho, r⟩
    have hd' : h'.DictOf (strKind prog w) d kvs := hd.sameBut hx (Ne.symm hid)
    dsimp only
    refine wpAny_bind (wpAny_holding ?_)
    obtain ⟨ot, hot, hct, nt, hdt⟩ := hp' q hm
    have hT : (({ s with heap := h' } : Shared)).TypeIs (.ref q.1) "tuple" := ⟨ot, hot, hct⟩
    refine wpAny_bind (wpAny_tryCatch ?_)
    unfold Builtin.Dict.pairItems
    refine wpAny_bind (wpAny_typeOf hT ?_)
    rw [if_pos (by decide)]
    refine wpAny_bind (wpAny_seqItems hot hdt (wpAny_pure ?_))
    show wpAny _ _ (holding _ (dictSet d (.str q.2.1 q.2.2.1) (.str q.2.2.2.1 q.2.2.2.2))) _ _ _
    refine wpAny_holding (wpAny_dictSet_pairs (strKind_is prog w q.2.1 q.2.2.1) hd' (fun h'' hd'' hx' => ?_) (by simp at hsz; unfold sizeLine; omega))
    refine wpAny_pure ⟨Code.quiet_builtin _ (by decide +kernel), ?_⟩
    have e : ((don.length : Int) + 1) = ((don ++ [q]).length : Int) := by simp
    show codeAny _ _ (.builtin "dict.update.loop" ⟨[.ref d, .ref it, .int ((don.length : Int) + 1) 0, .none], []⟩) _ _
    rw [e]
    have hl2 : l ≠ d := hld
    refine ih (don ++ [q]) (store1 kvs q) _ (by rw [hits]; simp) ?_ ?_ ?_ hd'' ?_ ?_
    · have := hit'.extBut hx'.extBut hid
      simpa using this
    · obtain ⟨o, ho, r⟩ := hl'
      exact ⟨o, (hx'.2 _ hld).trans ho, r⟩
    · intro q' hq'
      obtain ⟨o, ho, r⟩ := hp' q' hq'
      exact ⟨o, (hx'.2 _ (hq q' hq').2).trans ho, r⟩
    · have := store1_len kvs q
      simp at hsz ⊢
      omega
    · intro h3 tk3 hd3 hk3
      exact hR h3 tk3 hd3 (fun b o h1 h2 e => hk3 b o h1 h2 ((hx'.2 b h2).trans ((hx.2 b h1).trans e)))

theorem dict_init_pairs {prog : Program} {w : World} {A : Around} {E : Value → Shared → Prop} {s : Shared} {l : Addr} {its : List PQ} {n : Nat} {Q : Value → Shared → Prop} (hh : A.handled = none) (hl : s.heap.get? l = some (W.listOf (its.map (fun q => Value.ref q.1)).toArray n)) (hp : ∀ q ∈ its, PairAt s.heap q) (hsz : its.length ≤ 1000)
    (h : ∀ h' tk', h'.DictOf (strKind prog w) s.heap.objs.size (its.foldl store1 []) → s.heap.StaysIn h' → Q (.ref s.heap.objs.size) { s with heap := h', toks := tk' }) :
    wpAny (model prog w) A (call (.type "dict") [.ref l]) Q E s := by
  refine callType_codes (Q₁ := fun obj s₁ => obj = .ref s.heap.objs.size ∧ s₁ = { s with heap := s.heap.push { cls := .type "dict", data := .dict #[] } }) F.kt_called_dict (F.kt_typeCall_dict_1 _) F.entry_dict_init (kt_code_dict_new _ ⟨rfl, rfl⟩) ?_
  rintro obj s₁ ⟨rfl, rfl⟩
  have hnew : (s.heap.push { cls := .type "dict", data := .dict #[] }).DictOf (strKind prog w) s.heap.objs.size [] := Heap.DictOf.new s.heap
  have hl' : (s.heap.push { cls := .type "dict", data := .dict #[] }).get? l = some (W.listOf (its.map (fun q => Value.ref q.1)).toArray n) := Heap.get?_push_of_some _ hl
  have hlt : l < s.heap.objs.size := Heap.lt_size hl
  refine ⟨hnew.typeIs, F.args_dict_init_2 _ _, ?_⟩
  unfold Builtin.«dict.__init__»
  refine wpAny_bind ?_
  unfold Builtin.Dict.selfAndRest
  refine wpAny_bind (wpAny_notOrdered_dict hnew.typeIs ?_)
  show wpAny _ _ (pure (s.heap.objs.size, [Value.ref l])) _ _ _
  refine wpAny_pure ?_
  show wpAny _ _ (Builtin.Dict.updateFrom "dict.__init__" s.heap.objs.size (.ref l) [] .none) _ _ _
  unfold Builtin.Dict.updateFrom
  refine wpAny_bind (wpAny_typeOf (show ({ s with heap := s.heap.push { cls := .type "dict", data := .dict #[] } } : Shared).TypeIs (.ref l) "list" from ⟨_, hl', rfl⟩) ?_)
  rw [if_pos (by decide)]
  refine wpAny_bind (getAttrQ_keys_list hl' rfl rfl rfl (by simpa using hh) fun h₁ tk₁ st₁ => ?_)
  rw [if_pos (by rfl)]
  refine wpAny_bind (wpAny_rule ?_)
  have hl1 : h₁.get? l = some (W.listOf (its.map (fun q => Value.ref q.1)).toArray n) := st₁ _ _ hl'
  have hL1 : h₁.IsList l (its.map (fun q => Value.ref q.1)).toArray := ⟨_, hl1, rfl, n, rfl⟩
  refine wpAny_bind (wpAny_pyIter_list hL1 ?_)
  refine wpAny_bind (wpAny_pure (wpAny_pure ⟨Code.quiet_builtin _ (by decide +kernel), ?_⟩))
  have hit : (h₁.push { cls := .type "list_iterator", data := .fields #[.ref l, .int 0 0] }).IsListIter h₁.objs.size l 0 := ⟨_, Heap.get?_push_size _ rfl, rfl, rfl⟩
  have hd1 : h₁.DictOf (strKind prog w) s.heap.objs.size [] := by
    obtain ⟨o, es, ep, ho, r⟩ := hnew
    exact ⟨o, es, ep, st₁ _ _ ho, r⟩
  have hsz1 : s.heap.objs.size < h₁.objs.size := by
    obtain ⟨o, es, ep, ho, r⟩ := hd1
    exact Heap.lt_size ho
  refine upd_loop (by simpa using hh) s.heap.objs.size h₁.objs.size l its ?_ ?_ ?_ ?_ its [] [] _ rfl hit ?_ ?_ ?_ ?_ ?_
  · exact Nat.ne_of_gt hsz1
  · exact Nat.ne_of_lt (Nat.lt_trans hlt hsz1)
  · exact Nat.ne_of_lt hlt
  · intro q hq
    obtain ⟨o, ho, _⟩ := hp q hq
    have := Heap.lt_size ho
    exact ⟨Nat.ne_of_lt (Nat.lt_trans this hsz1), Nat.ne_of_lt this⟩
  · exact ⟨_, Heap.get?_push_of_some _ hl1, rfl, n, rfl⟩
  · intro q hq
    obtain ⟨o, ho, r⟩ := hp q hq
    exact ⟨o, Heap.get?_push_of_some _ (st₁ _ _ (Heap.get?_push_of_some _ ho)), r⟩
  · exact hd1.push _
  · simpa using hsz
  · intro h' tk' hd' hk'
    refine ⟨rfl, h h' tk' hd' (fun b o e => ?_)⟩
    have hb := Heap.lt_size e
    exact hk' b o (Nat.ne_of_lt (Nat.lt_trans hb hsz1)) (Nat.ne_of_lt hb) (Heap.get?_push_of_some _ (st₁ _ _ (Heap.get?_push_of_some _ e)))
theorem dict_pairs_K {prog : Program} {w : World} {A : Around} {E : Value → Shared → Prop} {s : Shared} {h₀ : Heap} {L l : Addr} {m : Str → Option Value} {news : List (Addr × Obj)} {n : Nat} {Q : Value → Shared → Prop} (its : List PQ) (D : List (PyData × PyData)) (F : Fr h₀ L s.heap m) (N : News h₀ L s.heap news) (hbig : h₀.NoLimit) (hh : A.handled = none)
    (hl : (l, W.listOf (its.map (fun q => Value.ref q.1)).toArray n) ∈ news) (hp : ∀ q ∈ its, (q.1, ({ cls := .type "tuple", data := .seq #[.str q.2.1 q.2.2.1, .str q.2.2.2.1 q.2.2.2.2] } : Obj)) ∈ news) (hsz : its.length ≤ 1000) (hD : PyProof.V.FlatPairs PyData.str (its.foldl store1 []) D)
    (k : ∀ d h' o tk', Fr h₀ L h' m → News h₀ L h' ((d, o) :: news) → (∀ p ∈ news, p.1 < d) → (d == sysModules) = false → o.IsDictOf (strKind prog w) (its.foldl store1 []) → PyProof.V.FlatPairs PyData.str (its.foldl store1 []) D → Q (.ref d) { s with heap := h', toks := tk' }) :
    wpAny (model prog w) A (call (.type "dict") [.ref l]) Q E s := by
  refine dict_init_pairs hh (N.get hl) (fun q hq => ⟨_, N.get (hp q hq), rfl, _, rfl⟩) hsz fun h' tk' hm hs => ?_
  obtain ⟨o', ho', hd'⟩ := Heap.dictOf_iff.mp hm
  have hL : L < s.heap.objs.size := F.ns.lt
  refine k _ h' o' tk' ⟨?_, fun b o e => hs _ _ (F.keep b o e), F.above⟩ ?_ (fun p hp => Heap.lt_size (N p hp).1) (F.notModules (modules_low hbig)) hd' hD
  · obtain ⟨o, es, ep, ho, r⟩ := F.ns
    exact ⟨o, es, ep, hs _ _ ho, r⟩
  · intro p hp
    rcases List.mem_cons.mp hp with rfl | hp
    · refine ⟨ho', Nat.ne_of_gt hL, ?_⟩
      cases q : h₀.get? s.heap.objs.size with
      | none => rfl
      | some o => exact absurd (Heap.lt_size (F.keep _ _ q)) (Nat.lt_irrefl _)
    · exact ⟨hs _ _ (N p hp).1, (N p hp).2⟩

theorem dict_pairs_3 {prog : Program} {w : World} {A : Around} {E : Value → Shared → Prop} {s : Shared} {h₀ : Heap} {L l a1 a2 a3 : Addr} {m : Str → Option Value} {news : List (Addr × Obj)} {n : Nat} {Q : Value → Shared → Prop} {k1 v1 k2 v2 k3 v3 : Str} {t1 u1 t2 u2 t3 u3 : Tok} (F : Fr h₀ L s.heap m) (N : News h₀ L s.heap news) (hbig : h₀.NoLimit) (hh : A.handled = none)
    (hl : (l, W.listOf #[.ref a1, .ref a2, .ref a3] n) ∈ news)
    (h1 : (a1, ({ cls := .type "tuple", data := .seq #[.str k1 t1, .str v1 u1] } : Obj)) ∈ news)
    (h2 : (a2, ({ cls := .type "tuple", data := .seq #[.str k2 t2, .str v2 u2] } : Obj)) ∈ news)
    (h3 : (a3, ({ cls := .type "tuple", data := .seq #[.str k3 t3, .str v3 u3] } : Obj)) ∈ news)
    (hk : ([(a1, k1, t1, v1, u1), (a2, k2, t2, v2, u2), (a3, k3, t3, v3, u3)] : List PQ).foldl store1 [] = [(k1, .str v1 u1), (k2, .str v2 u2), (k3, .str v3 u3)])
    (k : ∀ d h' o tk', Fr h₀ L h' m → News h₀ L h' ((d, o) :: news) → (∀ p ∈ news, p.1 < d) → (d == sysModules) = false → o.IsDictOf (strKind prog w) [(k1, .str v1 u1), (k2, .str v2 u2), (k3, .str v3 u3)] → PyProof.V.FlatPairs PyData.str [(k1, .str v1 u1), (k2, .str v2 u2), (k3, .str v3 u3)] [(.str k1, .str v1), (.str k2, .str v2), (.str k3, .str v3)] → Q (.ref d) { s with heap := h', toks := tk' }) :
    wpAny (model prog w) A (call (.type "dict") [.ref l]) Q E s := by
  refine dict_pairs_K [(a1, k1, t1, v1, u1), (a2, k2, t2, v2, u2), (a3, k3, t3, v3, u3)] [(.str k1, .str v1), (.str k2, .str v2), (.str k3, .str v3)] F N hbig hh hl ?_ (by simp) ?_ ?_
  · intro q hq
    simp only [List.mem_cons, List.not_mem_nil, or_false] at hq
    rcases hq with rfl | rfl | rfl
    · exact h1
    · exact h2
    · exact h3
  · rw [hk]; exact (.cons (.str _ _) (.cons (.str _ _) (.cons (.str _ _) .nil)))
  · rw [hk]; exact k

theorem dict_pairs_4 {prog : Program} {w : World} {A : Around} {E : Value → Shared → Prop} {s : Shared} {h₀ : Heap} {L l a1 a2 a3 a4 : Addr} {m : Str → Option Value} {news : List (Addr × Obj)} {n : Nat} {Q : Value → Shared → Prop} {k1 v1 k2 v2 k3 v3 k4 v4 : Str} {t1 u1 t2 u2 t3 u3 t4 u4 : Tok} (F : Fr h₀ L s.heap m) (N : News h₀ L s.heap news) (hbig : h₀.NoLimit) (hh : A.handled = none)
    (hl : (l, W.listOf #[.ref a1, .ref a2, .ref a3, .ref a4] n) ∈ news)
    (h1 : (a1, ({ cls := .type "tuple", data := .seq #[.str k1 t1, .str v1 u1] } : Obj)) ∈ news)
    (h2 : (a2, ({ cls := .type "tuple", data := .seq #[.str k2 t2, .str v2 u2] } : Obj)) ∈ news)
    (h3 : (a3, ({ cls := .type "tuple", data := .seq #[.str k3 t3, .str v3 u3] } : Obj)) ∈ news)
    (h4 : (a4, ({ cls := .type "tuple", data := .seq #[.str k4 t4, .str v4 u4] } : Obj)) ∈ news)
    (hk : ([(a1, k1, t1, v1, u1), (a2, k2, t2, v2, u2), (a3, k3, t3, v3, u3), (a4, k4, t4, v4, u4)] : List PQ).foldl store1 [] = [(k1, .str v1 u1), (k2, .str v2 u2), (k3, .str v3 u3), (k4, .str v4 u4)])
    (k : ∀ d h' o tk', Fr h₀ L h' m → News h₀ L h' ((d, o) :: news) → (∀ p ∈ news, p.1 < d) → (d == sysModules) = false → o.IsDictOf (strKind prog w) [(k1, .str v1 u1), (k2, .str v2 u2), (k3, .str v3 u3), (k4, .str v4 u4)] → PyProof.V.FlatPairs PyData.str [(k1, .str v1 u1), (k2, .str v2 u2), (k3, .str v3 u3), (k4, .str v4 u4)] [(.str k1, .str v1), (.str k2, .str v2), (.str k3, .str v3), (.str k4, .str v4)] → Q (.ref d) { s with heap := h', toks := tk' }) :
    wpAny (model prog w) A (call (.type "dict") [.ref l]) Q E s := by
  refine dict_pairs_K [(a1, k1, t1, v1, u1), (a2, k2, t2, v2, u2), (a3, k3, t3, v3, u3), (a4, k4, t4, v4, u4)] [(.str k1, .str v1), (.str k2, .str v2), (.str k3, .str v3), (.str k4, .str v4)] F N hbig hh hl ?_ (by simp) ?_ ?_
  · intro q hq
    simp only [List.mem_cons, List.not_mem_nil, or_false] at hq
    rcases hq with rfl | rfl | rfl | rfl
    · exact h1
    · exact h2
    · exact h3
    · exact h4
  · rw [hk]; exact (.cons (.str _ _) (.cons (.str _ _) (.cons (.str _ _) (.cons (.str _ _) .nil))))
  · rw [hk]; exact k

end Mine
end
section
open PySem PySem.W PyProof.Rows
namespace Mine
set_option maxRecDepth 100000
set_option maxHeartbeats 8000000
open_top hd for PySem.Challenge.rw_ie0013_01
end Mine
end
section
open PySem PySem.W PyProof.Rows PySem.Calls
namespace Mine
set_option maxRecDepth 100000
set_option maxHeartbeats 8000000

def Leave0 (g : Heap) (R : Result → Shared → Prop) (v : Value) (s' : Shared) : Prop :=
  ∃ L' m', Fr g L' s'.heap m' ∧ (g.StaysIn s'.heap → R (.ok (.ret v)) s')
theorem leave0 {g : Heap} {R : Result → Shared → Prop} {v : Value} {s' : Shared} {L' : Addr} {m' : Str → Option Value} (F : Fr g L' s'.heap m') (h : g.StaysIn s'.heap → R (.ok (.ret v)) s') : Leave0 g R v s' := ⟨L', m', F, h⟩

section
variable {prog : Program} {w : World} {A A₀ : Around} {E : Value → Shared → Prop} {s : Shared} {K : Frag} {L : Addr} {h₀ base : Heap} {m mg mb : Str → Option Value} {p : Program} {loose : List Str} {mean : ExcName → Option Value}

theorem code_def0 {env : Env} {outer : List Env} {R : Result → Shared → Prop} {name qual : Str} {params : Arguments} {body : List Stmt} {scope : Scope} {dV kV doc pm cdv ct oc : Value} {an od : Option Addr} {osl : Array (Option Value)} {f : Addr} {args : Args} {binds : List (Str × Value)}
    (B : Below A₀ base outer h₀) (F : Fr h₀ L s.heap m) (X₀ : K.In h₀) (T : Top p loose mean mg mb h₀) (hA : A.frames = some (env :: outer)) (hf : env.frame = some L) (hke : env.scope.kind = .function)
    (ho : K.lookup f = some ⟨oc, od, .func (fnOf name qual params body scope dV kV doc pm an cdv ct), osl⟩) (hcd : codeIn K cdv qual = true) (hroom : A.depth < recursionLimit)
    (hbind : BindsTo s (fnOf name qual params body scope dV kV doc pm an cdv ct) args binds) (hloc : ∀ y ∈ binds, scope.names.lookup y.1 = some .local)
    (h : ∀ g L' h₁, g = s.heap → Fr g L' h₁ (fun y => binds.reverse.lookup y) → News g L' h₁ [] → Below A base (env :: outer) g → K.In g → Top p loose mean mg mb g →
      wpAny (model prog w) (A.deeper (envOf qual scope L' f cdv)) (execs body (envOf qual scope L' f cdv))
        (fun fl s' => Leave0 g R (match fl with | .ret v => v | _ => .none) s')
        (fun e s' => wpAny (model prog w) (A.deeper (envOf qual scope L' f cdv)) (leaving (envOf qual scope L' f cdv) e) (fun _ s'' => R (.error e) s'') (fun e' s'' => R (.error e') s'') s')
        { s with heap := h₁, toks := s.toks + binds.length })
    (hco : scope.isCoroutine = false) (hgen : scope.isGenerator = false) (hk : scope.kind = .function)
    (hcell : ∀ x ∈ scope.names, x.2 ≠ .cell) : codeAny (model prog w) A (.call (.ref f) args) R s := by
  have B₁ := pushX B F hf hke
  have BG : Below A base (env :: outer) s.heap := ⟨hA, B₁.stays, B₁.frames⟩
  have st : h₀.StaysIn s.heap := F.keep
  refine codeAny_call_def (fd := fnOf name qual params body scope dV kV doc pm an cdv ct) (body := body) (binds := binds) hroom ((X₀.keeps F.keep) _ _ ho) rfl (T.nolimit.keeps F.keep) (codeRec_of (X₀.keeps F.keep) hcd) rfl hbind hcell hloc (fun h₁ hns hk₁ => ?_) hco hgen hk
  exact wpAny_mono (h s.heap s.heap.objs.size h₁ rfl ⟨hns, hk₁, Nat.le_refl _⟩ News.nil BG (X₀.keeps st) (T.keeps st)) (fun fl s' hl => by
    obtain ⟨L', m', F', k⟩ := hl
    exact k F'.keep) fun _ _ y => y

theorem code_def0C {env : Env} {outer : List Env} {R : Result → Shared → Prop} {name qual : Str} {params : Arguments} {body : List Stmt} {scope : Scope} {dV kV doc pm cdv ct oc : Value} {an od : Option Addr} {osl : Array (Option Value)} {f : Addr} {args : Args} {binds : List (Str × Value)}
    (B : Below A₀ base outer h₀) (F : Fr h₀ L s.heap m) (X₀ : K.In h₀) (T : Top p loose mean mg mb h₀) (hA : A.frames = some (env :: outer)) (hf : env.frame = some L) (hke : env.scope.kind = .function)
    (ho : K.lookup f = some ⟨oc, od, .func (fnOf name qual params body scope dV kV doc pm an cdv ct), osl⟩) (hcd : codeIn K cdv qual = true) (hroom : A.depth < recursionLimit)
    (hbind : BindsTo s (fnOf name qual params body scope dV kV doc pm an cdv ct) args binds) (hkind : (binds.all fun y => scope.names.lookup y.1 == some .local || scope.names.lookup y.1 == some .cell) = true)
    (hnd : ((cellsFrom 0 scope.names []).map (·.1)).Nodup)
    (h : ∀ g L' h₁ tk cells, g = s.heap → s.toks ≤ tk → Fr g L' h₁ (bindL (envOfC qual scope L' f cdv).kindOf binds fun _ => none) → News g L' h₁ cells →
      CellsAre (bindC (envOfC qual scope L' f cdv).kindOf binds fun _ => none) (cellsFrom (L' + 1) scope.names []) cells → Below A base (env :: outer) g → K.In g → Top p loose mean mg mb g →
      wpAny (model prog w) (A.deeper (envOfC qual scope L' f cdv)) (execs body (envOfC qual scope L' f cdv))
        (fun fl s' => Leave0 g R (match fl with | .ret v => v | _ => .none) s')
        (fun e s' => wpAny (model prog w) (A.deeper (envOfC qual scope L' f cdv)) (leaving (envOfC qual scope L' f cdv) e) (fun _ s'' => R (.error e) s'') (fun e' s'' => R (.error e') s'') s')
        { s with heap := h₁, toks := tk })
    (hco : scope.isCoroutine = false) (hgen : scope.isGenerator = false) (hk : scope.kind = .function) : codeAny (model prog w) A (.call (.ref f) args) R s := by
  have B₁ := pushX B F hf hke
  have BG : Below A base (env :: outer) s.heap := ⟨hA, B₁.stays, B₁.frames⟩
  have st : h₀.StaysIn s.heap := F.keep
  refine codeAny_call_function hroom ((X₀.keeps F.keep) _ _ ho) rfl hco hgen rfl (codeRec_of (X₀.keeps F.keep) hcd) (hbind _ _ _ _ ?_)
  refine wpAny_toks ?_
  refine wpAny_newFunctionEnv_cells hk (kindsX hkind _) fun env' he s' x => ?_
  intro htk
  subst he
  refine ⟨(T.nolimit.keeps F.keep).keeps x.toInCall.keep, codeAny_func ?_⟩
  obtain ⟨h₁, tk, rfl, _⟩ := x.done
  have hk₁ := x.toInCall.keep
  obtain ⟨cells, NC, Y⟩ := Cl.news (h₀ := s.heap) (Nat.le_refl _) fun n c hm => ⟨x.cell n c (lookup_of_mem_nodup (cellsFrom_names scope.names 0 (s.heap.objs.size + 1) [] [] rfl ▸ hnd) hm), x.above n c hm⟩
  refine wpAny_mono (h s.heap s.heap.objs.size h₁ tk cells rfl htk ⟨x.toInCall.ns, hk₁, Nat.le_refl _⟩ (fun p hp => NC p hp) Y BG (X₀.keeps st) (T.keeps st)) (fun fl s' hl => by
    obtain ⟨L', m', F', k⟩ := hl
    exact k F'.keep) fun _ _ y => y
end

abbrev Clm (w : World) (mean : ExcName → Option Value) (mg mb : Str → Option Value) (f : Addr) (pre : Prop) (vs : List Value) (R : Value → Prop) : Prop :=
  ∀ (dp un : Nat) (gd : Option (List Code)) (cn : Str) (cs : Scope) (a : Addr) (ccd : Value) (cl : List (Str × Addr)) (outer : List Env) (A₀ : Around) (base h₀ : Heap) (L : Addr) (m : Str → Option Value) (s : Shared) (Q E : Value → Shared → Prop),
    0 < s.toks → Below A₀ base outer h₀ → Fr h₀ L s.heap m → (hd.heap_39 w.params).In h₀ → Top hd.view_39 (looseW hd.view_39 []) mean mg mb h₀ → cs.kind = .function →
    pre → dp + 8 < recursionLimit → un + 200 < cLine → (∀ v h' tk', R v → s.heap.StaysIn h' → 0 < tk' → Q v { s with heap := h', toks := tk' }) →
      wpAny (model PySem.Challenge.rw_ie0013_01.row.prog w) (ktrTop dp un gd cn cs L a ccd cl outer) (call (.ref f) vs) Q E s

theorem clm_of {w : World} {mean : ExcName → Option Value} {mg mb : Str → Option Value} {f : Addr} {pre : Prop} {vs : List Value} {R : Value → Prop}
    (h : ∀ (dp un : Nat) (gd : Option (List Code)) (cn : Str) (cs : Scope) (a : Addr) (ccd : Value) (cl : List (Str × Addr)) (outer : List Env) (A₀ : Around) (base h₀ : Heap) (L : Addr) (m : Str → Option Value) (s : Shared) (Q E : Value → Shared → Prop),
    0 < s.toks → Below A₀ base outer h₀ → Fr h₀ L s.heap m → (hd.heap_39 w.params).In h₀ → Top hd.view_39 (looseW hd.view_39 []) mean mg mb h₀ → cs.kind = .function →
    pre → dp + 8 < recursionLimit → un + 200 < cLine → (∀ v h' tk', R v → s.heap.StaysIn h' → Q v { s with heap := h', toks := tk' }) →
      wpAny (model PySem.Challenge.rw_ie0013_01.row.prog w) (ktrTop dp un gd cn cs L a ccd cl outer) (call (.ref f) vs) Q E s) : Clm w mean mg mb f pre vs R := by
  intro dp un gd cn cs a ccd cl outer A₀ base h₀ L m s Q E hT hB hF hK hTop hk hp hd hu hret
  refine wpAny_toks ?_
  exact h dp un gd cn cs a ccd cl outer A₀ base h₀ L m s _ _ hT hB hF hK hTop hk hp hd hu (fun v h' tk' hv hst hle => hret v h' tk' hv hst (Nat.lt_of_lt_of_le hT hle))

theorem execs_cons_T {M : Model} {A : Around} {E : Value → Shared → Prop} {Q : Flow → Shared → Prop} {s : Shared} {st : Stmt} {rest : List Stmt} {env : Env} (hp : 0 < s.toks)
    (h : ∀ tk, 0 < tk → wpAny M A (exec st env) (fun f s' => 0 < s'.toks → (match f with | .next => wpAny M A (execs rest env) Q E s' | f => Q f s')) E { s with toks := tk }) :
    wpAny M A (execs (st :: rest) env) Q E s :=
  wpAny_execs_cons (wpAny_toks (wpAny_mono (h s.toks hp) (fun _ _ q l => q (Nat.lt_of_lt_of_le hp l)) (fun _ _ q _ => q)))

theorem rep_call {prog : Program} {w : World} {A : Around} {E : Value → Shared → Prop} {s : Shared} {x y z : Str} {t u v : Tok} {Q : Value → Shared → Prop}
    (hu : 0 < u) (huv : v = u + 1) (hyz : (y == z) = false) (hx : x.length ≤ 1000000) (hz : z.length ≤ 6)
    (hq : ∀ t' k, Q (.str (Txt.replace x y z) t') { s with toks := k }) : wpAny (model prog w) A (call (.builtin "str.replace") [.str x t, .str y u, .str z v]) Q E s :=
  SC.replaceW (Nat.ne_of_gt hu) (by rw [huv]; exact Nat.succ_ne_zero u) (by rw [huv]; exact Nat.ne_of_lt (Nat.lt_succ_self u)) hyz (by omega) (by omega) hq
def Halt (P : Prop) : Prop := P
theorem halt {P : Prop} (h : Halt P) : P := h

theorem ret_int {x y : Int} {t : Tok} (e : y = x) : ∃ t', Value.int y t = Value.int x t' := ⟨t, by rw [e]⟩
theorem ret_str {x y : Str} {t : Tok} (e : y = x) : ∃ t', Value.str y t = Value.str x t' := ⟨t, by rw [e]⟩

def subC (a b : Str) : Int := if a = b then 0 else if Txt.lower a = Txt.lower b then 1 else 2

theorem fill : PySem.Challenge.rw_ie0013_01 = PySem.Challenge.rw_ie0013_01 ∧ hd.heap_39 = hd.heap_39 := by
  k_fill
  exact ⟨rfl, rfl⟩

local macro_rules | `(tactic| cell_enter) => `(tactic| (refine' code_def0 ?k1 ?k2 ?k3 ?k5 ?kA ?kF ?kK ?k6 ?k7 ?k8 ?k9 ?kB ?_ ?c2 ?c3 ?c4 ?c5; (case kA => exact rfl); (case kF => exact rfl); (case kK => assumption); (case k1 => k_asm); (case k2 => k_asm); (case k3 => k_asm); (case k5 => k_asm); (case k6 => k_is); (case k7 => k_is); (case k8 => ktr_room); (case k9 => exact BindsTo.of_eq rfl); (case c5 => decide); (case kB => exact locs rfl); (case c2 => exact rfl); (case c3 => exact rfl); (case c4 => exact rfl); k_whole; intro g' L' h' hg' F' N' B' X' T'; (try dsimp only); (try k_lift B'); (try k_fold)))

theorem sub_claim0 (w : World) (mean : ExcName → Option Value) (mg mb : Str → Option Value) (a b : Str) (ta tb : Tok) (dp un : Nat) (gd : Option (List Code)) (cn : Str) (cs : Scope) (aa : Addr) (ccd : Value) (cl : List (Str × Addr)) (outer : List Env) (A₀ : Around) (base h₀ : Heap) (L : Addr) (m : Str → Option Value) (s : Shared) (Q E : Value → Shared → Prop)
    (hB : Below A₀ base outer h₀) (F0 : Fr h₀ L s.heap m) (hK : (hd.heap_39 w.params).In h₀) (hTop : Top hd.view_39 (looseW hd.view_39 []) mean mg mb h₀) (hkind : cs.kind = .function)
    (hpre : a.length = 1 ∧ b.length = 1) (hdp : dp + 3 < recursionLimit) (hun : un + 24 < cLine) (hret : ∀ v h' tk', (∃ t, v = Value.int (subC a b) t) → s.heap.StaysIn h' → Q v { s with heap := h', toks := tk' }) :
      wpAny (model PySem.Challenge.rw_ie0013_01.row.prog w) (ktrTop dp un gd cn cs L aa ccd cl outer) (call (.ref 42) [.str a ta, .str b tb]) Q E s := by
  w_top off
  refine wpAny_call ?_
  k_dflt cell_enter
  clear F0 hK hTop hB
  k_steps
  all_goals (refine leave0 (by assumption) (fun hst => ?_); (rename _ = s.heap => hg); subst hg; refine hret _ _ _ (ret_int ?_) hst; simp_all [subC])
end Mine
end
section
open PySem PySem.W PyProof.Rows PySem.Calls
namespace Mine

theorem ints_of : ∀ (vs : List Value) (ns : List Int), vs.length = ns.length → (∀ (j : Nat) (v : Value), vs[j]? = some v → ∃ n t, ns[j]? = some n ∧ v = .int n t) → IntsAre vs ns
  | [], [], _, _ => .nil
  | [], _ :: _, e, _ => by simp at e
  | _ :: _, [], e, _ => by simp at e
  | v :: r, n :: q, e, h => by
    obtain ⟨n', t, h1, h2⟩ := h 0 v rfl
    have : n = n' := by simpa using h1
    subst this
    rw [h2]
    exact .cons n t (ints_of r q (by simpa using e) fun j v' hj => h (j + 1) v' hj)

def row0 (n : Nat) : List Int := (List.range n).map (fun (i : Nat) => 2 + 2 * (i : Int))
theorem row0_len (n : Nat) : (row0 n).length = n := by simp [row0]

theorem list_range2 {prog : Program} {w : World} {A : Around} {E : Value → Shared → Prop} {s : Shared} {h₀ : Heap} {L r : Addr} {m : Str → Option Value} {news : List (Addr × Obj)} {b : Int} {t u v : Tok} {n : Nat} {Q : Value → Shared → Prop} (hh : A.handled = none) (F : Fr h₀ L s.heap m) (N : News h₀ L s.heap news) (hr : IsRange s.heap r 2 b 2 t u v) (hb : b = 2 * ((n : Int) + 1)) (hn : n ≤ 1000)
    (h : ∀ D us c h' tk, Fr h₀ L h' m → News h₀ L h' ((D, W.listOf us.toArray c) :: news) → (∀ p ∈ news, p.1 < D) → IntsAre us (row0 n) → Q (.ref D) { s with heap := h', toks := tk }) :
    wpAny (model prog w) A (call (.type "list") [.ref r]) Q E s := by
  have hs : Builtin.Range.rangeSize 2 b 2 = (n : Int) := by
    unfold Builtin.Range.rangeSize
    rw [if_pos (by decide)]
    split <;> omega
  have hsmall : Builtin.Range.small 2 b 2 = true := by
    unfold Builtin.Range.small
    rw [hs]
    simp [Builtin.Range.rangeFitsLong]
    omega
  refine call_list_range hh hr hsmall hs (by omega) fun h' tk acc c hk hD hI => ?_
  have hD' : h'.get? s.heap.objs.size = some (W.listOf (List.toArray acc.toList) c) := by
    rw [Array.toArray_toList]
    exact hD
  refine h _ acc.toList c h' tk (F.keeps hk) (news_pushed F N hk hD' rfl) (fun p hp => Heap.lt_size (N p hp).1) (ints_of _ _ (by rw [Array.length_toList, row0_len]; exact hI.1) fun j v hj => ?_)
  have hj' : acc[j]? = some v := by rw [← hj, Array.getElem?_toList]
  obtain ⟨t, e⟩ := hI.2 j v hj'
  have hlt : j < n := by
    have := hI.1
    rw [← this]
    exact (Array.getElem?_eq_some_iff.mp hj').1
  refine ⟨2 + 2 * (j : Int), t, by simp [row0, hlt], ?_⟩
  rw [e]
  congr 1
  omega

def good (A B : Str) (j i : Nat) (v : Int) : Prop := 2 * ((j : Int) - i) ≤ v ∧ v ≤ 2 * ((i : Int) + j) ∧ ((A.cps.toList.take i).Sublist (B.cps.toList.take j) → v ≤ 2 * ((j : Int) - i))
def outInv (A B : Str) (j : Nat) (row : List Int) (res : Int) : Prop := row.length = A.length ∧ (∀ k v, row[k]? = some v → good A B j (k + 1) v) ∧ (1 ≤ j → good A B j A.length res)
def innInv (A B : Str) (j i : Nat) (row : List Int) (res dist mn : Int) : Prop := row.length = A.length ∧ (∀ k v, k < i → row[k]? = some v → good A B (j + 1) (k + 1) v) ∧ (∀ k v, i ≤ k → row[k]? = some v → good A B j (k + 1) v) ∧ good A B j i dist ∧
  ((i = 0 ∧ res = 2 * (j : Int)) ∨ (1 ≤ i ∧ good A B (j + 1) i res)) ∧ (1 ≤ i → mn ≤ 400)

theorem row0_get {n k : Nat} {v : Int} (h : (row0 n)[k]? = some v) : k < n ∧ v = 2 + 2 * (k : Int) := by
  unfold row0 at h
  rw [List.getElem?_map] at h
  by_cases hk : k < n
  · rw [List.getElem?_range hk] at h
    exact ⟨hk, (Option.some.inj h).symm⟩
  · have : (List.range n)[k]? = none := by simp; omega
    rw [this] at h
    cases h
theorem out_start (A B : Str) (h : A.length ≠ 0) : outInv A B 0 (row0 A.length) 0 := by
  refine ⟨row0_len _, fun k v hv => ?_, fun h => absurd h (by omega)⟩
  obtain ⟨hk, rfl⟩ := row0_get hv
  refine ⟨by omega, by omega, fun hs => ?_⟩
  exfalso
  have := hs.length_le
  rw [List.take_zero, List.length_take, str_len] at this
  simp at this
  omega

theorem inn_start {A B : Str} {j : Nat} {row : List Int} {res mn : Int} (h : outInv A B j row res) : innInv A B j 0 row (2 * (j : Int)) (2 * (j : Int)) mn := by
  refine ⟨h.1, fun k v hk => absurd hk (Nat.not_lt_zero _), fun k v _ hv => h.2.1 k v hv, ⟨by omega, by omega, fun _ => by omega⟩, .inl ⟨rfl, rfl⟩, fun h => absurd h (by omega)⟩
theorem inn_start' {A B : Str} {j : Nat} {row : List Int} {res mn k : Int} (h : outInv A B j row res) (e : k = 0 + (j : Int)) : innInv A B j 0 row (k * 2) (k * 2) mn := by
  have e2 : k * 2 = 2 * (j : Int) := by omega
  rw [e2]
  exact inn_start h

theorem call_sub {w : World} {mean : ExcName → Option Value} {mg mb : Str → Option Value} {a b : Str} {ta tb : Tok} {dp un : Nat} {gd : Option (List Code)} {cn : Str} {cs : Scope} {aa : Addr} {ccd : Value} {cl : List (Str × Addr)} {outer : List Env} {A₀ : Around} {base h₀ : Heap} {L : Addr} {m : Str → Option Value} {s : Shared} {Q E : Value → Shared → Prop} {news : List (Addr × Obj)}
    (hB : Below A₀ base outer h₀) (F : Fr h₀ L s.heap m) (hK : (hd.heap_39 w.params).In h₀) (N : News h₀ L s.heap news) (hTop : Top hd.view_39 (looseW hd.view_39 []) mean mg mb h₀) (hk : cs.kind = .function) (hp : a.length = 1 ∧ b.length = 1) (hd : dp + 3 < recursionLimit) (hu : un + 24 < cLine)
    (ret : ∀ t h' tk', Fr h₀ L h' m → News h₀ L h' news → Q (.int (subC a b) t) { s with heap := h', toks := tk' }) :
    wpAny (model PySem.Challenge.rw_ie0013_01.row.prog w) (ktrTop dp un gd cn cs L aa ccd cl outer) (call (.ref 42) [.str a ta, .str b tb]) Q E s := by
  refine sub_claim0 w mean mg mb a b ta tb dp un gd cn cs aa ccd cl outer A₀ base h₀ L m s Q E hB F hK hTop hk hp hd hu (fun v h' tk' hv hst => ?_)
  obtain ⟨t, rfl⟩ := hv
  exact ret t h' tk' (F.keeps hst) (fun p hp => ⟨hst _ _ (N p hp).1, (N p hp).2⟩)

theorem sub_snoc {l m : List Nat} {x y : Nat} (h : (l ++ [x]).Sublist (m ++ [y])) : (l ++ [x]).Sublist m ∨ (x = y ∧ l.Sublist m) := by
  have h' := h.reverse
  simp only [List.reverse_append, List.reverse_cons, List.reverse_nil, List.nil_append, List.singleton_append] at h'
  cases h' with
  | cons _ h1 =>
    left
    have := h1.reverse
    simpa using this
  | cons_cons _ h1 =>
    right
    refine ⟨rfl, ?_⟩
    have := h1.reverse
    simpa using this
theorem subC_bnd (x y : Str) : 0 ≤ subC x y ∧ subC x y ≤ 2 := by
  unfold subC
  split
  · omega
  · split <;> omega
theorem inn_good {A B : Str} {j i : Nat} {row : List Int} {res dist mn : Int} (h : innInv A B j i row res dist mn) (hi : i < A.length) (hj : j < B.length) (rv : Int) (hrv : row[i]? = some rv) :
    good A B (j + 1) (i + 1) (if dist + subC (Txt.item B j) (Txt.item A i) < (if rv < res then rv else res) + 2 then dist + subC (Txt.item B j) (Txt.item A i) else (if rv < res then rv else res) + 2) := by
  obtain ⟨h1, h2, h3, h4, h5, h6⟩ := h
  have hg := h3 i rv (Nat.le_refl _) hrv
  have hb := subC_bnd (Txt.item B j) (Txt.item A i)
  have hsub : (A.cps.toList.take (i + 1)).Sublist (B.cps.toList.take (j + 1)) → (A.cps.toList.take (i + 1)).Sublist (B.cps.toList.take j) ∨ (subC (Txt.item B j) (Txt.item A i) = 0 ∧ (A.cps.toList.take i).Sublist (B.cps.toList.take j)) := by
    intro hs
    have l1 : i < A.cps.toList.length := by rw [str_len]; exact hi
    have l2 : j < B.cps.toList.length := by rw [str_len]; exact hj
    rw [List.take_add_one, List.take_add_one, List.getElem?_eq_getElem l1, List.getElem?_eq_getElem l2] at hs
    rw [List.take_add_one, List.getElem?_eq_getElem l1]
    rcases sub_snoc hs with hs | ⟨he, hs⟩
    · exact .inl hs
    · refine .inr ⟨?_, hs⟩
      have q := item_eq (a := B) (b := A) (i := (j : Int)) (j := (i : Int)) (by omega) (by omega) (by omega) (by omega)
      have e1 : ((j : Nat) : Int).toNat = j := by omega
      have e2 : ((i : Nat) : Int).toNat = i := by omega
      rw [e1, e2, List.getElem?_eq_getElem l1, List.getElem?_eq_getElem l2, he] at q
      have : Txt.item B j = Txt.item A i := eq_of_beq (by rw [q]; simp)
      unfold subC
      rw [if_pos this]
  generalize subC (Txt.item B j) (Txt.item A i) = c at *
  have hres : 2 * ((j : Int) - i) ≤ res + 2 ∧ (2 * ((j : Int) + 1 - i) ≤ res ∨ (i = 0 ∧ res = 2 * (j : Int))) := by
    rcases h5 with ⟨rfl, rfl⟩ | ⟨hi1, hg5⟩
    · exact ⟨by omega, .inr ⟨rfl, rfl⟩⟩
    · have := hg5.1
      exact ⟨by omega, .inl (by omega)⟩
  refine ⟨?_, ?_, fun hs => ?_⟩
  · have a1 := h4.1
    have a2 := hg.1
    split <;> (try split) <;> omega
  · have a2 := hg.2.1
    split <;> (try split) <;> omega
  · rcases hsub hs with hs | ⟨hc, hs⟩
    · have a2 := hg.2.2 hs
      split <;> (try split) <;> omega
    · have a2 := h4.2.2 hs
      subst hc
      split <;> (try split) <;> omega
theorem inn_next {A B : Str} {j i : Nat} {row : List Int} {res dist mn mn' k kb new : Int} {pre : List Int} (h : innInv A B j i row res dist mn) (hp : pre.length = i) (hi : i < A.length) (hj : j < B.length) (hA : A.length ≤ 7) (hB : B.length ≤ 35) (hk : k = 0 + (i : Int)) (hkb : kb = 0 + (j : Int))
    (hn : new = (if dist + subC (Txt.item B kb) (Txt.item A k) < (if row.getD k.toNat 0 < res then row.getD k.toNat 0 else res) + 2 then dist + subC (Txt.item B kb) (Txt.item A k) else (if row.getD k.toNat 0 < res then row.getD k.toNat 0 else res) + 2)) (hm : mn' ≤ new) :
    innInv A B j (pre ++ [k]).length (row.set k.toNat new) new (row.getD k.toNat 0) mn' := by
  have e1 : k.toNat = i := by omega
  have e2 : k = (i : Int) := by omega
  have e3 : kb = (j : Int) := by omega
  have hl : i < row.length := by rw [h.1]; exact hi
  have hrv : row[i]? = some (row.getD i 0) := by
    rw [List.getElem?_eq_getElem hl, List.getD_eq_getElem?_getD, List.getElem?_eq_getElem hl]; rfl
  rw [e1, e2, e3] at hn
  rw [e1]
  have hg := inn_good h hi hj (row.getD i 0) hrv
  rw [← hn] at hg
  have hlen : (pre ++ [k]).length = i + 1 := by simp [hp]
  rw [hlen]
  refine ⟨by rw [List.length_set]; exact h.1, fun q v hq hv => ?_, fun q v hq hv => ?_, ?_, .inr ⟨by omega, hg⟩, fun _ => ?_⟩
  · by_cases e : q = i
    · subst e
      rw [List.getElem?_set_self hl] at hv
      rw [← Option.some.inj hv]
      exact hg
    · rw [List.getElem?_set_ne (Ne.symm e)] at hv
      exact h.2.1 q v (by omega) hv
  · rw [List.getElem?_set_ne (by omega)] at hv
    exact h.2.2.1 q v (by omega) hv
  · exact h.2.2.1 i _ (Nat.le_refl _) hrv
  · have := hg.2.1
    omega
theorem inn_done {A B : Str} {j : Nat} {row : List Int} {res dist mn : Int} {pre : List Int} {k : Int} (h : innInv A B j A.length row res dist mn) (hA : A.length ≠ 0) (hp : pre.length = j) : outInv A B (pre ++ [k]).length row res ∧ mn ≤ 400 := by
  have hlen : (pre ++ [k]).length = j + 1 := by simp [hp]
  rw [hlen]
  refine ⟨⟨h.1, fun q v hv => ?_, fun _ => ?_⟩, h.2.2.2.2.2 (by omega)⟩
  · have hq : q < row.length := (List.getElem?_eq_some_iff.mp hv).1
    exact h.2.1 q v (by rw [← h.1]; exact hq) hv
  · rcases h.2.2.2.2.1 with ⟨e, _⟩ | ⟨_, hg⟩
    · omega
    · exact hg

theorem out_done {A B : Str} {row : List Int} {res : Int} (h : outInv A B B.length row res) (hB : B.length ≠ 0) : 2 * ((B.length : Int) - A.length) ≤ res ∧ (A.cps.toList.Sublist B.cps.toList → res ≤ 2 * ((B.length : Int) - A.length)) := by
  have hg := h.2.2 (by omega)
  refine ⟨hg.1, fun hs => hg.2.2 ?_⟩
  rw [List.take_of_length_le (by rw [str_len]; exact Nat.le_refl _), List.take_of_length_le (by rw [str_len]; exact Nat.le_refl _)]
  exact hs
end Mine
end
section
open PySem PySem.W PyProof.Rows PySem.Calls
namespace Mine
set_option maxRecDepth 100000
set_option maxHeartbeats 8000000
theorem fillE : PySem.Challenge.rw_ie0013_01 = PySem.Challenge.rw_ie0013_01 ∧ hd.heap_39 = hd.heap_39 := by
  k_fill
  exact ⟨rfl, rfl⟩

local macro_rules | `(tactic| cell_enter) => `(tactic| (refine' code_def0 ?k1 ?k2 ?k3 ?k5 ?kA ?kF ?kK ?k6 ?k7 ?k8 ?k9 ?kB ?_ ?c2 ?c3 ?c4 ?c5; (case kA => exact rfl); (case kF => exact rfl); (case kK => assumption); (case k1 => k_asm); (case k2 => k_asm); (case k3 => k_asm); (case k5 => k_asm); (case k6 => k_is); (case k7 => k_is); (case k8 => ktr_room); (case k9 => exact BindsTo.of_eq rfl); (case c5 => decide); (case kB => exact locs rfl); (case c2 => exact rfl); (case c3 => exact rfl); (case c4 => exact rfl); k_whole; intro g' L' h' hg' F' N' B' X' T'; (try dsimp only); (try k_lift B'); (try k_fold)))

theorem len_amp (x : Str) {n : Nat} (h : x.length ≤ n) : (Txt.replace x (Str.ofString "&") (Str.ofString "&amp;")).length ≤ 5 * n := by
  rw [lAmp, lAmpE]; exact replace_len _ _ _ 5 _ (by decide) (by decide) (by omega)
theorem len_lt (x : Str) {n : Nat} (h : x.length ≤ n) : (Txt.replace x (Str.ofString "<") (Str.ofString "&lt;")).length ≤ 5 * n := by
  rw [lLt, lLtE]; exact replace_len _ _ _ 5 _ (by decide) (by decide) (by omega)
theorem len_gt (x : Str) {n : Nat} (h : x.length ≤ n) : (Txt.replace x (Str.ofString ">") (Str.ofString "&gt;")).length ≤ 5 * n := by
  rw [lGt, lGtE]; exact replace_len _ _ _ 5 _ (by decide) (by decide) (by omega)
theorem ab_amp (x : Str) (h : (Builtin.Str.occurrences x (Str.ofString "&") 0 x.length 1).isEmpty = true) : Txt.replace x (Str.ofString "&") (Str.ofString "&amp;") = x := by
  rw [lAmp] at h ⊢; exact replace_absent _ _ _ h
theorem ab_lt (x : Str) (h : (Builtin.Str.occurrences x (Str.ofString "<") 0 x.length 1).isEmpty = true) : Txt.replace x (Str.ofString "<") (Str.ofString "&lt;") = x := by
  rw [lLt] at h ⊢; exact replace_absent _ _ _ h
theorem ab_gt (x : Str) (h : (Builtin.Str.occurrences x (Str.ofString ">") 0 x.length 1).isEmpty = true) : Txt.replace x (Str.ofString ">") (Str.ofString "&gt;") = x := by
  rw [lGt] at h ⊢; exact replace_absent _ _ _ h

theorem mem_sub1 {c k : Nat} {z l : List Nat} (h : k ∈ sub1 c z l) : k ∈ z ∨ k ∈ l := by
  unfold sub1 at h
  obtain ⟨b, hb, hk⟩ := List.mem_flatMap.mp h
  split at hk
  · exact .inl hk
  · rw [List.mem_singleton.mp hk]; exact .inr hb
theorem fr_amp {x : Str} {k : Nat} (hx : k ∉ x.cps.toList) (hk : k ∉ [38, 97, 109, 112, 59]) : k ∉ (Txt.replace x (Str.ofString "&") (Str.ofString "&amp;")).cps.toList := by
  rw [lAmp, lAmpE, replace_list]; exact fun h => (mem_sub1 h).elim hk hx
theorem fr_lt {x : Str} {k : Nat} (hx : k ∉ x.cps.toList) (hk : k ∉ [38, 108, 116, 59]) : k ∉ (Txt.replace x (Str.ofString "<") (Str.ofString "&lt;")).cps.toList := by
  rw [lLt, lLtE, replace_list]; exact fun h => (mem_sub1 h).elim hk hx
theorem fr_gt {x : Str} {k : Nat} (hx : k ∉ x.cps.toList) (hk : k ∉ [38, 103, 116, 59]) : k ∉ (Txt.replace x (Str.ofString ">") (Str.ofString "&gt;")).cps.toList := by
  rw [lGt, lGtE, replace_list]; exact fun h => (mem_sub1 h).elim hk hx
theorem in_no {prog : Program} {w : World} {A : Around} {E : Value → Shared → Prop} {s : Shared} {x y : Str} {u t : Tok} {c : Nat} {Q : Value → Shared → Prop} (hy : y = ⟨#[c]⟩) (hx : c ∉ x.cps.toList)
    (h : Q (.bool false) s) : wpAny (model prog w) A (compareOp .In (.str y u) (.str x t)) Q E s := by
  subst hy
  refine in_str ?_
  rw [absent_of x c hx]
  exact h

local macro_rules | `(tactic| k_steps) => `(tactic| repeat' (first | ((with_reducible show (0:Nat) < _ → _); intro hT9; (try dsimp only)) | (k_unfold; (try dsimp only)) | (k_end; wrow_close) | walk1 | (dsimp only; walk1) | (leave1; walk_say "STEP leave1"; try dsimp only) | fail "no step"))
local macro_rules | `(tactic| walk_at "execs cons") => `(tactic| (k_here; refine execs_cons_T (by first | assumption | omega | (dsimp only; omega)) ?_; intro tk9 hT9; (try dsimp only)))
local macro_rules | `(tactic| walk_at "call builtin:str.replace") => `(tactic| (k_here; refine rep_call (by first | assumption | omega) (by rfl) (by decide) (Nat.le_trans (by first | assumption | exact len_amp _ (by assumption) | exact len_lt _ (by first | assumption | exact len_amp _ (by assumption))) (by decide)) (by decide) ?_; intro t9 k9; (try dsimp only)))


theorem esc_claim (w mean mg mb) (a : Str) (ta : Tok) : Clm w mean mg mb 28 (a.length ≤ 1000) [.str a ta] (fun v => ∃ t, v = .str (escS a) t) := by
  w_top off
  refine clm_of ?_
  intro dp un gd cn cs aa ccd cl outer A₀ base h₀ L m s Q E hT0 hB F0 hK hTop hkind hpre hdp hun hret
  refine wpAny_call ?_
  k_dflt cell_enter
  clear F0 hK hTop hB
  k_steps
  all_goals (refine leave0 (by assumption) (fun hst => ?_); (rename _ = s.heap => hg); subst hg; refine hret _ _ _ (ret_str ?_) hst; rw [← escS_eq]; try simp only [ab_amp, ab_lt, ab_gt, *])

local macro_rules | `(tactic| walk_at "compareOp In str str") => `(tactic| (k_here; refine in_no (c := 34) lQuot (by repeat' (first | assumption | (refine fr_amp ?_ (by decide)) | (refine fr_lt ?_ (by decide)) | (refine fr_gt ?_ (by decide)))) ?_))
local macro_rules | `(tactic| walk_at "compareOp In str str") => `(tactic| (k_here; refine in_no (c := 13) lCr (by repeat' (first | assumption | (refine fr_amp ?_ (by decide)) | (refine fr_lt ?_ (by decide)) | (refine fr_gt ?_ (by decide)))) ?_))
local macro_rules | `(tactic| walk_at "compareOp In str str") => `(tactic| (k_here; refine in_no (c := 10) lNl (by repeat' (first | assumption | (refine fr_amp ?_ (by decide)) | (refine fr_lt ?_ (by decide)) | (refine fr_gt ?_ (by decide)))) ?_))
local macro_rules | `(tactic| walk_at "compareOp In str str") => `(tactic| (k_here; refine in_no (c := 9) lTab (by repeat' (first | assumption | (refine fr_amp ?_ (by decide)) | (refine fr_lt ?_ (by decide)) | (refine fr_gt ?_ (by decide)))) ?_))


theorem attr_claim (w mean mg mb) (a : Str) (ta : Tok) : Clm w mean mg mb 35 (a.length ≤ 1000 ∧ ∀ c ∈ a.cps.toList, c = 97 ∨ c = 38 ∨ c = 60 ∨ c = 62) [.str a ta] (fun v => ∃ t, v = .str (escS a) t) := by
  w_top off
  refine clm_of ?_
  intro dp un gd cn cs aa ccd cl outer A₀ base h₀ L m s Q E hT0 hB F0 hK hTop hkind hpre0 hdp hun hret
  have hpre := hpre0.1
  have f34 : 34 ∉ a.cps.toList := fun h => by have := hpre0.2 _ h; omega
  have f13 : 13 ∉ a.cps.toList := fun h => by have := hpre0.2 _ h; omega
  have f10 : 10 ∉ a.cps.toList := fun h => by have := hpre0.2 _ h; omega
  have f9 : 9 ∉ a.cps.toList := fun h => by have := hpre0.2 _ h; omega
  clear hpre0
  refine wpAny_call ?_
  k_dflt cell_enter
  clear F0 hK hTop hB
  k_steps
  all_goals (refine leave0 (by assumption) (fun hst => ?_); (rename _ = s.heap => hg); subst hg; refine hret _ _ _ (ret_str ?_) hst; rw [← escS_eq]; try simp only [ab_amp, ab_lt, ab_gt, *])
end Mine
end
section
open PySem PySem.W PyProof.Rows PySem.Calls
namespace Mine
set_option maxRecDepth 100000
set_option maxHeartbeats 8000000
theorem fillR : PySem.Challenge.rw_ie0013_01 = PySem.Challenge.rw_ie0013_01 ∧ hd.heap_39 = hd.heap_39 := by
  k_fill
  exact ⟨rfl, rfl⟩

local macro_rules | `(tactic| cell_enter) => `(tactic| (refine' code_def0C ?k1 ?k2 ?k3 ?k5 ?kA ?kF ?kK ?k6 ?k7 ?k8 ?k9 ?kB ?kD ?_ ?c2 ?c3 ?c4; (case kA => exact rfl); (case kF => exact rfl); (case kK => assumption); (case k1 => k_asm); (case k2 => k_asm); (case k3 => k_asm); (case k5 => k_asm); (case k6 => k_is); (case k7 => k_is); (case k8 => ktr_room); (case k9 => exact BindsTo.of_eq rfl); (case kB => exact rfl); (case kD => decide +kernel); (case c2 => exact rfl); (case c3 => exact rfl); (case c4 => exact rfl); k_whole; intro g' L' h' tk' cells' hg' htk' F' N' Y' B' X' T'; k_cells Y'; (try simp only [List.cons_append, List.nil_append] at N'); (try dsimp only); (try k_lift B'); (try k_fold)))

theorem ne_nilc {prog : Program} {w : World} {A : Around} {E : Value → Shared → Prop} {s : Shared} {l b : Addr} {items : Array Value} {Q : Value → Shared → Prop} (hl : s.heap.IsList l items) (hb : s.heap.IsList b #[]) (hsz : (items.size != (#[] : Array Value).size) = true) (hu : A.units < cLine)
    (h : Q (.bool true) s) : wpAny (model prog w) A (compareOp .NotEq (.ref l) (.ref b)) Q E s := SeqAt.RcNeAt.lists_lengths hl hb hsz hu prog w E Q h
theorem ne_niln {prog : Program} {w : World} {A : Around} {E : Value → Shared → Prop} {s : Shared} {l b : Addr} {Q : Value → Shared → Prop} (hl : s.heap.IsList l #[]) (hb : s.heap.IsList b #[]) (hu : A.units < cLine)
    (h : Q (.bool false) s) : wpAny (model prog w) A (compareOp .NotEq (.ref l) (.ref b)) Q E s := SeqAt.RcNeAt.lists (e := fun _ => true) hl hb rfl hu (fun j h1 _ => absurd h1 (Nat.not_lt_zero _)) prog w E Q h
local macro_rules | `(tactic| units_room) => `(tactic| ((try simp only [units_in1, units_deeper, Around.mark_units, units_caller]); (try dsimp only [ktrTop]); (have hcL' := cLine_is); omega))
local macro_rules | `(tactic| walk_at "compareOp NotEq ref ref") => `(tactic| (k_here; (with_reducible show wpAny _ _ (compareOp CmpOp.NotEq (Value.ref _) (Value.ref _)) _ _ _); k_dflt (first | (refine ne_nilc (by is_list) (by is_list) (by rfl) (by units_room) ?_) | (refine ne_niln (by is_list) (by is_list) (by units_room) ?_))))

theorem item_at {prog : Program} {w : World} {A : Around} {E : Value → Shared → Prop} {s : Shared} {value slice : PySem.Expr} {l : Addr} {vs : List Value} {k : Int} {u : Tok} {v : Value} {Q : Value → Shared → Prop}
    (hl : s.heap.IsList l vs.toArray) (h0 : 0 ≤ k) (hhi : k < 2 ^ 63) (hx : vs[k.toNat]? = some v) (h : Q v s)
    (hs : subscripted slice false (.ref l) (.int k u) = operate [.ref l, .int k u] (getItem (.ref l) (.int k u)) := by with_unfolding_all rfl) :
    wpAny (model prog w) A (subscriptTail value slice (.ref l) (.int k u)) Q E s :=
  tail_any hl.typeIs slot_list_getitem.lookup (wpAny_getItem_list hl h0 hhi (by simpa using hx) h) hs
local macro_rules | `(tactic| walk_at "subscriptTail Name Constant ref int") => `(tactic| (k_here; (with_reducible show wpAny _ _ (subscriptTail _ _ (Value.ref _) (Value.int 0 _)) _ _ _); k_dflt (refine item_at (by is_list) (by decide) (by decide) (by rfl) ?_ (by with_unfolding_all rfl))))
local macro_rules | `(tactic| walk_at "call type:dict") => `(tactic| (k_here; (with_reducible show wpAny _ _ (call (Value.type "dict") [Value.ref _]) _ _ _); k_dflt (first
  | (refine dict_pairs_3 (by k_asm) (by k_asm) (Top.nolimit (by k_asm)) (by rfl) (by k_mem) (by k_mem) (by k_mem) (by k_mem) (by rfl) ?_)
  | (refine dict_pairs_4 (by k_asm) (by k_asm) (Top.nolimit (by k_asm)) (by rfl) (by k_mem) (by k_mem) (by k_mem) (by k_mem) (by k_mem) (by rfl) ?_)); intro d' h' o' tkd' F' N' l1 lo' hd' hf'; (try k_lt l1)))

abbrev RdS := Str × Tok × Obj × Int × Tok


local macro_rules | `(tactic| walk_at "KswEnd") => `(tactic| ((rename Fr _ _ _ _ => fE); (rename News _ _ _ _ => nE); (rename rdInv _ _ _ => hI9); (refine' ksw_end (⟨_, _, _, _, _⟩ : RdS) fE nE ?hn ?hf ?hk ?hr ?hp ?hm); (case hn => exact List.forall_mem_cons.mpr ⟨by k_mem, List.forall_mem_cons.mpr ⟨by k_mem, fun _ h => nomatch h⟩⟩); (case hf => assumption); (case hk => exact List.forall_mem_cons.mpr ⟨by rfl, fun _ h => nomatch h⟩); (case hr => (intro z h2 h3; (simp only [List.forall_mem_cons, List.not_mem_nil, false_implies, implies_true, and_true, ne_eq] at h2); (simp only [List.contains_cons, List.contains_nil, Bool.or_false, Bool.or_eq_false_iff, beq_eq_false_iff_ne, ne_eq] at h3); (simp [kstB, h2, h3]))); (case hp => first | exact rd_amp hI9 (by assumption) (by assumption) | exact rd_lt hI9 (by assumption) (by assumption) (by assumption) | exact rd_gt hI9 (by assumption) (by assumption) (by assumption) (by assumption) | exact rd_one hI9 (by assumption) (by assumption) (by assumption) (by assumption)); (case hm => (dsimp only; omega))))

local macro_rules | `(tactic| walk_at "binaryOp Mult int int") => `(tactic| (k_here; with_reducible refine mul_int ?_; (try dsimp only)))
local macro_rules | `(tactic| walk_at "binaryOp Add int int") => `(tactic| (k_here; with_reducible refine add_int ?_; (try dsimp only)))
local macro_rules | `(tactic| walk_at "binaryOp Sub int int") => `(tactic| (k_here; with_reducible refine sub_int ?_; (try dsimp only)))
theorem read_claim (w mean mg mb) (a : Str) (ta : Tok) : Clm w mean mg mb 54 (a.length ≤ 1000) [.str a ta] (fun v => ∃ t, v = .str (readS a) t) := by
  w_top off
  refine clm_of ?_
  intro dp un gd cn cs aa ccd cl outer A₀ base h₀ L m s Q E hT0 hB F0 hK hTop hkind hpre hdp hun hret
  refine wpAny_call ?_
  k_dflt cell_enter
  clear F0 hK hTop hB
  rename_i g' L' hh tk' hg' htk' F' B' X' T' o1 o2 d1 d2 N'
  have e1 : o2.data = .cell (some (.str a ta)) := d2
  have e0 : o1.data = .cell none := d1
  clear d1 d2
  k_with "exec While Compare cons nil" => refine halt ?_
  k_steps
  unfold Halt
  rename Fr _ _ _ _ => lF
  rename News _ _ _ _ => lN
  refine ksw_while (σ := RdS) (fun c => (L' + 1 + 1, c.2.2.1) :: (L' + 1, o2) :: []) (fun c => [(Str.ofString "found", .str c.1 c.2.1)]) (fun c => c.2.2.1.data = .cell (some (.int c.2.2.2.1 c.2.2.2.2))) [Str.ofString "word"] (fun c => rdInv a c.1 c.2.2.2.1) (fun c => a.length - c.2.2.2.1.toNat) (⟨Str.ofString "", tk', _, 0, tk' + 1⟩) lF (kst_newsOf lN (fun p hp => List.mem_cons_of_mem _ hp)) ?kf ?kk (rd_start a) ?_
  (case kf => assumption)
  (case kk => kst_all)
  clear lF lN
  intro c u hh tkk hF hI lF lN
  obtain ⟨fo, tf, oh, he, th⟩ := c
  dsimp only at hF hI lF lN ⊢
  have hI1 := hI.1
  have hI2 := hI.2.1
  have hI3 := hI.2.2.1
  (try k_fold)
  k_with_none
  k_steps

  all_goals (
    refine leave0 (by assumption) (fun hst => ?_)
    subst hg'
    refine hret _ _ _ (ret_str ?_) hst
    exact rd_end hI (by omega))
end Mine
end
section
open PySem PySem.W PyProof.Rows PySem.Calls
namespace Mine
set_option maxRecDepth 100000
set_option maxHeartbeats 8000000
theorem fillL : PySem.Challenge.rw_ie0013_01 = PySem.Challenge.rw_ie0013_01 ∧ hd.heap_39 = hd.heap_39 := by
  k_fill
  exact ⟨rfl, rfl⟩

local macro_rules | `(tactic| cell_enter) => `(tactic| (refine' code_def0 ?k1 ?k2 ?k3 ?k5 ?kA ?kF ?kK ?k6 ?k7 ?k8 ?k9 ?kB ?_ ?c2 ?c3 ?c4 ?c5; (case kA => exact rfl); (case kF => exact rfl); (case kK => assumption); (case k1 => k_asm); (case k2 => k_asm); (case k3 => k_asm); (case k5 => k_asm); (case k6 => k_is); (case k7 => k_is); (case k8 => ktr_room); (case k9 => exact BindsTo.of_eq rfl); (case c5 => decide); (case kB => exact locs rfl); (case c2 => exact rfl); (case c3 => exact rfl); (case c4 => exact rfl); k_whole; intro g' L' h' hg' F' N' B' X' T'; (try dsimp only); (try k_lift B'); (try k_fold)))


local macro_rules | `(tactic| units_room) => `(tactic| ((try simp only [units_in1, units_deeper, Around.mark_units, units_caller]); (try dsimp only [ktrTop]); (have hcL' := cLine_is); omega))

theorem fr_forget {h₀ h : Heap} {L : Addr} {m : Str → Option Value} (ps : List (Str × Value)) (F : Fr h₀ L h m) (hp : ∀ p ∈ ps, m p.1 = some p.2) : ∃ u, Fr h₀ L h (kstB u ps) := by
  refine ⟨m, ?_⟩
  have e : kstB m ps = m := by
    funext z
    exact kstB_eq hp (fun _ => rfl)
  rw [e]
  exact F

def Cut (P : Shared → Prop) (f : Flow) (s' : Shared) : Prop := f = .next ∧ P s'
theorem cut {M : Model} {A : Around} {E : Value → Shared → Prop} {s : Shared} {t : Sem Flow} {Q : Flow → Shared → Prop} (P : Shared → Prop) (h : wpAny M A t (Cut P) E s) (k : ∀ s', P s' → Q .next s') : wpAny M A t Q E s :=
  wpAny_mono h (fun f s' ⟨e, p⟩ => by subst e; exact k s' p) (fun _ _ e => e)
theorem slice_strN_id {prog : Program} {w : World} {A : Around} {E : Value → Shared → Prop} {s : Shared} {value slice : PySem.Expr} {x : Str} {t : Tok} {h₀ : Heap} {L : Addr} {m : Str → Option Value} {news : List (Addr × Obj)} {Q : Value → Shared → Prop}
    (hF : Fr h₀ L s.heap m) (hN : News h₀ L s.heap news) (h : ∀ h' t' k, Fr h₀ L h' m → News h₀ L h' news → Q (.str x t') { s with heap := h', toks := k })
    (hs : subscripted slice false (.str x t) (.ref s.heap.objs.size) = operate [.ref s.heap.objs.size, .str x t] (getItem (.str x t) (.ref s.heap.objs.size)) := by with_unfolding_all rfl)
    (ht : ∀ r, letTemporaryGo value (.str x t) r = pure () := by intro _; with_unfolding_all rfl) (hsz : x.length ≤ sizeLine := by size_fits) :
    wpAny (model prog w) A (subscriptTail value slice (.str x t) (.ref s.heap.objs.size)) Q E { s with heap := s.heap.push { cls := .type "slice", data := .fields #[.none, .none, .none] } } :=
  slice_strN_nn hF hN (fun h' t' k a b => by rw [slice_nn]; exact h h' t' k a b) hs ht hsz
local macro_rules | `(tactic| walk_at "subscriptTail Name Slice str ref") => `(tactic| (k_here; (with_reducible show wpAny _ _ (subscriptTail _ (Expr.Slice none (some _) none _) _ _) _ _ _); (with_reducible rename Fr _ _ _ _ => F'); (with_reducible rename News _ _ _ _ => N'); (refine slice_strN_id (hsz := ?hsz) (s := ⟨_, _, _, _, _⟩) F' N' ?_); (case hsz => size_fits); intro _ _ _ _ _))
local macro_rules | `(tactic| walk_at "subscriptTail Name Slice str ref") => `(tactic| (k_here; (exfalso; omega)))
local macro_rules | `(tactic| walk_at "subscriptTail Name BinOp str int") => `(tactic| (k_here; refine item_str (fitsSsize_of (N := 9223372036854775808) (by omega) (by omega) (Int.le_refl _)) (by first | exact in_a (by assumption) (by assumption) (by assumption) | exact in_b (by assumption) (by assumption) (by assumption) | exact in_a0 (by assumption) (by assumption) (by assumption) | exact in_b0 (by assumption) (by assumption) (by assumption) | omega) (by omega) ?_; intro _))

local macro_rules | `(tactic| walk_at "call type:list") => `(tactic| (k_here; (with_reducible show wpAny _ _ (call (Value.type _) [Value.ref _]) _ _ _); (rename IsRange _ _ _ _ _ _ _ _ => rgX); k_dflt (refine' list_range2 rfl ?k1 ?k2 rgX rfl ?k6 ?_; (case k1 => k_asm); (case k2 => k_asm); (case k6 => omega); k_whole); intro D' vs' c' h' tk' F' N' l1 hI'; (try k_lt l1)))

local macro_rules | `(tactic| walk_at "call ref") => `(tactic| (k_here; (with_reducible show wpAny _ _ (call (Value.ref 42) [Value.str _ _, Value.str _ _]) _ _ _); k_dflt (refine' call_sub ?k1 ?k2 ?k3 ?k4 ?k5 ?k6 ?k7 ?k8 ?k9 ?_; (case k1 => k_asm); (case k2 => k_asm); (case k3 => k_asm); (case k4 => k_asm); (case k5 => k_asm); (case k6 => first | exact rfl | assumption); (case k7 => (constructor <;> omega)); (case k8 => ktr_room); (case k9 => first | ktr_units | omega)); intro t9 h9 tk9 F9 N9; (try dsimp only); (try k_fold)))

local macro_rules | `(tactic| walk_at "binaryOp Mult int int") => `(tactic| (k_here; with_reducible refine mul_int ?_; (try dsimp only)))
local macro_rules | `(tactic| walk_at "binaryOp Add int int") => `(tactic| (k_here; with_reducible refine add_int ?_; (try dsimp only)))
local macro_rules | `(tactic| walk_at "binaryOp Sub int int") => `(tactic| (k_here; with_reducible refine sub_int ?_; (try dsimp only)))
local macro_rules | `(tactic| walk_at "InvEndN") => `(tactic| k_dflt kst_close)
theorem lev_claim (w mean mg mb) (a b : Str) (ta tb tm : Tok) : Clm w mean mg mb 49 (a.length ≤ 7 ∧ b.length ≤ 35 ∧ a.length ≤ b.length) [.str a ta, .str b tb, .int 1000 tm]
    (fun v => ∃ r t, v = .int r t ∧ 2 * ((b.length : Int) - a.length) ≤ r ∧ (a.cps.toList.Sublist b.cps.toList → r ≤ 2 * ((b.length : Int) - a.length))) := by
  w_top off
  refine clm_of ?_
  intro dp un gd cn cs aa ccd cl outer A₀ base h₀ L m s Q E hT0 hB F0 hK hTop hkind hpre hdp hun hret
  refine wpAny_call ?_
  k_dflt cell_enter
  clear F0 hK hTop hB
  rename_i g' L' h' hg' F' N' B' X' T'
  obtain ⟨hla, hlb, hlab⟩ := hpre
  k_with "exec While BoolOp cons nil" => refine halt ?_
  k_steps
  k_with_none
  · dsimp only
    refine leave0 (by assumption) (fun hst => ?_)
    subst hg'
    have hab : a = b := eq_of_beq (by assumption)
    refine hret _ _ _ ⟨_, _, rfl, by rw [hab]; omega, fun _ => by rw [hab]; omega⟩ hst
  · unfold Halt
    refine cut (fun s' => ∃ h tk u p tp, s' = { s with heap := h, toks := tk } ∧ Fr g' L' h (kstB u [(Str.ofString "a", .str a ta), (Str.ofString "b", .str b tb), (Str.ofString "max_cost", .int 1000 tm), (Str.ofString "pre", .int p tp)]) ∧ preInv a b p) ?_ ?_
    · rename Fr _ _ _ _ => lF
      rename News _ _ _ _ => lN
      refine' ksw_while (σ := Int × Tok) (fun _ => []) (fun c => [(Str.ofString "pre", .int c.1 c.2)]) (fun _ => True) [] (fun c => preInv a b c.1) (fun c => a.length - c.1.toNat) (⟨0, _⟩) lF lN trivial ?kk (pre_start a b) ?_
      case kk => exact List.forall_mem_cons.mpr ⟨by rfl, fun _ h => nomatch h⟩
      clear lF lN
      intro c u hh tkk hF hI lF lN
      obtain ⟨pr, tp⟩ := c
      dsimp only at hF hI lF lN ⊢
      have hI1 := hI.1
      have hI2 := hI.2.1
      have hI3 := hI.2.2.1
      (try k_fold)
      k_with "KswEnd" => refine halt ?_
      k_steps
      k_with_none
      · unfold Halt
        rename Fr _ _ _ _ => fE
        rename News _ _ _ _ => nE
        refine' ksw_end (⟨pr + 1, _⟩ : Int × Tok) fE nE (fun _ h => nomatch h) trivial ?hk ?hr (pre_next hI (by assumption) (by assumption) (by assumption)) (pre_less hI (by assumption))
        case hk => exact List.forall_mem_cons.mpr ⟨by rfl, fun _ h => nomatch h⟩
        case hr =>
          intro z h2 h3
          simp only [List.forall_mem_cons, List.not_mem_nil, false_implies, implies_true, and_true, ne_eq] at h2
          simp [kstB, h2]
      all_goals (
        rename Fr _ _ _ _ => fE
        obtain ⟨u', fE'⟩ := fr_forget [(Str.ofString "a", .str a ta), (Str.ofString "b", .str b tb), (Str.ofString "max_cost", .int 1000 tm), (Str.ofString "pre", .int pr tp)] fE (by (iterate 4 (refine List.forall_mem_cons.mpr ⟨by rfl, ?_⟩)); exact List.forall_mem_nil _)
        exact ⟨rfl, _, _, u', pr, tp, rfl, fE', hI⟩)
    · rintro s' ⟨h, tk, u, p, tp, rfl, lF, hI⟩
      have lN : News g' L' h [] := News.nil
      dsimp only
      (try k_fold)
      k_with "exec While BoolOp cons nil" => refine halt ?_
      k_steps
      k_with_none
      unfold Halt
      have hA1 := slice_from a p hI.1 hI.2.1
      have hB1 := slice_from b p hI.1 hI.2.2.1
      generalize Txt.slice a (some p) none = a1 at *
      generalize Txt.slice b (some p) none = b1 at *
      refine cut (fun s' => ∃ h tk u q tq ta1 tb1, s' = { s with heap := h, toks := tk } ∧ Fr g' L' h (kstB u [(Str.ofString "a", .str a1 ta1), (Str.ofString "b", .str b1 tb1), (Str.ofString "max_cost", .int 1000 tm), (Str.ofString "post", .int q tq)]) ∧ postInv a1 b1 q) ?_ ?_
      · rename Fr _ _ _ _ => lF
        refine' ksw_while (σ := Int × Tok) (fun _ => []) (fun c => [(Str.ofString "post", .int c.1 c.2)]) (fun _ => True) [] (fun c => postInv a1 b1 c.1) (fun c => a1.length - (-c.1).toNat) (⟨0, _⟩) lF News.nil trivial ?kk (post_start a1 b1) ?_
        case kk => exact List.forall_mem_cons.mpr ⟨by rfl, fun _ h => nomatch h⟩
        clear lF
        intro c u hh tkk hF hI lF lN
        obtain ⟨po, tp⟩ := c
        dsimp only at hF hI lF lN ⊢
        have hI1 := hI.1
        have hI2 := hI.2.1
        have hI3 := hI.2.2.1
        (try k_fold)
        k_with "KswEnd" => refine halt ?_
        k_steps
        k_with_none
        all_goals first
          | (show Cut _ _ _
             rename Fr _ _ _ _ => fE
             obtain ⟨u', fE'⟩ := fr_forget [(Str.ofString "a", .str a1 _), (Str.ofString "b", .str b1 _), (Str.ofString "max_cost", .int 1000 tm), (Str.ofString "post", .int po tp)] fE (by (iterate 4 (refine List.forall_mem_cons.mpr ⟨by rfl, ?_⟩)); exact List.forall_mem_nil _)
             exact ⟨rfl, _, _, u', po, tp, _, _, rfl, fE', hI⟩)
          | (unfold Halt
             rename Fr _ _ _ _ => fE
             rename News _ _ _ _ => nE
             have HA : -(a1.length : Int) ≤ po - 1 := by first | omega | exact in_a hI (by assumption) (by assumption)
             have HB : -(b1.length : Int) ≤ po - 1 := by first | omega | exact in_b hI (by assumption) (by assumption)
             refine' ksw_end (⟨po - 1, _⟩ : Int × Tok) fE nE (fun _ h => nomatch h) trivial (List.forall_mem_cons.mpr ⟨by rfl, fun _ h => nomatch h⟩) (by
               intro z h2 h3
               simp only [List.forall_mem_cons, List.not_mem_nil, false_implies, implies_true, and_true, ne_eq] at h2
               simp [kstB, h2]) (post_next hI HA HB (by assumption)) (post_less hI HA))
      · rintro s' ⟨h, tk, u, q, tq, ta1, tb1, rfl, lF, hJ⟩
        have lN : News g' L' h [] := News.nil
        dsimp only
        refine wpAny_execs_cons ?_
        refine cut (fun s' => ∃ h tk u ta1 tb1, s' = { s with heap := h, toks := tk } ∧ Fr g' L' h (kstB u [(Str.ofString "a", .str (trimS a1 q) ta1), (Str.ofString "b", .str b1 tb1), (Str.ofString "max_cost", .int 1000 tm), (Str.ofString "post", .int q tq)])) ?_ ?_
        · (try k_fold)
          k_steps
          all_goals (
            first
              | (have eT : trimS a1 q = a1 := if_pos (by assumption)
                 rw [eT]
                 rename Fr _ _ _ _ => fE
                 obtain ⟨u', fE'⟩ := fr_forget [(Str.ofString "a", .str a1 _), (Str.ofString "b", .str b1 _), (Str.ofString "max_cost", .int 1000 tm), (Str.ofString "post", .int q tq)] fE (by (iterate 4 (refine List.forall_mem_cons.mpr ⟨by rfl, ?_⟩)); exact List.forall_mem_nil _)
                 exact ⟨rfl, _, _, u', _, _, rfl, fE'⟩)
              | (have eT : trimS a1 q = Txt.slice a1 none (some q) := if_neg (by assumption)
                 rw [eT]
                 rename Fr _ _ _ _ => fE
                 obtain ⟨u', fE'⟩ := fr_forget [(Str.ofString "a", .str (Txt.slice a1 none (some q)) _), (Str.ofString "b", .str b1 _), (Str.ofString "max_cost", .int 1000 tm), (Str.ofString "post", .int q tq)] fE (by (iterate 4 (refine List.forall_mem_cons.mpr ⟨by rfl, ?_⟩)); exact List.forall_mem_nil _)
                 exact ⟨rfl, _, _, u', _, _, rfl, fE'⟩))
        · rintro s' ⟨h, tk, u, ta1, tb1, rfl, lF⟩
          have lN : News g' L' h [] := News.nil
          dsimp only
          refine wpAny_execs_cons ?_
          have hTr := trimmed hI hA1 hB1 hJ
          refine cut (fun s' => ∃ h tk u ta1 tb1, s' = { s with heap := h, toks := tk } ∧ Fr g' L' h (kstB u [(Str.ofString "a", .str (trimS a1 q) ta1), (Str.ofString "b", .str (trimS b1 q) tb1), (Str.ofString "max_cost", .int 1000 tm)])) ?_ ?_
          · generalize trimS a1 q = a2 at *
            (try k_fold)
            k_steps
            all_goals (
              first
                | (have eT : trimS b1 q = b1 := if_pos (by assumption)
                   rw [eT]
                   rename Fr _ _ _ _ => fE
                   obtain ⟨u', fE'⟩ := fr_forget [(Str.ofString "a", .str a2 _), (Str.ofString "b", .str b1 _), (Str.ofString "max_cost", .int 1000 tm)] fE (by (iterate 3 (refine List.forall_mem_cons.mpr ⟨by rfl, ?_⟩)); exact List.forall_mem_nil _)
                   exact ⟨rfl, _, _, u', _, _, rfl, fE'⟩)
                | (have eT : trimS b1 q = Txt.slice b1 none (some q) := if_neg (by assumption)
                   rw [eT]
                   rename Fr _ _ _ _ => fE
                   obtain ⟨u', fE'⟩ := fr_forget [(Str.ofString "a", .str a2 _), (Str.ofString "b", .str (Txt.slice b1 none (some q)) _), (Str.ofString "max_cost", .int 1000 tm)] fE (by (iterate 3 (refine List.forall_mem_cons.mpr ⟨by rfl, ?_⟩)); exact List.forall_mem_nil _)
                   exact ⟨rfl, _, _, u', _, _, rfl, fE'⟩))
          · generalize trimS a1 q = a2 at *
            generalize trimS b1 q = b2 at *
            clear hI hJ hA1 hB1
            rintro s' ⟨h, tk, u, ta1, tb1, rfl, lF⟩
            have lN : News g' L' h [] := News.nil
            simp only [kstB] at lF
            have hL1 := hTr.len.1
            have hL2 := hTr.len.2.1
            have hL3 := hTr.len.2.2
            dsimp only
            (try k_fold)
            k_with "exec For Name Call cons nil" => refine halt ?_
            k_steps
            k_with_none
            · unfold Halt
              k_with "pyIter ref" => refine halt ?_
              k_steps
              k_with_none
              unfold Halt
              k_with "state" => exact out_start a2 b2 (by omega)
              k_state (fun pre result row => outInv a2 b2 pre.length row result) "result" "row"
              k_with_none
              · k_with "pyIter ref" => refine halt ?_
                k_steps
                k_with_none
                unfold Halt
                have kI0 := kInv
                have kE0 := kEq
                have kL0 : kPre.length < b2.length := by omega
                k_with "state" => exact inn_start' kI0 kE0
                k_state (fun pre row result distance minimum => innInv a2 b2 kPre.length pre.length row result distance minimum) "row" "result" "distance" "minimum"
                k_with_none
                · have hRow := kInv.1
                  have hi9 : kPre.length < a2.length := by omega
                  k_with "state" => exact inn_next kInv rfl hi9 kL0 (by omega) (by omega) kEq kE0 rfl (by first | exact Int.le_refl _ | omega | (simp only [decide_eq_false_iff_not, Int.not_lt] at *; assumption) | (simp only [decide_eq_false_iff_not, Int.not_lt] at *; omega))
                  k_steps
                · have hD0 : (rangeKs 0 ((a2.length : Int) - 0).toNat).length = a2.length := by rw [rangeKs_length]; omega
                  rw [hD0] at kInv
                  have hD := inn_done (k := kN) (pre := kPre) kInv (by omega) rfl
                  have hMn := hD.2
                  have hOut := hD.1
                  k_with "state" => exact hOut
                  k_steps
              · have hD0 : (rangeKs 0 ((b2.length : Int) - 0).toNat).length = b2.length := by rw [rangeKs_length]; omega
                rw [hD0] at kInv
                have hD := out_done kInv (by omega)
                k_with_none
                k_steps
                refine leave0 (by assumption) (fun hst => ?_)
                subst hg'
                refine hret _ _ _ ⟨_, _, rfl, ?_, fun hs => ?_⟩ hst
                · have := hD.1; omega
                · have := hD.2 (hTr.sub hs); omega
            all_goals (
              refine leave0 (by assumption) (fun hst => ?_)
              subst hg'
              refine hret _ _ _ ⟨_, _, rfl, by omega, fun _ => by omega⟩ hst)
end Mine
end
section
open PySem PySem.W PyProof.Rows PySem.Calls
namespace Mine
theorem use_clm {w : World} {mean : ExcName → Option Value} {mg mb : Str → Option Value} {f : Addr} {pre : Prop} {vs : List Value} {R : Value → Prop} {dp un : Nat} {gd : Option (List Code)} {cn : Str} {cs : Scope} {aa : Addr} {ccd : Value} {cl : List (Str × Addr)} {outer : List Env} {A₀ : Around} {base h₀ : Heap} {L : Addr} {m : Str → Option Value} {s : Shared} {Q E : Value → Shared → Prop} {news : List (Addr × Obj)}
    (C : Clm w mean mg mb f pre vs R) (hT : 0 < s.toks) (hB : Below A₀ base outer h₀) (F : Fr h₀ L s.heap m) (hK : (hd.heap_39 w.params).In h₀) (N : News h₀ L s.heap news) (hTop : Top hd.view_39 (looseW hd.view_39 []) mean mg mb h₀) (hk : cs.kind = .function) (hp : pre) (hd : dp + 8 < recursionLimit) (hu : un + 200 < cLine)
    (ret : ∀ v h' tk', R v → 0 < tk' → Fr h₀ L h' m → News h₀ L h' news → Q v { s with heap := h', toks := tk' }) :
    wpAny (model PySem.Challenge.rw_ie0013_01.row.prog w) (ktrTop dp un gd cn cs L aa ccd cl outer) (call (.ref f) vs) Q E s :=
  C dp un gd cn cs aa ccd cl outer A₀ base h₀ L m s Q E hT hB F hK hTop hk hp hd hu (fun v h' tk' hv hst ht => ret v h' tk' hv ht (F.keeps hst) (fun p hp => ⟨hst _ _ (N p hp).1, (N p hp).2⟩))

theorem fr_keep {h₀ h : Heap} {L : Addr} {m : Str → Option Value} (ps : List (Str × Value)) (F : Fr h₀ L h m) (hp : ∀ p ∈ ps, m p.1 = some p.2) : Fr h₀ L h (kstB m ps) := by
  have e : kstB m ps = m := by
    funext z
    exact kstB_eq hp (fun _ => rfl)
  rw [e]
  exact F
theorem step_cut {M : Model} {A : Around} {E : Value → Shared → Prop} {s : Shared} {st : Stmt} {rest : List Stmt} {env : Env} {Q : Flow → Shared → Prop} (P : Shared → Prop) (hp : 0 < s.toks)
    (h : wpAny M A (exec st env) (Cut P) E s) (k : ∀ s', P s' → 0 < s'.toks → wpAny M A (execs rest env) Q E s') : wpAny M A (execs (st :: rest) env) Q E s := by
  refine wpAny_execs_cons (wpAny_toks (wpAny_mono h (fun f s' hq hle => ?_) (fun _ _ e _ => e)))
  obtain ⟨rfl, hP⟩ := hq
  exact k s' hP (Nat.lt_of_lt_of_le hp hle)
end Mine
end
open PySem PySem.W PyProof.Rows PySem.Calls PySem.W.X
namespace Mine
set_option maxRecDepth 100000
set_option maxHeartbeats 8000000
theorem fillM : PySem.Challenge.rw_ie0013_01 = PySem.Challenge.rw_ie0013_01 ∧ hd.heap_39 = hd.heap_39 := by
  k_fill
  exact ⟨rfl, rfl⟩
theorem in_of_mem {K : Frag} {h : Heap} (H : ∀ p ∈ K, h.get? p.1 = some p.2) : K.In h := by
  intro a o e
  have : (a, o) ∈ K := by
    clear H
    induction K with
    | nil => cases e
    | cons p r ih =>
      rw [List.lookup_cons] at e
      split at e
      · rename_i q
        have q' : a = p.1 := eq_of_beq q
        have e' : p.2 = o := Option.some.inj e
        rw [q', ← e']
        exact List.mem_cons_self
      · exact List.mem_cons_of_mem _ (ih e)
  exact H _ this
theorem le7 {x : Str} (h : x.length ≤ 7) : x.cps.size ≤ sizeLine := by
  have : x.length = x.cps.size := rfl
  rw [sizeLine_eq]
  omega
theorem ne_same {prog : Program} {w : World} {A : Around} {E : Value → Shared → Prop} {s : Shared} {x y : Str} {t u : Tok} {Q : Value → Shared → Prop} (e : x = y) (h : Q (.bool false) s) : wpAny (model prog w) A (compareOp .NotEq (.str x t) (.str y u)) Q E s := by
  subst e
  refine ne_str ?_
  have : (x != x) = false := by simp
  rw [this]
  exact h
theorem nei_same {prog : Program} {w : World} {A : Around} {E : Value → Shared → Prop} {s : Shared} {x y : Int} {t u : Tok} {Q : Value → Shared → Prop} (e : x = y) (h : Q (.bool false) s) : wpAny (model prog w) A (compareOp .NotEq (.int x t) (.int y u)) Q E s := by
  subst e
  refine ne_int ?_
  have : (x != x) = false := by simp
  rw [this]
  exact h

theorem rep_callT {prog : Program} {w : World} {A : Around} {E : Value → Shared → Prop} {s : Shared} {x y z : Str} {t u v : Tok} {Q : Value → Shared → Prop}
    (hs : 0 < s.toks) (hu : 0 < u) (huv : v = u + 1) (hyz : (y == z) = false) (hx : x.length ≤ 1000000) (hz : z.length ≤ 6)
    (hq : ∀ t' k, 0 < k → Q (.str (Txt.replace x y z) t') { s with toks := k }) : wpAny (model prog w) A (call (.builtin "str.replace") [.str x t, .str y u, .str z v]) Q E s :=
  wpAny_toks (rep_call hu huv hyz hx hz (fun t' k hk => hq t' k (Nat.lt_of_lt_of_le hs hk)))
theorem kst_self {m : Str → Option Value} {ps : List (Str × Value)} (h : ∀ p ∈ ps, m p.1 = some p.2) : m = kstB m ps := by
  funext z
  exact (kstB_eq h (fun _ => rfl)).symm
def escN : Nat → Str → Str
  | 0, x => x
  | n + 1, x => escS (escN n x)
theorem toks_pos {α : Type} {M : Model} {A : Around} {t : Sem α} {Q : α → Shared → Prop} {E : Value → Shared → Prop} {s : Shared} (hs : 0 < s.toks)
    (h : wpAny M A t (fun a s' => 0 < s'.toks → Q a s') E s) : wpAny M A t Q E s :=
  wpAny_toks (wpAny_mono h (fun _ _ q hle => q (Nat.lt_of_lt_of_le hs hle)) (fun _ _ e _ => e))
theorem neb_same {prog : Program} {w : World} {A : Around} {E : Value → Shared → Prop} {s : Shared} {x y : Bool} {Q : Value → Shared → Prop} (e : x = y) (h : Q (.bool false) s) : wpAny (model prog w) A (compareOp .NotEq (.bool x) (.bool y)) Q E s := by
  subst e
  refine ne_bool ?_
  have : (x != x) = false := by simp
  rw [this]
  exact h
theorem lti_no {prog : Program} {w : World} {A : Around} {E : Value → Shared → Prop} {s : Shared} {x y : Int} {t u : Tok} {Q : Value → Shared → Prop} (e : y ≤ x) (h : Q (.bool false) s) : wpAny (model prog w) A (compareOp .Lt (.int x t) (.int y u)) Q E s := by
  refine lt_int ?_
  have : decide (x < y) = false := decide_eq_false (by omega)
  rw [this]
  exact h
theorem lev_plain {p : Str} {r : Int} (c60 : p.cps.toList.count 60 = 0) (c62 : p.cps.toList.count 62 = 0) (h1 : 2 * (((escS p).length : Int) - p.length) ≤ r) (h2 : p.cps.toList.Sublist (escS p).cps.toList → r ≤ 2 * (((escS p).length : Int) - p.length)) : r = 8 * Txt.count p (Str.ofString "&") := by
  have h3 := h2 (esc_sub _ c60 c62)
  have h4 := esc_len p
  rw [count_amp]
  rw [c60, c62] at h4
  omega

end Mine
open Mine
local macro_rules | `(tactic| k_steps) => `(tactic| repeat' (first | ((with_reducible show (0:Nat) < _ → _); intro hT9; (try dsimp only)) | (k_unfold; (try dsimp only)) | (k_end; wrow_close) | walk1 | (dsimp only; walk1) | (leave1; walk_say "STEP leave1"; try dsimp only) | fail "no step"))
local macro_rules | `(tactic| walk_at "execs cons") => `(tactic| (k_here; refine execs_cons_T (by first | assumption | omega | (dsimp only; omega)) ?_; intro tk9 hT9; (try dsimp only)))
local macro_rules | `(tactic| walk_at "call builtin:str.replace") => `(tactic| (k_here; refine rep_callT (by dsimp only; omega) (by first | assumption | omega) (by rfl) (by decide) (by first | omega | exact Nat.le_trans (plain1_len _) (by omega)) (by decide) ?_; intro t9 k9 hk9; (try dsimp only)))
local macro_rules | `(tactic| walk_at "compareOp NotEq str str") => `(tactic| (k_here; refine ne_same (by first | exact rfl | assumption | exact Eq.symm (by assumption) | exact read_escS _) ?_))
local macro_rules | `(tactic| walk_at "compareOp NotEq int int") => `(tactic| (k_here; refine nei_same (by first | exact lev_plain (by assumption) (by assumption) (by assumption) (by assumption) | omega) ?_))
local macro_rules | `(tactic| walk_at "compareOp NotEq bool bool") => `(tactic| (k_here; refine neb_same (by first | exact rfl | assumption) ?_))
local macro_rules | `(tactic| walk_at "compareOp Lt int int") => `(tactic| (k_here; refine lti_no (by omega) ?_))
local macro_rules | `(tactic| walk_at "CompEnd") => `(tactic| (k_here; k_dflt (exact LCg.CompEnd.intro (by assumption) (by assumption) [] (by kcf_all) True.intro True.intro (comp_el (by first | exact escCS_a | exact escCS_amp | exact escCS_lt | exact escCS_gt)))))
local macro_rules | `(tactic| walk_at "call ref") => `(tactic| (k_here; (with_reducible show wpAny _ _ (call (Value.ref 28) [Value.str _ _]) _ _ _); k_dflt (refine' use_clm (esc_claim _ _ _ _ _ _) ?k0 ?k1 ?k2 ?k3 ?k4 ?k5 ?k6 ?k7 ?k8 ?k9 ?_; (case k0 => first | assumption | omega | (dsimp only; omega)); (case k1 => k_asm); (case k2 => k_asm); (case k3 => k_asm); (case k4 => k_asm); (case k5 => k_asm); (case k6 => first | exact rfl | assumption); (case k7 => omega); (case k8 => decide); (case k9 => decide)); intro v9 h9 tk9 hv9 hT9 F9 N9; obtain ⟨t9, hv9⟩ := hv9; subst hv9; (try dsimp only); (try k_fold)))
local macro_rules | `(tactic| walk_at "call ref") => `(tactic| (k_here; (with_reducible show wpAny _ _ (call (Value.ref 35) [Value.str _ _]) _ _ _); k_dflt (refine' use_clm (attr_claim _ _ _ _ _ _) ?k0 ?k1 ?k2 ?k3 ?k4 ?k5 ?k6 ?k7 ?k8 ?k9 ?_; (case k0 => first | assumption | omega | (dsimp only; omega)); (case k1 => k_asm); (case k2 => k_asm); (case k3 => k_asm); (case k4 => k_asm); (case k5 => k_asm); (case k6 => first | exact rfl | assumption); (case k7 => exact ⟨by omega, by assumption⟩); (case k8 => decide); (case k9 => decide)); intro v9 h9 tk9 hv9 hT9 F9 N9; obtain ⟨t9, hv9⟩ := hv9; subst hv9; (try dsimp only); (try k_fold)))
local macro_rules | `(tactic| walk_at "call ref") => `(tactic| (k_here; (with_reducible show wpAny _ _ (call (Value.ref 54) [Value.str _ _]) _ _ _); k_dflt (refine' use_clm (read_claim _ _ _ _ _ _) ?k0 ?k1 ?k2 ?k3 ?k4 ?k5 ?k6 ?k7 ?k8 ?k9 ?_; (case k0 => first | assumption | omega | (dsimp only; omega)); (case k1 => k_asm); (case k2 => k_asm); (case k3 => k_asm); (case k4 => k_asm); (case k5 => k_asm); (case k6 => first | exact rfl | assumption); (case k7 => omega); (case k8 => decide); (case k9 => decide)); intro v9 h9 tk9 hv9 hT9 F9 N9; obtain ⟨t9, hv9⟩ := hv9; subst hv9; (try dsimp only); (try k_fold)))
local macro_rules | `(tactic| walk_at "call ref") => `(tactic| (k_here; (with_reducible show wpAny _ _ (call (Value.ref 49) [Value.str _ _, Value.str _ _, Value.int _ _]) _ _ _); k_dflt (refine' use_clm (lev_claim _ _ _ _ _ _ _ _ _) ?k0 ?k1 ?k2 ?k3 ?k4 ?k5 ?k6 ?k7 ?k8 ?k9 ?_; (case k0 => first | assumption | omega | (dsimp only; omega)); (case k1 => k_asm); (case k2 => k_asm); (case k3 => k_asm); (case k4 => k_asm); (case k5 => k_asm); (case k6 => first | exact rfl | assumption); (case k7 => exact ⟨by omega, by omega, by omega⟩); (case k8 => decide); (case k9 => decide)); intro v9 h9 tk9 hv9 hT9 F9 N9; obtain ⟨r9, t9, hv9, hlo9, hhi9⟩ := hv9; subst hv9; (try dsimp only); (try k_fold)))
local macro_rules | `(tactic| walk_at "call type:dict") => `(tactic| (k_here; (with_reducible show wpAny _ _ (call (Value.type "dict") [Value.ref _]) _ _ _); k_dflt (first
  | (refine dict_pairs_3 (by k_asm) (by k_asm) (Top.nolimit (by k_asm)) (by rfl) (by k_mem) (by k_mem) (by k_mem) (by k_mem) (by rfl) ?_)
  | (refine dict_pairs_4 (by k_asm) (by k_asm) (Top.nolimit (by k_asm)) (by rfl) (by k_mem) (by k_mem) (by k_mem) (by k_mem) (by k_mem) (by rfl) ?_)); intro d' h' o' tkd' F' N' l1 lo' hd' hf'; (try k_lt l1)))
local macro_rules | `(tactic| walk_at "call builtin:str.join") => `(tactic| (k_here; k_dflt (refine join_rule (by is_list) (by assumption) (by omega) ?_); intro t9 k9; (try dsimp only)))
local macro_rules | `(tactic| walk_at "CompSrc") => `(tactic| (k_here; (try k_fmods); (try kcf_lens); k_dflt (refine LCg.CompSrc.ledger (by rfl) (by k_asm) (by k_asm) (by k_mem) (by kcf_size) ?_; intro g'; (refine' kct_list (fun k => Txt.item (Str.ofString "a&<>") (k.fmod 4)) (by first | assumption | l_ints) (fun k' t' I' oI' C' oC' D' m' ys' h' tk' E' hk' hC' hx' F' N' off' ne' hMark' => ?_) ?_); (all_goals (try (simp only [LCg.Off3, and_true] at off'))); kcf_last)))
local macro_rules | `(tactic| walk_at "binaryOp Mult int int") => `(tactic| (k_here; with_reducible refine mul_int ?_; (try dsimp only)))
local macro_rules | `(tactic| walk_at "binaryOp Add int int") => `(tactic| (k_here; with_reducible refine add_int ?_; (try dsimp only)))
local macro_rules | `(tactic| walk_at "binaryOp Sub int int") => `(tactic| (k_here; with_reducible refine sub_int ?_; (try dsimp only)))
local macro_rules | `(tactic| walk_at "subscriptTail Name Slice str ref") => `(tactic| (k_here; (with_reducible show wpAny _ _ (subscriptTail _ (Expr.Slice _ _ none _) _ _) _ _ _); k_dflt (refine toks_pos (by first | assumption | (dsimp only; omega)) ?_; (with_reducible rename Fr _ _ _ _ => F'); (with_reducible rename News _ _ _ _ => N'); (first
  | ((with_reducible show wpAny _ _ (subscriptTail _ (Expr.Slice none (some _) none _) _ _) _ _ _); (refine slice_strN_ns (hsz := ?hsz) (s := ⟨_, _, _, _, _⟩) F' N' ?_); (case hsz => exact le7 (by assumption)))
  | ((with_reducible show wpAny _ _ (subscriptTail _ (Expr.Slice (some _) none none _) _ _) _ _ _); (refine slice_strN_sn (hsz := ?hsz) (s := ⟨_, _, _, _, _⟩) F' N' ?_); (case hsz => exact le7 (by assumption))))); intro _ _ _ _ _ hT9; (try dsimp only)))
set_option maxRecDepth 100000 in
set_option maxHeartbeats 20000000 in
theorem PySem.Challenge.cw_ie0013_01_holds : PySem.Challenge.rw_ie0013_01.Holds := by
  w_on; o_law; z_head
  case hw => w_witness2
  intro w s₀ s₁ mg mb G y fa o pm cd doc dV kV ho hd hcd hD hmg hg args vals as L hpre hlay hrd hwl hlo
  z_open y L KX ZH ZN ZT
  have KY : (Mine.hd.heap_39 w.params).In s₁.heap := by
    refine Mine.in_of_mem ?_
    unfold Mine.hd.heap_39
    repeat (refine List.forall_mem_cons.mpr ⟨KX _ _ (by rfl), ?_⟩)
    exact List.forall_mem_nil _
  clear KX ZH ZN
  k_behind G ho hd hcd hD hmg hpre hlay hrd hwl hlo cd
  have htk := script_toks L ZT
  have htk0 : 0 < s₁.toks := Nat.lt_of_lt_of_le (by decide) htk
  (rename Top _ _ _ _ _ _ => TP)
  have TP' : Top Mine.hd.view_39 (looseW Mine.hd.view_39 []) (ExcName.means s₀.heap) mg mb s₁.heap := TP

  rename Fr _ _ _ _ => lF
  have lN : News s₁.heap s₁.heap.objs.size _ [] := (by assumption)
  dsimp only
  refine step_cut (fun s' => ∃ h tk u x t, s' = { s₁ with heap := h, toks := tk } ∧ Fr s₁.heap s₁.heap.objs.size h (kstB u [(Str.ofString "text", .str x t)]) ∧ Kinds x.cps.toList ∧ x.length ≤ 7) (by dsimp only; omega) ?_ ?_
  ·
    (try k_fold)
    k_steps
    rename Fr _ _ _ _ => fE
    (rename Str.length (Txt.join _ _) = _ => hJ1)
    refine' ⟨rfl, _, _, _, _, _, rfl, fr_keep _ fE ?zz1, kinds_join _, ?zz2⟩
    case zz1 => (iterate 1 (refine List.forall_mem_cons.mpr ⟨by rfl, ?_⟩)); exact List.forall_mem_nil _
    case zz2 =>
      rw [hJ1]
      omega
  rintro s' ⟨h, tk, u, x, t, rfl, lF, hKd, hLn⟩ hTk
  have lN : News s₁.heap s₁.heap.objs.size h [] := News.nil
  refine step_cut (fun s' => ∃ h tk u t to, s' = { s₁ with heap := h, toks := tk } ∧ Fr s₁.heap s₁.heap.objs.size h (kstB u [(Str.ofString "text", .str x t), (Str.ofString "told", .str (escS x) to)])) hTk ?_ ?_
  ·
    (try k_fold)
    k_steps
    rename Fr _ _ _ _ => fE
    refine' ⟨rfl, _, _, _, _, _, rfl, fr_keep _ fE ?zz1⟩
    case zz1 => (iterate 2 (refine List.forall_mem_cons.mpr ⟨by rfl, ?_⟩)); exact List.forall_mem_nil _
  rintro s' ⟨h, tk, u, t, to, rfl, lF⟩ hTk
  have lN : News s₁.heap s₁.heap.objs.size h [] := News.nil
  have hLe := escS_len x
  refine step_cut (fun s' => ∃ h tk u t to, s' = { s₁ with heap := h, toks := tk } ∧ Fr s₁.heap s₁.heap.objs.size h (kstB u [(Str.ofString "text", .str x t), (Str.ofString "told", .str (escS x) to)])) hTk ?_ ?_
  ·
    (try k_fold)
    k_with "eval ListComp" => refine halt ?_
    k_steps
    k_with_none
    unfold Halt
    rename Fr _ _ _ _ => fE
    rename News _ _ _ _ => nE
    refine ListComp_S (xt := x) (tx := t) fE nE rfl (by with_unfolding_all rfl) (by decide) (by rfl) (by decide) (by rfl) (kinds_ascii hKd) (le7 hLn) (fun E' => ?_) (fun g' => ?_)
    · k_dflt (refine' ld ?k1 ?k2 ?_; (case k1 => k_asm); (case k2 => exact rfl))
      exact ⟨rfl, rfl⟩
    · refine comp_signs escCS (fun c t' I' oI' C' oC' D' m' ys' h' tk' E' hc hC' hx' F' N' off' ne' => ?_) (fun ys hys => ?_)
      · rcases hKd c hc with rfl | rfl | rfl | rfl
        all_goals k_steps
      · intro D' h' tk' F' N' off'
        dsimp only
        k_steps
        rename Fr _ _ _ _ => fE
        refine' ⟨rfl, _, _, _, _, _, rfl, fr_keep _ fE ?zz1⟩
        case zz1 => (iterate 2 (refine List.forall_mem_cons.mpr ⟨by rfl, ?_⟩)); exact List.forall_mem_nil _
  rintro s' ⟨h, tk, u, t, to, rfl, lF⟩ hTk
  have lN : News s₁.heap s₁.heap.objs.size h [] := News.nil
  have hTT := told_is_text hKd
  have hRd := read_escS x
  refine step_cut (fun s' => ∃ h tk u t to, s' = { s₁ with heap := h, toks := tk } ∧ Fr s₁.heap s₁.heap.objs.size h (kstB u [(Str.ofString "text", .str x t), (Str.ofString "told", .str (escS x) to)])) hTk ?_ ?_
  ·
    (try k_fold)
    k_steps
    rename Fr _ _ _ _ => fE
    refine' ⟨rfl, _, _, _, _, _, rfl, fr_keep _ fE ?zz1⟩
    case zz1 => (iterate 2 (refine List.forall_mem_cons.mpr ⟨by rfl, ?_⟩)); exact List.forall_mem_nil _
  rintro s' ⟨h, tk, u, t, to, rfl, lF⟩ hTk
  have lN : News s₁.heap s₁.heap.objs.size h [] := News.nil
  clear hTT hRd
  refine step_cut (fun s' => ∃ h tk u t to tp, s' = { s₁ with heap := h, toks := tk } ∧ Fr s₁.heap s₁.heap.objs.size h (kstB u [(Str.ofString "text", .str x t), (Str.ofString "told", .str (escS x) to), (Str.ofString "plain", .str (plainS x) tp)])) hTk ?_ ?_
  ·
    (try k_fold)
    k_steps
    rename Fr _ _ _ _ => fE
    refine' ⟨rfl, _, _, _, _, _, _, rfl, fr_keep _ fE ?zz1⟩
    case zz1 => (iterate 3 (refine List.forall_mem_cons.mpr ⟨by rfl, ?_⟩)); exact List.forall_mem_nil _
  rintro s' ⟨h, tk, u, t, to, tp, rfl, lF⟩ hTk
  have lN : News s₁.heap s₁.heap.objs.size h [] := News.nil
  refine step_cut (fun s' => ∃ h tk u t to, s' = { s₁ with heap := h, toks := tk } ∧ Fr s₁.heap s₁.heap.objs.size h (kstB u [(Str.ofString "text", .str x t), (Str.ofString "told", .str (escS x) to)])) hTk ?_ ?_
  ·
    have hP1 := plainS_len x
    have hP2 := plainS_lt x
    have hP3 := plainS_gt x
    generalize plainS x = p at *
    have hP4 := escS_len p
    have hP5 := esc_len p
    have hP6 := count_amp p
    have hP7 := count_le p 38
    (try k_fold)
    k_steps
    rename Fr _ _ _ _ => fE
    refine' ⟨rfl, _, _, _, _, _, rfl, fr_keep _ fE ?zz1⟩
    case zz1 => (iterate 2 (refine List.forall_mem_cons.mpr ⟨by rfl, ?_⟩)); exact List.forall_mem_nil _
  rintro s' ⟨h, tk, u, t, to, rfl, lF⟩ hTk
  have lN : News s₁.heap s₁.heap.objs.size h [] := News.nil
  have hEL := esc_len x
  refine step_cut (fun s' => ∃ h tk u t to, s' = { s₁ with heap := h, toks := tk } ∧ Fr s₁.heap s₁.heap.objs.size h (kstB u [(Str.ofString "text", .str x t), (Str.ofString "told", .str (escS x) to)])) hTk ?_ ?_
  ·
    (try k_fold)
    k_steps
    rename Fr _ _ _ _ => fE
    refine' ⟨rfl, _, _, _, _, _, rfl, fr_keep _ fE ?zz1⟩
    case zz1 => (iterate 2 (refine List.forall_mem_cons.mpr ⟨by rfl, ?_⟩)); exact List.forall_mem_nil _
  rintro s' ⟨h, tk, u, t, to, rfl, lF⟩ hTk
  have lN : News s₁.heap s₁.heap.objs.size h [] := News.nil
  have hMk := count_amp x
  have hB1 := count_lt x
  have hB2 := count_gt x
  refine step_cut (fun s' => ∃ h tk u t to mk tm bo tb, s' = { s₁ with heap := h, toks := tk } ∧ Fr s₁.heap s₁.heap.objs.size h (kstB u [(Str.ofString "text", .str x t), (Str.ofString "told", .str (escS x) to), (Str.ofString "marks", .int mk tm), (Str.ofString "both", .int bo tb)]) ∧ mk = (x.cps.toList.count 38 : Int) ∧ bo = (x.cps.toList.count 60 : Int) + (x.cps.toList.count 62 : Int)) hTk ?_ ?_
  ·
    (try k_fold)
    k_steps
    rename Fr _ _ _ _ => fE
    refine' ⟨rfl, _, _, _, _, _, _, _, _, _, rfl, fr_keep _ fE ?zz1, ?zz3, ?zz4⟩
    case zz1 => (iterate 4 (refine List.forall_mem_cons.mpr ⟨by rfl, ?_⟩)); exact List.forall_mem_nil _
    case zz3 => exact hMk
    case zz4 => rw [hB1, hB2]
  rintro s' ⟨h, tk, u, t, to, mk, tm, bo, tb, rfl, lF, hmk, hbo⟩ hTk
  have lN : News s₁.heap s₁.heap.objs.size h [] := News.nil
  clear hMk hB1 hB2
  refine step_cut (fun s' => ∃ h tk u t to tm tb th, s' = { s₁ with heap := h, toks := tk } ∧ Fr s₁.heap s₁.heap.objs.size h (kstB u [(Str.ofString "text", .str x t), (Str.ofString "told", .str (escS x) to), (Str.ofString "marks", .int mk tm), (Str.ofString "both", .int bo tb), (Str.ofString "here", .str x th)])) hTk ?_ ?_
  ·
    (try k_fold)
    k_steps
    rename Fr _ _ _ _ => fE
    refine' ⟨rfl, _, _, _, _, _, _, _, _, rfl, fr_keep _ fE ?zz1⟩
    case zz1 => (iterate 5 (refine List.forall_mem_cons.mpr ⟨by rfl, ?_⟩)); exact List.forall_mem_nil _
  rintro s' ⟨h, tk, u, t, to, tm, tb, th, rfl, lF⟩ hTk
  have lN : News s₁.heap s₁.heap.objs.size h [] := News.nil
  refine step_cut (fun s' => ∃ h tk u t to, s' = { s₁ with heap := h, toks := tk } ∧ Fr s₁.heap s₁.heap.objs.size h (kstB u [(Str.ofString "text", .str x t), (Str.ofString "told", .str (escS x) to)])) hTk ?_ ?_
  ·
    refine for_T (by dsimp only; omega) ?_
    (try k_fold)
    k_with "pyIter ref" => refine halt ?_
    k_steps
    k_with_none
    unfold Halt
    rename IsRange _ _ _ _ _ _ _ _ => rgX
    rename Fr _ _ _ _ => lF1
    refine range_T (n := 4) (fun i m => ∃ z ty, hereInv x mk bo i z ∧ ∀ p ∈ [(Str.ofString "text", .str x t), (Str.ofString "told", .str (escS x) to), (Str.ofString "marks", .int mk tm), (Str.ofString "both", .int bo tb), (Str.ofString "here", .str z ty)], m p.1 = some p.2) rfl rgX (by decide) (by rfl) lF1 (by dsimp only at *; omega) (by kernel_rfl) (by kernel_rfl) ⟨x, th, here_start _ _ _, (by (iterate 5 (refine List.forall_mem_cons.mpr ⟨by rfl, ?_⟩)); exact List.forall_mem_nil _)⟩ ?_ ?_
    · intro i t9 m9 h9 tk9 I9 oI9 hi9 hT9 hJ F9 lN9
      obtain ⟨z, ty, hI, hm9⟩ := hJ
      rw [kst_self hm9] at F9
      clear lF lF1 rgX lN hm9 hEL hLe
      have f2 := mb_le hmk hbo
      have f3 := here_cnt hmk hbo hI
      have f4 := escS_len z
      have hi : i = 0 ∨ i = 1 ∨ i = 2 ∨ i = 3 := by omega
      rcases hi with rfl | rfl | rfl | rfl
      · have F8 : Fr s₁.heap s₁.heap.objs.size h9 (fun y => if y = Str.ofString "turn" then some (.int 0 t9) else kstB m9 [(Str.ofString "text", .str x t), (Str.ofString "told", .str (escS x) to), (Str.ofString "marks", .int mk tm), (Str.ofString "both", .int bo tb), (Str.ofString "here", .str z ty)] y) := F9
        have f1 : (z.length : Int) = x.length := by have := hI.1; rw [if_neg (by decide)] at this; omega
        have f5 := here_next hmk hbo hI
        clear F9 hI hmk hbo
        (try k_fold)
        k_with "TurnEnd" => refine halt ?_
        k_steps
        k_with_none
        unfold Halt
        rename Fr _ _ _ _ => fE
        rename News _ _ _ _ => nE
        refine turn_end fE nE (by k_mem) ?_
        refine ⟨escS z, ?_⟩
        refine Exists.intro ?zzt0 ?_
        rotate_left
        refine And.intro f5 ?_
        (iterate 5 (refine List.forall_mem_cons.mpr ⟨by rfl, ?_⟩)); exact List.forall_mem_nil _
      · have F8 : Fr s₁.heap s₁.heap.objs.size h9 (fun y => if y = Str.ofString "turn" then some (.int 1 t9) else kstB m9 [(Str.ofString "text", .str x t), (Str.ofString "told", .str (escS x) to), (Str.ofString "marks", .int mk tm), (Str.ofString "both", .int bo tb), (Str.ofString "here", .str z ty)] y) := F9
        have f1 : (z.length : Int) = x.length + 4 * mk + 3 * bo := by have := hI.1; rw [if_pos (by decide)] at this; omega
        have f5 := here_next hmk hbo hI
        clear F9 hI hmk hbo
        (try k_fold)
        k_with "TurnEnd" => refine halt ?_
        k_steps
        k_with_none
        unfold Halt
        rename Fr _ _ _ _ => fE
        rename News _ _ _ _ => nE
        refine turn_end fE nE (by k_mem) ?_
        refine ⟨escS z, ?_⟩
        refine Exists.intro ?zzt1 ?_
        rotate_left
        refine And.intro f5 ?_
        (iterate 5 (refine List.forall_mem_cons.mpr ⟨by rfl, ?_⟩)); exact List.forall_mem_nil _
      · have F8 : Fr s₁.heap s₁.heap.objs.size h9 (fun y => if y = Str.ofString "turn" then some (.int 2 t9) else kstB m9 [(Str.ofString "text", .str x t), (Str.ofString "told", .str (escS x) to), (Str.ofString "marks", .int mk tm), (Str.ofString "both", .int bo tb), (Str.ofString "here", .str z ty)] y) := F9
        have f1 : (z.length : Int) = x.length + 8 * mk + 7 * bo := by have := hI.1; rw [if_pos (by decide)] at this; omega
        have f5 := here_next hmk hbo hI
        clear F9 hI hmk hbo
        (try k_fold)
        k_with "TurnEnd" => refine halt ?_
        k_steps
        k_with_none
        unfold Halt
        rename Fr _ _ _ _ => fE
        rename News _ _ _ _ => nE
        refine turn_end fE nE (by k_mem) ?_
        refine ⟨escS z, ?_⟩
        refine Exists.intro ?zzt2 ?_
        rotate_left
        refine And.intro f5 ?_
        (iterate 5 (refine List.forall_mem_cons.mpr ⟨by rfl, ?_⟩)); exact List.forall_mem_nil _
      · have F8 : Fr s₁.heap s₁.heap.objs.size h9 (fun y => if y = Str.ofString "turn" then some (.int 3 t9) else kstB m9 [(Str.ofString "text", .str x t), (Str.ofString "told", .str (escS x) to), (Str.ofString "marks", .int mk tm), (Str.ofString "both", .int bo tb), (Str.ofString "here", .str z ty)] y) := F9
        have f1 : (z.length : Int) = x.length + 12 * mk + 11 * bo := by have := hI.1; rw [if_pos (by decide)] at this; omega
        have f5 := here_next hmk hbo hI
        clear F9 hI hmk hbo
        (try k_fold)
        k_with "TurnEnd" => refine halt ?_
        k_steps
        k_with_none
        unfold Halt
        rename Fr _ _ _ _ => fE
        rename News _ _ _ _ => nE
        refine turn_end fE nE (by k_mem) ?_
        refine ⟨escS z, ?_⟩
        refine Exists.intro ?zzt3 ?_
        rotate_left
        refine And.intro f5 ?_
        (iterate 5 (refine List.forall_mem_cons.mpr ⟨by rfl, ?_⟩)); exact List.forall_mem_nil _
    · rintro h9 tk9 m9 hT9 ⟨z, ty, hI, hm9⟩ F9
      refine ⟨rfl, _, _, m9, t, to, rfl, fr_keep _ F9 ?_⟩
      exact List.forall_mem_cons.mpr ⟨(List.forall_mem_cons.mp hm9).1, List.forall_mem_cons.mpr ⟨(List.forall_mem_cons.mp (List.forall_mem_cons.mp hm9).2).1, List.forall_mem_nil _⟩⟩
  rintro s' ⟨h, tk, u, t, to, rfl, lF⟩ hTk
  have lN : News s₁.heap s₁.heap.objs.size h [] := News.nil
  clear hmk hbo hEL
  refine step_cut (fun s' => ∃ h tk u, s' = { s₁ with heap := h, toks := tk } ∧ Fr s₁.heap s₁.heap.objs.size h u) hTk ?_ ?_
  ·
    clear hLe
    refine for_T (by dsimp only; omega) ?_
    (try k_fold)
    k_with "pyIter ref" => refine halt ?_
    k_steps
    k_with_none
    unfold Halt
    rename IsRange _ _ _ _ _ _ _ _ => rgX
    rename Fr _ _ _ _ => lF1
    refine range_T (n := x.length + 1) (fun i m => ∀ p ∈ [(Str.ofString "text", .str x t), (Str.ofString "told", .str (escS x) to)], m p.1 = some p.2) rfl rgX (small_one (by decide) (by decide) (by omega) (by omega)) (by rw [rangeSize_nat]; omega) lF1 (by dsimp only at *; omega) (by kernel_rfl) (by kernel_rfl) (by (iterate 2 (refine List.forall_mem_cons.mpr ⟨by rfl, ?_⟩)); exact List.forall_mem_nil _) ?_ ?_
    · intro i t9 m9 h9 tk9 I9 oI9 hi9 hT9 hm9 F9 lN9
      rw [kst_self hm9] at F9
      clear lF lF1 rgX lN hm9
      obtain ⟨k, hk⟩ : ∃ k, k = 0 + (i : Int) := ⟨_, rfl⟩
      rw [← hk] at F9
      have hk0 : 0 ≤ k := by omega
      have hk1 : k ≤ x.length := by omega
      have l1 := slice_to_len x k hk0 hk1
      have l2 := slice_from_len x k hk0 hk1
      have l3 := escS_len (Txt.slice x none (some k))
      have l4 := escS_len (Txt.slice x (some k) none)
      have l5 := esc_parts x k hk0 hk1
      clear hk hi9
      (try k_fold)
      k_with "TurnEnd" => refine halt ?_
      k_steps
      k_with_none
      unfold Halt
      rename Fr _ _ _ _ => fE
      rename News _ _ _ _ => nE
      refine turn_end fE nE (by k_mem) ?_
      iterate 2 (refine List.forall_mem_cons.mpr ⟨by rfl, ?_⟩)
      exact List.forall_mem_nil _
    · intro h9 tk9 m9 hT9 hm9 F9
      exact ⟨rfl, _, _, _, rfl, F9⟩
  rintro s' ⟨h, tk, u, rfl, lF⟩ hTk
  have lN : News s₁.heap s₁.heap.objs.size h [] := News.nil
  (try k_fold)
  k_steps
