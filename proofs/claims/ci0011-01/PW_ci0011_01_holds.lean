import PyProof.Rows.All
import Wide.All
import OpenK.AllK
import Wide.FinOn
import PyProof.StrLawsTight
import PyProof.StrLawsFrom
import PyProof.Rows.StrWeight2
import PyProof.Rows.StrSplitJoin
import PySem.Challenge.RW_ci0011_01

open PySem PySem.W PyProof.Rows
set_option Elab.async false
set_option linter.all false
set_option maxRecDepth 100000
set_option maxHeartbeats 8000000
set_option pp.deepTerms false
set_option rowWalk.seconds 0

section
open PySem PySem.W PyProof.Rows
set_option maxRecDepth 100000
set_option maxHeartbeats 8000000
namespace Mine
open_top hd for PySem.Challenge.rw_ci0011_01
end Mine
end

section
open PySem PySem.W PyProof.Rows
set_option maxRecDepth 100000
set_option maxHeartbeats 8000000
namespace Mine

/-- what a call of the def at f upon vs gives, over any ledger -/
def Claim (w : World) (f : Addr) (cost : Nat) (news : List (Addr × Obj)) (vs : List Value) (Post : Value → List (Addr × Obj) → Prop) : Prop :=
  ∀ (dp un : Nat) (gd : Option (List Code)) (cn : Str) (cs : Scope) (a : Addr) (ccd : Value) (cl : List (Str × Addr)) (outer : List Env) (A₀ : Around) (base h₀ : Heap) (L : Addr) (m : Str → Option Value) (s : Shared) (Q E : Value → Shared → Prop) (mean : ExcName → Option Value) (mg mb : Str → Option Value),
    Below A₀ base outer h₀ → Fr h₀ L s.heap m → (hd.heap_39 w.params).In h₀ → News h₀ L s.heap news → Top hd.view_39 (looseW hd.view_39 [Str.ofString "_LINE_HAS_TEXT", Str.ofString "_expand_leading_tabs"]) mean mg mb h₀ → cs.kind = .function → dp + cost < recursionLimit → un + 8 * cost < cLine →
    (∀ v news' (h' : Heap) (tk' : Nat), Post v news' → Fr h₀ L h' m → News h₀ L h' news' → Q v { s with heap := h', toks := tk' }) →
    wpAny (model PySem.Challenge.rw_ci0011_01.row.prog w) (ktrTop dp un gd cn cs L a ccd cl outer) (call (.ref f) vs) Q E s

theorem Claim.use {w : World} {f : Addr} {cost : Nat} {news : List (Addr × Obj)} {vs : List Value} {Post : Value → List (Addr × Obj) → Prop}
    {dp un : Nat} {gd : Option (List Code)} {cn : Str} {cs : Scope} {a : Addr} {ccd : Value} {cl : List (Str × Addr)} {outer : List Env} {A₀ : Around} {base h₀ : Heap} {L : Addr} {m : Str → Option Value} {s : Shared} {Q E : Value → Shared → Prop} {mean : ExcName → Option Value} {mg mb : Str → Option Value}
    (C : Claim w f cost news vs Post) (B : Below A₀ base outer h₀) (F : Fr h₀ L s.heap m) (X : (hd.heap_39 w.params).In h₀) (N : News h₀ L s.heap news)
    (T : Top hd.view_39 (looseW hd.view_39 [Str.ofString "_LINE_HAS_TEXT", Str.ofString "_expand_leading_tabs"]) mean mg mb h₀) (hk : cs.kind = .function) (hd : dp + cost < recursionLimit) (hu : un + 8 * cost < cLine)
    (ret : ∀ v news' (h' : Heap) (tk' : Nat), Post v news' → Fr h₀ L h' m → News h₀ L h' news' → Q v { s with heap := h', toks := tk' }) :
    wpAny (model PySem.Challenge.rw_ci0011_01.row.prog w) (ktrTop dp un gd cn cs L a ccd cl outer) (call (.ref f) vs) Q E s :=
  C _ _ _ _ _ _ _ _ _ _ _ _ _ _ _ _ _ _ _ _ B F X N T hk hd hu ret

end Mine
end

section
open PySem PySem.W PyProof.Rows
namespace Mine

/-- a blank or a tab -/
def isB (n : Nat) : Bool := n == 32 || n == 9
/-- the column behind one blank or tab that stands at column c -/
def colN (c : Int) (n : Nat) : Int := if n = 32 then c + 1 else c + (4 - c % 4)
/-- the column behind the blanks and tabs that a text opens with -/
def wid : Int → List Nat → Int
  | c, [] => c
  | c, n :: l => if isB n then wid (colN c n) l else c

def dropB (l : List Nat) : List Nat := l.dropWhile isB

theorem isB_cases {n : Nat} (h : isB n = true) : n = 32 ∨ n = 9 := by
  simpa [isB] using h
theorem colN_gt {c : Int} {n : Nat} (h0 : 0 ≤ c) : c < colN c n := by
  unfold colN; split <;> omega
theorem colN_le {c : Int} {n : Nat} (h0 : 0 ≤ c) : colN c n ≤ c + 4 := by
  unfold colN; split <;> omega
theorem wid_append {c : Int} {l r : List Nat} (h : ∀ n ∈ l, isB n = true) : wid c (l ++ r) = wid (wid c l) r := by
  induction l generalizing c with
  | nil => rfl
  | cons n l ih =>
    have hn := h n (List.mem_cons_self ..)
    have hl : ∀ m ∈ l, isB m = true := fun m hm => h m (List.mem_cons_of_mem _ hm)
    simp only [List.cons_append, wid, hn, if_true]
    exact ih hl
theorem wid_snoc {c : Int} {l : List Nat} {n : Nat} (h : ∀ n ∈ l, isB n = true) (hn : isB n = true) : wid c (l ++ [n]) = colN (wid c l) n := by
  rw [wid_append h]; simp [wid, hn]
theorem wid_stop {c : Int} {l r : List Nat} {n : Nat} (h : ∀ n ∈ l, isB n = true) (hn : isB n = false) : wid c (l ++ n :: r) = wid c l := by
  rw [wid_append h]; simp [wid, hn]
theorem wid_ge {c : Int} {l : List Nat} (h0 : 0 ≤ c) : c ≤ wid c l := by
  induction l generalizing c with
  | nil => simp [wid]
  | cons n l ih =>
    unfold wid; split
    · have := colN_gt (n := n) h0
      have := ih (c := colN c n) (by omega)
      omega
    · omega
theorem wid_le {c : Int} {l : List Nat} (h0 : 0 ≤ c) : wid c l ≤ c + 4 * l.length := by
  induction l generalizing c with
  | nil => simp [wid]
  | cons n l ih =>
    unfold wid; split
    · have h1 := colN_gt (n := n) h0
      have h2 := colN_le (n := n) h0
      have := ih (c := colN c n) (by omega)
      simp only [List.length_cons]; omega
    · simp only [List.length_cons]; omega
theorem codes_toNat (x : Str) : (KStt.codes x).map Int.toNat = x.cps.toList := by
  unfold KStt.codes
  rw [List.map_map]
  exact (List.map_congr_left (g := _root_.id) fun c _ => Int.toNat_natCast c).trans (List.map_id _)

/-- the walk's word of a text that is read sign by sign -/
def AllB (pre : List Int) : Prop := ∀ v ∈ pre.map Int.toNat, isB v = true
theorem AllB.nil : AllB [] := by intro v h; cases h
theorem AllB.snoc {pre : List Int} {n : Nat} (h : AllB pre) (hn : isB n = true) : AllB (pre ++ [(n : Int)]) := by
  intro v hv
  rw [List.map_append] at hv
  rcases List.mem_append.mp hv with hv | hv
  · exact h v hv
  · simp at hv; subst hv; exact hn

theorem eq_space {n : Nat} (h : (({ cps := #[n] } : Str) == Str.ofString " ") = true) : n = 32 := by
  have h := beq_iff_eq.mp h
  have : (#[n] : Array Nat) = #[32] := congrArg Str.cps h
  simpa using this
theorem eq_tab {n : Nat} (h : (({ cps := #[n] } : Str) == Str.ofString "\t") = true) : n = 9 := by
  have h := beq_iff_eq.mp h
  have : (#[n] : Array Nat) = #[9] := congrArg Str.cps h
  simpa using this
theorem ne_space {n : Nat} (h : (({ cps := #[n] } : Str) == Str.ofString " ") = false) : n ≠ 32 := by
  rintro rfl
  have : (({ cps := #[32] } : Str) == Str.ofString " ") = true := by decide +kernel
  rw [this] at h; cases h
theorem ne_tab {n : Nat} (h : (({ cps := #[n] } : Str) == Str.ofString "\t") = false) : n ≠ 9 := by
  rintro rfl
  have : (({ cps := #[9] } : Str) == Str.ofString "\t") = true := by decide +kernel
  rw [this] at h; cases h
theorem not_isB {n : Nat} (h1 : n ≠ 32) (h2 : n ≠ 9) : isB n = false := by simp [isB, h1, h2]
end Mine
end

section
open PySem PySem.W PyProof.Rows
namespace Mine
def txt (l : List Nat) : Str := ⟨l.toArray⟩
theorem txt_L (l : List Nat) : (txt l).cps.toList = l := rfl
theorem txt_eta (x : Str) : txt x.cps.toList = x := Str.ext' rfl
theorem txt_length (l : List Nat) : (txt l).length = l.length := by show l.toArray.size = _; simp
theorem len_L (x : Str) : x.length = x.cps.toList.length := by show x.cps.size = _; simp
theorem txt_app (a b : List Nat) : txt a ++ txt b = txt (a ++ b) := by
  refine Str.ext' (Array.toList_inj.mp ?_)
  rw [PySem.Str.cps_append, Array.toList_append]; rfl
theorem app_L (x y : Str) : (x ++ y).cps.toList = x.cps.toList ++ y.cps.toList := by
  rw [PySem.Str.cps_append, Array.toList_append]
theorem str_ext {x y : Str} (h : x.cps.toList = y.cps.toList) : x = y := Str.ext' (Array.toList_inj.mp h)

def spaces (n : Nat) : List Nat := List.replicate n 32
def expandL (k : Int) (l : List Nat) : List Nat := spaces (wid k l - k).toNat ++ dropB l

/-- what the parts are when the text's first i signs are told -/
def Parts (parts : List Str) (n : Nat) : Prop := parts.flatMap (·.cps.toList) = spaces n

theorem Parts.len {parts : List Str} {n : Nat} (h : Parts parts n) : (parts.map (·.length)).sum = n := by
  have h2 := congrArg List.length h
  rw [List.length_flatMap] at h2
  have e : (parts.map fun x => x.cps.toList.length) = parts.map (·.length) := by
    apply List.map_congr_left; intro x _; rw [len_L]
  rw [e] at h2
  rw [h2]; simp [spaces]

theorem join_empty_L : ∀ (parts : List Str), (Txt.join (Str.ofString "") parts).cps.toList = parts.flatMap (·.cps.toList) := by
  intro parts
  show (Builtin.Str.glued (Str.ofString "") parts).cps.toList = _
  rw [StrLaws.glued_eq_join]
  have e0 : (Str.ofString "").cps.toList = [] := by decide +kernel
  induction parts with
  | nil => rfl
  | cons a r ih =>
    cases r with
    | nil => show a.cps.toList = _; simp
    | cons b r =>
      show (a ++ Str.ofString "" ++ Str.join (Str.ofString "") (b :: r)).cps.toList = _
      rw [app_L, app_L, ih, e0]; simp

theorem slice_from_L {x : Str} {i : Int} (h0 : 0 ≤ i) (h1 : i ≤ x.length) : (Txt.slice x (some i) none).cps.toList = x.cps.toList.drop i.toNat := by
  have h := StrLaws.sliceText_from (x := x) (i := i) ⟨h0, by rw [← len_L]; exact h1⟩
  have e : Txt.slice x (some i) none = StrLaws.sliceText x (some i) none := rfl
  rw [e, h]
  show ((x.cps.toList.drop i.toNat).take _) = _
  rw [List.take_of_length_le]
  simp only [List.length_drop]
  have := len_L x
  omega
theorem slice_to_L {x : Str} {j : Int} (h0 : 0 ≤ j) (h1 : j ≤ x.length) : (Txt.slice x none (some j)).cps.toList = x.cps.toList.take j.toNat := by
  have h := StrLaws.sliceText_to (x := x) (j := j) ⟨h0, by rw [← len_L]; exact h1⟩
  have e : Txt.slice x none (some j) = StrLaws.sliceText x none (some j) := rfl
  rw [e, h]
  show ((x.cps.toList.drop 0).take _) = _
  simp
theorem item_L {x : Str} {i : Int} (h0 : 0 ≤ i) (h1 : i < x.length) : ∃ n, x.cps.toList[i.toNat]? = some n ∧ Txt.item x i = ⟨#[n]⟩ := by
  obtain ⟨n, hn⟩ := StrLaws.some_at (x := x) h0 h1
  refine ⟨n, by simpa using hn, ?_⟩
  show (⟨#[((PySem.seqIndex? i x.length).bind (x.cps[·]?)).getD 0]⟩ : Str) = _
  rw [StrLaws.at_nonneg h0 hn]; rfl
end Mine
namespace Mine
theorem colN_gt' {c : Int} {n : Nat} : c < colN c n := by unfold colN; split <;> omega
theorem colN_le' {c : Int} {n : Nat} : colN c n ≤ c + 4 := by unfold colN; split <;> omega
theorem wid_ge' {c : Int} {l : List Nat} : c ≤ wid c l := by
  induction l generalizing c with
  | nil => simp [wid]
  | cons n l ih =>
    unfold wid; split
    · have h1 : c < colN c n := by unfold colN; split <;> omega
      have := ih (c := colN c n)
      omega
    · omega
/-- expand's loop: the first i signs are blanks, the column, the parts -/
def ExpI (k : Int) (x : Str) (i col : Int) (parts : List Str) : Prop :=
  0 ≤ i ∧ i ≤ x.length ∧ (parts.length : Int) = i ∧ k ≤ col ∧ col ≤ k + 4 * i ∧ ((∀ n ∈ x.cps.toList.take i.toNat, isB n = true) ∧ col = wid k (x.cps.toList.take i.toNat) ∧ Parts parts (col - k).toNat)

theorem take_succ_at {l : List Nat} {i : Int} {n : Nat} (h0 : 0 ≤ i) (h : l[i.toNat]? = some n) : l.take (i + 1).toNat = l.take i.toNat ++ [n] := by
  have e : (i + 1).toNat = i.toNat + 1 := by omega
  rw [e, List.take_add_one, h]; rfl
theorem spaces_add (a b : Nat) : spaces (a + b) = spaces a ++ spaces b := by
  unfold spaces; rw [List.replicate_append_replicate]
theorem foldl_app_replicate (n : Nat) : ∀ acc : Array Nat, ((List.replicate n (#[32] : Array Nat)).foldl (· ++ ·) acc).toList = acc.toList ++ List.replicate n 32 := by
  induction n with
  | zero => intro acc; simp
  | succ n ih => intro acc; rw [List.replicate_succ, List.foldl_cons, ih]; simp [List.replicate_succ]
theorem mul_space {n : Int} (h : 0 ≤ n) : (Txt.mul (Str.ofString " ") n).cps.toList = spaces n.toNat := by
  have es : (Str.ofString " ") = ⟨#[32]⟩ := by decide +kernel
  rw [es]
  unfold Txt.mul
  by_cases h1 : n < 1
  · rw [if_pos h1]; have : n = 0 := by omega
    subst this; rfl
  · rw [if_neg h1]
    by_cases h2 : n = 1
    · subst h2; rfl
    · have : (n == 1 || ({ cps := #[32] } : Str).length == 0) = false := by
        simp [h2]; decide
      rw [this]
      simp only [Bool.false_eq_true, if_false]
      rw [foldl_app_replicate]; rfl

theorem exp0 {k : Int} {x : Str} : ExpI k x 0 k [] := by
  refine ⟨by omega, by omega, rfl, by omega, by omega, ?_, rfl, ?_⟩
  · intro n h; simp at h
  · show [] = spaces _
    have : (k - k).toNat = 0 := by omega
    rw [this]; rfl
theorem exp_sp {k : Int} {x : Str} {i col : Int} {parts : List Str} (h : ExpI k x i col parts) (hi : i < x.length) (q : (Txt.item x i == Str.ofString " ") = true) :
    ExpI k x (i + 1) (col + 1) (parts ++ [Str.ofString " "]) := by
  obtain ⟨h0, h1, hp, h2, h3, hb, hc, hP⟩ := h
  obtain ⟨n, hn, he⟩ := item_L h0 hi
  rw [he] at q
  have := eq_space q; subst this
  have ht := take_succ_at h0 hn
  refine ⟨by omega, by omega, by simp; omega, by omega, by omega, ?_, ?_, ?_⟩
  · rw [ht]; intro m hm
    rcases List.mem_append.mp hm with hm | hm
    · exact hb m hm
    · simp at hm; subst hm; rfl
  · rw [ht, wid_snoc hb rfl, ← hc]; rfl
  · unfold Parts at hP ⊢
    have e : (col + 1 - k).toNat = (col - k).toNat + 1 := by omega
    rw [e, spaces_add, List.flatMap_append, hP]; rfl
theorem exp_tab {k : Int} {x : Str} {i col : Int} {parts : List Str} (h : ExpI k x i col parts) (hi : i < x.length) (q : (Txt.item x i == Str.ofString "\t") = true) :
    ExpI k x (i + 1) (col + (4 - col.fmod 4)) (parts ++ [Txt.mul (Str.ofString " ") (4 - col.fmod 4)]) := by
  obtain ⟨h0, h1, hp, h2, h3, hb, hc, hP⟩ := h
  obtain ⟨n, hn, he⟩ := item_L h0 hi
  rw [he] at q
  have := eq_tab q; subst this
  have ht := take_succ_at h0 hn
  rw [Int.fmod_eq_emod_of_nonneg _ (by decide)]
  refine ⟨by omega, by omega, by simp; omega, by omega, by omega, ?_, ?_, ?_⟩
  · rw [ht]; intro m hm
    rcases List.mem_append.mp hm with hm | hm
    · exact hb m hm
    · simp at hm; subst hm; rfl
  · rw [ht, wid_snoc hb rfl, ← hc]; rfl
  · unfold Parts at hP ⊢
    have e : (col + (4 - col % 4) - k).toNat = (col - k).toNat + (4 - col % 4).toNat := by omega
    rw [e, spaces_add, List.flatMap_append, hP]
    simp only [List.flatMap_cons, List.flatMap_nil, List.append_nil]
    rw [mul_space (by omega)]
theorem ExpI.weight {k : Int} {x : Str} {i col : Int} {parts : List Str} (h : ExpI k x i col parts) (hx : x.length ≤ 65536) : (parts.map (·.length)).sum + parts.length ≤ 1048576 := by
  obtain ⟨h0, h1, hp, h2, h3, hb, hc, hP⟩ := h
  rw [hP.len]; omega
theorem dropB_split {l : List Nat} {j n : Nat} (hb : ∀ n ∈ l.take j, isB n = true) (hj : l[j]? = some n) (hn : isB n = false) : dropB l = l.drop j := by
  have e : l = l.take j ++ l.drop j := (List.take_append_drop j l).symm
  have hd : l.drop j = n :: l.drop (j + 1) := by
    rw [List.drop_eq_getElem?_toList_append, hj]; rfl
  conv => lhs; rw [e]
  unfold dropB
  rw [List.dropWhile_append_of_pos (fun a ha => hb a ha), hd, List.dropWhile_cons]
  simp [hn]
theorem wid_split {c : Int} {l : List Nat} {j n : Nat} (hb : ∀ n ∈ l.take j, isB n = true) (hj : l[j]? = some n) (hn : isB n = false) : wid c l = wid c (l.take j) := by
  have e : l = l.take j ++ l.drop j := (List.take_append_drop j l).symm
  have hd : l.drop j = n :: l.drop (j + 1) := by
    rw [List.drop_eq_getElem?_toList_append, hj]; rfl
  conv => lhs; rw [e, hd]
  exact wid_stop hb hn
theorem dropB_all {l : List Nat} (hb : ∀ n ∈ l, isB n = true) : dropB l = [] := by
  unfold dropB
  induction l with
  | nil => rfl
  | cons n l ih =>
    rw [List.dropWhile_cons, if_pos (hb n (List.mem_cons_self ..))]
    exact ih fun m hm => hb m (List.mem_cons_of_mem _ hm)
theorem exp_end {k : Int} {x : Str} {i col : Int} {parts : List Str} (h : ExpI k x i col parts) (hw : wid k x.cps.toList = col) (hd : dropB x.cps.toList = x.cps.toList.drop i.toNat) :
    Txt.join (Str.ofString "") parts ++ Txt.slice x (some i) none = txt (expandL k x.cps.toList) := by
  obtain ⟨h0, h1, hp, h2, h3, hb, hc, hP⟩ := h
  apply str_ext
  rw [app_L, join_empty_L, slice_from_L h0 h1, hP, txt_L]
  unfold expandL
  rw [hw, hd]
theorem exp_stop {k : Int} {x : Str} {i col : Int} {parts : List Str} (h : ExpI k x i col parts) (hi : i < x.length)
    (q1 : (Txt.item x i == Str.ofString " ") = false) (q2 : (Txt.item x i == Str.ofString "\t") = false) :
    Txt.join (Str.ofString "") parts ++ Txt.slice x (some i) none = txt (expandL k x.cps.toList) := by
  have h' := h
  obtain ⟨h0, h1, hp, h2, h3, hb, hc, hP⟩ := h
  obtain ⟨n, hn, he⟩ := item_L h0 hi
  rw [he] at q1 q2
  have hB := not_isB (ne_space q1) (ne_tab q2)
  exact exp_end h' ((wid_split hb hn hB).trans hc.symm) (dropB_split hb hn hB)
theorem exp_all {k : Int} {x : Str} {i col : Int} {parts : List Str} (h : ExpI k x i col parts) (hi : ¬ i < x.length) :
    Txt.join (Str.ofString "") parts ++ Txt.slice x (some i) none = txt (expandL k x.cps.toList) := by
  have h' := h
  obtain ⟨h0, h1, hp, h2, h3, hb, hc, hP⟩ := h
  have hl := len_L x
  have ht : x.cps.toList.take i.toNat = x.cps.toList := List.take_of_length_le (by omega)
  rw [ht] at hb hc
  refine exp_end h' hc.symm ?_
  rw [dropB_all hb, List.drop_of_length_le (by omega)]
end Mine
namespace Mine
theorem ExpI.out {k : Int} {x : Str} {i col : Int} {parts : List Str} (h : ExpI k x i col parts) :
    0 ≤ i ∧ i ≤ x.length ∧ (parts.length : Int) = i ∧ k ≤ col ∧ col ≤ k + 4 * i ∧ ExpI k x i col parts :=
  ⟨h.1, h.2.1, h.2.2.1, h.2.2.2.1, h.2.2.2.2.1, h⟩
theorem ExpI.join_len {k : Int} {x : Str} {i col : Int} {parts : List Str} (h : ExpI k x i col parts) (hx : x.length ≤ 65536) : (Txt.join (Str.ofString "") parts).length ≤ 1048576 := by
  have h1 := h.weight hx
  rw [len_L, join_empty_L]
  obtain ⟨_, _, _, _, _, _, _, hP⟩ := h
  rw [hP.len] at h1
  unfold Parts at hP
  rw [hP]; simp [spaces]; omega
end Mine
namespace Mine
/-- a text y comes back, that is z, of at most B signs -/
def GivesStr (z : Str) (B : Nat) (news : List (Addr × Obj)) (v : Value) (n' : List (Addr × Obj)) : Prop :=
  (∃ y t, v = .str y t ∧ y = z ∧ y.length ≤ B) ∧ n' = news
theorem GivesStr.mk {z y : Str} {B : Nat} {news : List (Addr × Obj)} {t : Tok} (e : y = z) (h : z.length ≤ B) : GivesStr z B news (.str y t) news := ⟨⟨y, t, rfl, e, e ▸ h⟩, rfl⟩
theorem dropB_len (l : List Nat) : (dropB l).length ≤ l.length := by
  unfold dropB
  exact (List.dropWhile_sublist _).length_le
theorem expandL_len (k : Int) (x : Str) : (txt (expandL k x.cps.toList)).length ≤ 5 * x.length := by
  rw [txt_length, len_L]
  unfold expandL
  rw [List.length_append]
  have h1 := dropB_len x.cps.toList
  have h2 : wid k x.cps.toList ≤ k + 4 * x.cps.toList.length := by
    generalize x.cps.toList = l
    clear h1
    induction l generalizing k with
    | nil => simp [wid]
    | cons n l ih =>
      unfold wid; split
      · have h1 : colN k n ≤ k + 4 := by unfold colN; split <;> omega
        have := ih (colN k n)
        simp only [List.length_cons]; omega
      · simp only [List.length_cons]; omega
  have h3 : (spaces (wid k x.cps.toList - k).toNat).length = (wid k x.cps.toList - k).toNat := by simp [spaces]
  omega
end Mine
namespace Mine
theorem ofString_tab : Str.ofString "\t" = ⟨#[9]⟩ := by decide +kernel
theorem no_tab {y : Str} (h : (Builtin.Str.occurrences y (Str.ofString "\t") 0 y.length 1).isEmpty = true) : 9 ∉ y.cps.toList := by
  intro hm
  obtain ⟨i, hi⟩ := List.getElem?_of_mem hm
  rw [ofString_tab] at h
  have h2 := (StrLaws.found_iff y ⟨#[9]⟩).mpr ⟨i, (StrLaws.subAt_one y 9 i).mpr hi⟩
  rw [h] at h2
  simp at h2

/-- strip's loop: the first i signs are blanks and tabs, the column behind them -/
def StI (x : Str) (i col : Int) : Prop := (∀ n ∈ x.cps.toList.take i.toNat, isB n = true) ∧ col = wid 0 (x.cps.toList.take i.toNat)
theorem st0 {x : Str} : (0:Int) ≤ 0 ∧ (0:Int) ≤ x.length ∧ (0:Int) ≤ 0 ∧ (0:Int) ≤ 4 * 0 ∧ StI x 0 0 := ⟨by omega, by omega, by omega, by omega, by intro n h; simp at h, rfl⟩
theorem StI.next {x : Str} {i col : Int} {n : Nat} (h : StI x i col) (h0 : 0 ≤ i) (hn : x.cps.toList[i.toNat]? = some n) (hB : isB n = true) : StI x (i + 1) (colN col n) := by
  obtain ⟨hb, hc⟩ := h
  have ht := take_succ_at h0 hn
  refine ⟨?_, ?_⟩
  · rw [ht]; intro m hm
    rcases List.mem_append.mp hm with hm | hm
    · exact hb m hm
    · simp at hm; subst hm; exact hB
  · rw [ht, wid_snoc hb hB, ← hc]
theorem st_sp {x : Str} {i col : Int} (h : StI x i col) (h0 : 0 ≤ i) (hi : i < x.length) (c0 : 0 ≤ col) (c1 : col ≤ 4 * i) (q : (Txt.item x i == Str.ofString " ") = true) :
    0 ≤ i + 1 ∧ i + 1 ≤ x.length ∧ 0 ≤ col + 1 ∧ col + 1 ≤ 4 * (i + 1) ∧ StI x (i + 1) (col + 1) := by
  obtain ⟨n, hn, he⟩ := item_L h0 hi
  rw [he] at q
  have := eq_space q; subst this
  exact ⟨by omega, by omega, by omega, by omega, h.next h0 hn rfl⟩
theorem st_tab {x : Str} {i col : Int} (h : StI x i col) (h0 : 0 ≤ i) (hi : i < x.length) (c0 : 0 ≤ col) (c1 : col ≤ 4 * i) (q : (Txt.item x i == Str.ofString "\t") = true) :
    0 ≤ i + 1 ∧ i + 1 ≤ x.length ∧ 0 ≤ col + (4 - col.fmod 4) ∧ col + (4 - col.fmod 4) ≤ 4 * (i + 1) ∧ StI x (i + 1) (col + (4 - col.fmod 4)) := by
  obtain ⟨n, hn, he⟩ := item_L h0 hi
  rw [he] at q
  have := eq_tab q; subst this
  rw [Int.fmod_eq_emod_of_nonneg _ (by decide)]
  exact ⟨by omega, by omega, by omega, by omega, h.next h0 hn rfl⟩
theorem StI.split {x : Str} {i col : Int} (h : StI x i col) : wid 0 x.cps.toList = wid col (x.cps.toList.drop i.toNat) ∧ dropB x.cps.toList = dropB (x.cps.toList.drop i.toNat) := by
  obtain ⟨hb, hc⟩ := h
  have e : x.cps.toList = x.cps.toList.take i.toNat ++ x.cps.toList.drop i.toNat := (List.take_append_drop _ _).symm
  refine ⟨?_, ?_⟩
  · conv => lhs; rw [e]
    rw [wid_append hb, ← hc]
  · conv => lhs; rw [e]
    unfold dropB
    rw [List.dropWhile_append_of_pos (fun a ha => hb a ha)]
theorem at_drop {l : List Nat} {j n : Nat} (h : l[j]? = some n) : l.drop j = n :: l.drop (j + 1) := by
  rw [List.drop_eq_getElem?_toList_append, h]; rfl
theorem st_break {x : Str} {i col k : Int} (h : StI x i col) (h0 : 0 ≤ i) (hi : i < x.length) (hc : col < k) (hk : k ≤ wid 0 x.cps.toList)
    (q1 : (Txt.item x i == Str.ofString " ") = false) (q2 : (Txt.item x i == Str.ofString "\t") = false) : False := by
  obtain ⟨n, hn, he⟩ := item_L h0 hi
  rw [he] at q1 q2
  have hB := not_isB (ne_space q1) (ne_tab q2)
  rw [h.split.1, at_drop hn] at hk
  simp [wid, hB] at hk
  omega
theorem st_short {x : Str} {i col k : Int} (h : StI x i col) (h1 : i ≤ x.length) (hi : ¬ i < x.length) (hc : col < k) (hk : k ≤ wid 0 x.cps.toList) : False := by
  have hl := len_L x
  rw [h.split.1, List.drop_of_length_le (by omega)] at hk
  simp [wid] at hk
  omega
/-- what the text without its first columns is -/
def lessL (k : Int) (l : List Nat) : List Nat := spaces (wid 0 l - k).toNat ++ dropB l
theorem lessL_len (k : Int) (hk : 0 ≤ k) (x : Str) : (txt (lessL k x.cps.toList)).length ≤ 5 * x.length := by
  have h := expandL_len 0 x
  rw [txt_length] at h ⊢
  unfold expandL at h
  unfold lessL
  simp only [List.length_append, spaces, List.length_replicate] at h ⊢
  omega
theorem st_expand {x y : Str} {i col k : Int} (h : StI x i col) (h0 : 0 ≤ i) (h1 : i ≤ x.length) (hc : ¬ col < k) (e : y = txt (expandL col (Txt.slice x (some i) none).cps.toList)) :
    Txt.mul (Str.ofString " ") (col - k) ++ y = txt (lessL k x.cps.toList) := by
  subst e
  apply str_ext
  rw [app_L, mul_space (by omega), txt_L, txt_L, slice_from_L h0 h1]
  unfold expandL lessL
  rw [h.split.1, h.split.2, ← List.append_assoc, ← spaces_add]
  have := wid_ge' (c := col) (l := x.cps.toList.drop i.toNat)
  congr 2
  omega
theorem st_plain {x : Str} {i col k : Int} (h : StI x i col) (h0 : 0 ≤ i) (h1 : i ≤ x.length) (hc : ¬ col < k) (e : x.cps.toList.drop i.toNat = expandL col (x.cps.toList.drop i.toNat)) :
    Txt.mul (Str.ofString " ") (col - k) ++ Txt.slice x (some i) none = txt (lessL k x.cps.toList) := by
  refine st_expand h h0 h1 hc ?_
  apply str_ext
  rw [txt_L, slice_from_L h0 h1]; exact e
theorem expand_no_tab : ∀ {l : List Nat} {c : Int}, 9 ∉ l → l = expandL c l
  | [], c, _ => by unfold expandL; simp [wid, dropB, spaces]
  | n :: l, c, h => by
    by_cases hn : n = 32
    · subst hn
      have ih := expand_no_tab (l := l) (c := c + 1) (fun hm => h (List.mem_cons_of_mem _ hm))
      unfold expandL at ih ⊢
      have hg := wid_ge' (c := c + 1) (l := l)
      have e1 : wid c (32 :: l) = wid (c + 1) l := rfl
      have e2 : dropB (32 :: l) = dropB l := rfl
      have e3 : (wid (c + 1) l - c).toNat = (wid (c + 1) l - (c + 1)).toNat + 1 := by omega
      rw [e1, e2, e3]
      show 32 :: l = (spaces _) ++ _
      unfold spaces at ih ⊢
      rw [List.replicate_succ, List.cons_append, ← ih]
    · have h9 : n ≠ 9 := fun e => h (e ▸ List.mem_cons_self ..)
      have hB := not_isB hn h9
      unfold expandL
      simp [wid, dropB, hB, spaces]
theorem expand_stop {l : List Nat} {c : Int} {j n : Nat} (hj : l[j]? = some n) (hB : isB n = false) : l.drop j = expandL c (l.drop j) := by
  rw [at_drop hj]
  unfold expandL
  simp [wid, dropB, hB, spaces]
theorem st_nt {x : Str} {i col k : Int} (h : StI x i col) (h0 : 0 ≤ i) (h1 : i ≤ x.length) (hc : ¬ col < k)
    (q : (Builtin.Str.occurrences (Txt.slice x (some i) none) (Str.ofString "\t") 0 (Txt.slice x (some i) none).length 1).isEmpty = true) :
    Txt.mul (Str.ofString " ") (col - k) ++ Txt.slice x (some i) none = txt (lessL k x.cps.toList) := by
  have := no_tab q
  rw [slice_from_L h0 h1] at this
  exact st_plain h h0 h1 hc (expand_no_tab this)
theorem st_stop {x : Str} {i col k : Int} (h : StI x i col) (h0 : 0 ≤ i) (hi : i < x.length) (hc : ¬ col < k)
    (q1 : (Txt.item x i == Str.ofString " ") = false) (q2 : (Txt.item x i != Str.ofString "\t") = true) :
    Txt.mul (Str.ofString " ") (col - k) ++ Txt.slice x (some i) none = txt (lessL k x.cps.toList) := by
  obtain ⟨n, hn, he⟩ := item_L h0 hi
  have q2' : (Txt.item x i == Str.ofString "\t") = false := by simpa [bne] using q2
  rw [he] at q1 q2'
  exact st_plain h h0 (by omega) hc (expand_stop hn (not_isB (ne_space q1) (ne_tab q2')))
theorem st_over {x : Str} {i col k : Int} (h : StI x i col) (h0 : 0 ≤ i) (h1 : i ≤ x.length) (hi : ¬ i < x.length) (hc : ¬ col < k) :
    Txt.mul (Str.ofString " ") (col - k) ++ Txt.slice x (some i) none = txt (lessL k x.cps.toList) := by
  have hl := len_L x
  refine st_plain h h0 h1 hc ?_
  rw [List.drop_of_length_le (by omega)]
  unfold expandL; simp [wid, dropB, spaces]
end Mine
namespace Mine
theorem ofString_bt : Str.ofString " \t" = ⟨#[32, 9]⟩ := by decide +kernel
theorem in_bt {n : Nat} (h : (Builtin.Str.occurrences (Str.ofString " \t") ⟨#[n]⟩ 0 (Str.ofString " \t").length 1).isEmpty = false) : isB n = true := by
  rw [ofString_bt] at h
  have h1 : (!(Builtin.Str.occurrences (⟨#[32, 9]⟩ : Str) ⟨#[n]⟩ 0 (⟨#[32, 9]⟩ : Str).length 1).isEmpty) = true := by rw [h]; rfl
  obtain ⟨i, hi⟩ := (StrLaws.found_iff _ _).mp h1
  have h2 := (StrLaws.subAt_one _ n i).mp hi
  have h3 : ([32, 9] : List Nat)[i]? = some n := h2
  rcases i with _ | _ | i
  · simp at h3; subst h3; rfl
  · simp at h3; subst h3; rfl
  · simp at h3
theorem not_in_bt {n : Nat} (h : (Builtin.Str.occurrences (Str.ofString " \t") ⟨#[n]⟩ 0 (Str.ofString " \t").length 1).isEmpty = true) : isB n = false := by
  rw [ofString_bt] at h
  cases hB : isB n with
  | false => rfl
  | true =>
    have h1 : ∃ i, i + (⟨#[n]⟩ : Str).length ≤ (⟨#[32, 9]⟩ : Str).length ∧ Builtin.Str.subAt ⟨#[32, 9]⟩ ⟨#[n]⟩ i = true := by
      rcases isB_cases hB with rfl | rfl
      · exact ⟨0, (StrLaws.subAt_one _ 32 0).mpr rfl⟩
      · exact ⟨1, (StrLaws.subAt_one _ 9 1).mpr rfl⟩
    have h2 := (StrLaws.found_iff _ _).mpr h1
    rw [h] at h2; simp at h2

/-- the law's columns: the first i signs are blanks and tabs, the column behind them from k on -/
def CoI (k : Int) (x : Str) (i col : Int) : Prop := (∀ n ∈ x.cps.toList.take i.toNat, isB n = true) ∧ col = wid k (x.cps.toList.take i.toNat)
theorem co0 {k : Int} {x : Str} : (0:Int) ≤ 0 ∧ (0:Int) ≤ x.length ∧ k ≤ k ∧ k ≤ k + 4 * 0 ∧ CoI k x 0 k := ⟨by omega, by omega, by omega, by omega, by intro n h; simp at h, rfl⟩
theorem CoI.next {k : Int} {x : Str} {i col : Int} {n : Nat} (h : CoI k x i col) (h0 : 0 ≤ i) (hn : x.cps.toList[i.toNat]? = some n) (hB : isB n = true) : CoI k x (i + 1) (colN col n) := by
  obtain ⟨hb, hc⟩ := h
  have ht := take_succ_at h0 hn
  refine ⟨?_, ?_⟩
  · rw [ht]; intro m hm
    rcases List.mem_append.mp hm with hm | hm
    · exact hb m hm
    · simp at hm; subst hm; exact hB
  · rw [ht, wid_snoc hb hB, ← hc]
theorem co_sp {k : Int} {x : Str} {i col : Int} (h : CoI k x i col) (h0 : 0 ≤ i) (hi : i < x.length) (c0 : k ≤ col) (c1 : col ≤ k + 4 * i) (q : (Txt.item x i == Str.ofString " ") = true) :
    0 ≤ i + 1 ∧ i + 1 ≤ x.length ∧ k ≤ col + 1 ∧ col + 1 ≤ k + 4 * (i + 1) ∧ CoI k x (i + 1) (col + 1) := by
  obtain ⟨n, hn, he⟩ := item_L h0 hi
  rw [he] at q
  have := eq_space q; subst this
  exact ⟨by omega, by omega, by omega, by omega, h.next h0 hn rfl⟩
theorem co_tab {k : Int} {x : Str} {i col : Int} (h : CoI k x i col) (h0 : 0 ≤ i) (hi : i < x.length) (c0 : k ≤ col) (c1 : col ≤ k + 4 * i) (q : (Txt.item x i == Str.ofString " ") = false)
    (q2 : (Builtin.Str.occurrences (Str.ofString " \t") (Txt.item x i) 0 (Str.ofString " \t").length 1).isEmpty = false) :
    0 ≤ i + 1 ∧ i + 1 ≤ x.length ∧ k ≤ col.fdiv 4 * 4 + 4 ∧ col.fdiv 4 * 4 + 4 ≤ k + 4 * (i + 1) ∧ CoI k x (i + 1) (col.fdiv 4 * 4 + 4) := by
  obtain ⟨n, hn, he⟩ := item_L h0 hi
  rw [he] at q q2
  have hB := in_bt q2
  have h9 : n = 9 := (isB_cases hB).resolve_left (ne_space q)
  subst h9
  have e : col.fdiv 4 * 4 + 4 = colN col 9 := by
    rw [Int.fdiv_eq_ediv_of_nonneg _ (by decide)]
    unfold colN; simp; omega
  have h1 := colN_le' (c := col) (n := 9)
  have h2 := colN_gt' (c := col) (n := 9)
  rw [e]
  exact ⟨by omega, by omega, by omega, by omega, h.next h0 hn rfl⟩
theorem CoI.split {k : Int} {x : Str} {i col : Int} (h : CoI k x i col) : wid k x.cps.toList = wid col (x.cps.toList.drop i.toNat) ∧ dropB x.cps.toList = dropB (x.cps.toList.drop i.toNat) := by
  obtain ⟨hb, hc⟩ := h
  have e : x.cps.toList = x.cps.toList.take i.toNat ++ x.cps.toList.drop i.toNat := (List.take_append_drop _ _).symm
  refine ⟨?_, ?_⟩
  · conv => lhs; rw [e]
    rw [wid_append hb, ← hc]
  · conv => lhs; rw [e]
    unfold dropB
    rw [List.dropWhile_append_of_pos (fun a ha => hb a ha)]
theorem co_stop {k : Int} {x : Str} {i col : Int} (h : CoI k x i col) (h0 : 0 ≤ i) (hi : i < x.length) (q2 : (Builtin.Str.occurrences (Str.ofString " \t") (Txt.item x i) 0 (Str.ofString " \t").length 1).isEmpty = true) :
    col = wid k x.cps.toList ∧ Txt.slice x (some i) none = txt (dropB x.cps.toList) := by
  obtain ⟨n, hn, he⟩ := item_L h0 hi
  rw [he] at q2
  have hB := not_in_bt q2
  refine ⟨?_, str_ext ?_⟩
  · rw [h.split.1, at_drop hn]; simp [wid, hB]
  · rw [slice_from_L h0 (by omega), txt_L, h.split.2, at_drop hn]; simp [dropB, hB]
theorem co_over {k : Int} {x : Str} {i col : Int} (h : CoI k x i col) (h0 : 0 ≤ i) (h1 : i ≤ x.length) (hi : ¬ i < x.length) :
    col = wid k x.cps.toList ∧ Txt.slice x (some i) none = txt (dropB x.cps.toList) := by
  have hl := len_L x
  refine ⟨?_, str_ext ?_⟩
  · rw [h.split.1, List.drop_of_length_le (by omega)]; simp [wid]
  · rw [slice_from_L h0 h1, txt_L, h.split.2, List.drop_of_length_le (by omega)]; rfl
end Mine
namespace Mine
/-- a pair of an int and a text comes back, newly made -/
def GivesIS (i : Int) (z : Str) (B : Nat) (news : List (Addr × Obj)) (v : Value) (n' : List (Addr × Obj)) : Prop :=
  ∃ a j t1 y t2, v = .ref a ∧ n' = (a, ({ cls := .type "tuple", data := .seq #[.int j t1, .str y t2] } : Obj)) :: news ∧ j = i ∧ y = z ∧ y.length ≤ B ∧ (0 ≤ j ∧ j ≤ 4 * B) ∧ ∀ p ∈ news, p.1 < a
def GivesSI (z : Str) (i : Int) (B : Nat) (news : List (Addr × Obj)) (v : Value) (n' : List (Addr × Obj)) : Prop :=
  ∃ a j t1 y t2, v = .ref a ∧ n' = (a, ({ cls := .type "tuple", data := .seq #[.str y t2, .int j t1] } : Obj)) :: news ∧ j = i ∧ y = z ∧ y.length ≤ B ∧ ∀ p ∈ news, p.1 < a
theorem GivesIS.mk {i j : Int} {z y : Str} {B : Nat} {news : List (Addr × Obj)} {a : Addr} {t1 t2 : Tok} (h1 : j = i) (h2 : y = z) (h3 : z.length ≤ B) (hb : 0 ≤ i ∧ i ≤ 4 * B) (h4 : ∀ p ∈ news, p.1 < a) :
    GivesIS i z B news (.ref a) ((a, { cls := .type "tuple", data := .seq #[.int j t1, .str y t2] }) :: news) := ⟨a, j, t1, y, t2, rfl, rfl, h1, h2, h2 ▸ h3, h1 ▸ hb, h4⟩
theorem GivesSI.mk {i j : Int} {z y : Str} {B : Nat} {news : List (Addr × Obj)} {a : Addr} {t1 t2 : Tok} (h1 : j = i) (h2 : y = z) (h3 : z.length ≤ B) (h4 : ∀ p ∈ news, p.1 < a) :
    GivesSI z i B news (.ref a) ((a, { cls := .type "tuple", data := .seq #[.str y t2, .int j t1] }) :: news) := ⟨a, j, t1, y, t2, rfl, rfl, h1, h2, h2 ▸ h3, h4⟩
theorem wid_le' {c : Int} {l : List Nat} : wid c l ≤ c + 4 * l.length := by
  induction l generalizing c with
  | nil => simp [wid]
  | cons n l ih =>
    unfold wid; split
    · have h2 := colN_le' (c := c) (n := n)
      have := ih (c := colN c n)
      simp only [List.length_cons]; omega
    · simp only [List.length_cons]; omega
theorem wid_bounds (k : Int) (x : Str) : 0 ≤ wid k x.cps.toList - k ∧ wid k x.cps.toList - k ≤ 4 * (x.length : Nat) := by
  have h1 := wid_ge' (c := k) (l := x.cps.toList)
  have h2 := wid_le' (c := k) (l := x.cps.toList)
  rw [len_L]; omega
theorem txt_dropB_len (x : Str) : (txt (dropB x.cps.toList)).length ≤ x.length := by
  rw [txt_length, len_L]; exact dropB_len _
end Mine
namespace Mine
/-- a line below: without its first k columns where it has them -/
def lineL (k : Int) (l : List Nat) : List Nat := if k ≤ wid 0 l then lessL k l else expandL 0 l
theorem lineL_len (k : Int) (hk : 0 ≤ k) (x : Str) : (txt (lineL k x.cps.toList)).length ≤ 5 * x.length := by
  unfold lineL; split
  · exact lessL_len k hk x
  · exact expandL_len 0 x
theorem less_yes {x y : Str} {j k : Int} (h1 : j = wid 0 x.cps.toList - 0) (h2 : y = txt (dropB x.cps.toList)) (h : k ≤ j) :
    Txt.mul (Str.ofString " ") (j - k) ++ y = txt (lineL k x.cps.toList) := by
  subst h2
  apply str_ext
  rw [app_L, mul_space (by omega), txt_L, txt_L]
  unfold lineL lessL
  rw [if_pos (by omega)]
  congr 2; omega
theorem less_no {x y : Str} {j k : Int} (h1 : j = wid 0 x.cps.toList - 0) (h2 : y = txt (dropB x.cps.toList)) (h0 : 0 ≤ j) (h : ¬ k ≤ j) :
    Txt.mul (Str.ofString " ") j ++ y = txt (lineL k x.cps.toList) := by
  subst h2
  apply str_ext
  rw [app_L, mul_space (by omega), txt_L, txt_L]
  unfold lineL expandL
  rw [if_neg (by omega)]
  congr 2; omega
/-- the first line's text and width -/
def firstL (k : Int) (l : List Nat) : List Nat := if dropB l = [] then [] else if 4 < wid k l - k then spaces (wid k l - k - 1).toNat ++ dropB l ++ [10] else dropB l ++ [10]
def firstW (k : Int) (l : List Nat) : Int := if dropB l = [] then k + 1 else if 4 < wid k l - k then k + 1 else k + (wid k l - k)
theorem ofString_nil : Str.ofString "" = ⟨#[]⟩ := by decide +kernel
theorem ofString_nl : Str.ofString "\n" = ⟨#[10]⟩ := by decide +kernel
theorem is_empty {y : Str} {l : List Nat} (h : y = txt l) (q : (y == Str.ofString "") = true) : l = [] := by
  have := beq_iff_eq.mp q
  rw [h, ofString_nil] at this
  have := congrArg (fun z : Str => z.cps.toList) this
  simpa [txt] using this
theorem not_empty {y : Str} {l : List Nat} (h : y = txt l) (q : (y == Str.ofString "") = false) : l ≠ [] := by
  rintro rfl
  subst h
  have : (txt [] == Str.ofString "") = true := by decide +kernel
  rw [this] at q; cases q
theorem firstL_len (k : Int) (x : Str) : (txt (firstL k x.cps.toList)).length ≤ 5 * x.length + 1 := by
  rw [txt_length, len_L]
  have h1 := dropB_len x.cps.toList
  have h2 := wid_le' (c := k) (l := x.cps.toList)
  generalize x.cps.toList = l at *
  unfold firstL
  split
  · simp
  · split
    · simp only [spaces, List.length_append, List.length_replicate, List.length_cons, List.length_nil]; omega
    · simp only [List.length_append, List.length_cons, List.length_nil]; omega
theorem first_nil {x y : Str} {k : Int} (h2 : y = txt (dropB x.cps.toList)) (q : (y == Str.ofString "") = true) :
    Str.ofString "" = txt (firstL k x.cps.toList) ∧ k + 1 = firstW k x.cps.toList := by
  have h := is_empty h2 q
  unfold firstL firstW
  rw [if_pos h, if_pos h]
  exact ⟨by decide +kernel, rfl⟩
theorem first_far {x y : Str} {j k : Int} (h1 : j = wid k x.cps.toList - k) (h2 : y = txt (dropB x.cps.toList)) (q : (y == Str.ofString "") = false) (h : 4 < j) :
    Txt.mul (Str.ofString " ") (j - 1) ++ y ++ Str.ofString "\n" = txt (firstL k x.cps.toList) ∧ k + 1 = firstW k x.cps.toList := by
  have hn := not_empty h2 q
  subst h2
  unfold firstL firstW
  rw [if_neg hn, if_neg hn, if_pos (by omega), if_pos (by omega)]
  refine ⟨str_ext ?_, rfl⟩
  rw [app_L, app_L, mul_space (by omega), ofString_nl, txt_L, txt_L, h1]
theorem first_near {x y : Str} {j k : Int} (h1 : j = wid k x.cps.toList - k) (h2 : y = txt (dropB x.cps.toList)) (q : (y == Str.ofString "") = false) (h : ¬ 4 < j) :
    y ++ Str.ofString "\n" = txt (firstL k x.cps.toList) ∧ k + j = firstW k x.cps.toList := by
  have hn := not_empty h2 q
  subst h2
  unfold firstL firstW
  rw [if_neg hn, if_neg hn, if_neg (by omega), if_neg (by omega)]
  refine ⟨str_ext ?_, by rw [h1]⟩
  rw [app_L, ofString_nl, txt_L, txt_L]
end Mine
end

section
open PySem PySem.W PyProof.Rows
namespace Mine
/-- from place e on all is blank -/
def SpI (x : Str) (e : Int) : Prop := ∀ c ∈ x.cps.toList.drop e.toNat, Unicode.isSpace c = true
/-- what strip_end makes of the signs l -/
def StripRel (l r : List Nat) : Prop := ∃ e, e ≤ l.length ∧ (∀ c ∈ l.drop e, Unicode.isSpace c = true) ∧ (e = 0 ∨ ∃ c, l[e - 1]? = some c ∧ Unicode.isSpace c = false) ∧
  ((10 ∉ l.drop e ∧ r = l) ∨ ∃ k, e ≤ k ∧ l[k]? = some 10 ∧ (∀ v, e ≤ v → v < k → l[v]? ≠ some 10) ∧ r = l.take k ++ [10])
def GivesStrP (P : Str → Prop) (B : Nat) (news : List (Addr × Obj)) (v : Value) (n' : List (Addr × Obj)) : Prop :=
  (∃ y t, v = .str y t ∧ P y ∧ y.length ≤ B) ∧ n' = news
theorem GivesStrP.mk {P : Str → Prop} {y : Str} {B : Nat} {news : List (Addr × Obj)} {t : Tok} (e : P y) (h : y.length ≤ B) : GivesStrP P B news (.str y t) news := ⟨⟨y, t, rfl, e, h⟩, rfl⟩
theorem se0 {x : Str} : (0:Int) ≤ x.length ∧ (x.length : Int) ≤ x.length ∧ SpI x x.length := by
  refine ⟨by omega, by omega, ?_⟩
  intro c hc
  have := len_L x
  rw [List.drop_of_length_le (by omega)] at hc
  cases hc
theorem isspace_item {n : Nat} : Txt.isspace ⟨#[n]⟩ = Unicode.isSpace n := by
  unfold Txt.isspace
  simp [PySem.Str.length]
theorem se1 {x : Str} {e : Int} (h : SpI x e) (h0 : 0 ≤ e) (h1 : e ≤ x.length) (hn : e ≠ 0) (q : Txt.isspace (Txt.item x (e - 1)) = true) :
    0 ≤ e - 1 ∧ e - 1 ≤ x.length ∧ SpI x (e - 1) := by
  refine ⟨by omega, by omega, ?_⟩
  obtain ⟨n, hn', he⟩ := item_L (x := x) (i := e - 1) (by omega) (by omega)
  rw [he, isspace_item] at q
  intro c hc
  rw [at_drop hn'] at hc
  rcases List.mem_cons.mp hc with rfl | hc
  · exact q
  · have e2 : (e - 1).toNat + 1 = e.toNat := by omega
    rw [e2] at hc
    exact h c hc
theorem se_stop {x : Str} {e : Int} (h0 : 0 ≤ e) (h1 : e ≤ x.length) (hn : e ≠ 0) (q : Txt.isspace (Txt.item x (e - 1)) = false) :
    e.toNat = 0 ∨ ∃ c, x.cps.toList[e.toNat - 1]? = some c ∧ Unicode.isSpace c = false := by
  obtain ⟨n, hn', he⟩ := item_L (x := x) (i := e - 1) (by omega) (by omega)
  rw [he, isspace_item] at q
  have e2 : (e - 1).toNat = e.toNat - 1 := by omega
  rw [e2] at hn'
  exact .inr ⟨n, hn', q⟩
theorem fromIndex_nn {n : Nat} {i : Int} (h0 : 0 ≤ i) : fromIndex n i = i.toNat := by
  unfold fromIndex
  rw [if_neg (by omega)]
  omega
theorem se_find {x : Str} {e : Int} (h0 : 0 ≤ e) :
    (Txt.find3 x (Str.ofString "\n") e = -1 ∧ 10 ∉ x.cps.toList.drop e.toNat) ∨
    ∃ k : Nat, Txt.find3 x (Str.ofString "\n") e = (k : Int) ∧ e.toNat ≤ k ∧ x.cps.toList[k]? = some 10 ∧ k < x.length ∧ ∀ v, e.toNat ≤ v → v < k → x.cps.toList[v]? ≠ some 10 := by
  rw [ofString_nl]
  have h := StrLaws.find3_spec x 10 e
  rw [fromIndex_nn h0] at h
  rcases h with ⟨h1, h2⟩ | ⟨k, h1, h2, h3, h4, h5⟩
  · refine .inl ⟨h1, fun hm => ?_⟩
    obtain ⟨i, hi⟩ := List.getElem?_of_mem hm
    rw [List.getElem?_drop] at hi
    have hlt : e.toNat + i < x.length := by
      rw [len_L]; exact (List.getElem?_eq_some_iff.mp hi).1
    exact h2 _ (by omega) hlt (StrLaws.getD_of_getElem? hi)
  · refine .inr ⟨k, h1, h2, StrLaws.getElem?_of_getD h3 h4, h3, fun v hv1 hv2 hv => ?_⟩
    exact h5 v hv1 hv2 (StrLaws.getD_of_getElem? hv)
theorem se_yes {x : Str} {e : Int} (h : SpI x e) (h0 : 0 ≤ e) (h1 : e ≤ x.length) (hs : e.toNat = 0 ∨ ∃ c, x.cps.toList[e.toNat - 1]? = some c ∧ Unicode.isSpace c = false)
    (q : 0 ≤ Txt.find3 x (Str.ofString "\n") e) :
    StripRel x.cps.toList (Txt.slice x none (some (Txt.find3 x (Str.ofString "\n") e)) ++ Str.ofString "\n").cps.toList := by
  refine ⟨e.toNat, by rw [← len_L]; omega, h, hs, .inr ?_⟩
  rcases se_find (x := x) h0 with ⟨a, _⟩ | ⟨k, a, b, c, d, f⟩
  · rw [a] at q; omega
  · refine ⟨k, b, c, f, ?_⟩
    rw [app_L, a, slice_to_L (by omega) (by omega), ofString_nl]
    simp
theorem se_no {x : Str} {e : Int} (h : SpI x e) (h0 : 0 ≤ e) (h1 : e ≤ x.length) (hs : e.toNat = 0 ∨ ∃ c, x.cps.toList[e.toNat - 1]? = some c ∧ Unicode.isSpace c = false)
    (q : ¬ 0 ≤ Txt.find3 x (Str.ofString "\n") e) : StripRel x.cps.toList x.cps.toList := by
  refine ⟨e.toNat, by rw [← len_L]; omega, h, hs, .inl ?_⟩
  rcases se_find (x := x) h0 with ⟨a, b⟩ | ⟨k, a, b, c, d, f⟩
  · exact ⟨b, rfl⟩
  · rw [a] at q; omega
theorem se_zero {x : Str} {e : Int} (h : e = 0) : e.toNat = 0 ∨ ∃ c, x.cps.toList[e.toNat - 1]? = some c ∧ Unicode.isSpace c = false := .inl (by omega)
end Mine
namespace Mine
theorem strip_of {x y c : Str} {l : List Nat} (hc : c = txt l) (h : StripRel (x ++ c).cps.toList y.cps.toList) : StripRel (x.cps.toList ++ l) y.cps.toList := by
  rw [app_L, hc, txt_L] at h; exact h
end Mine
end

section
open PySem PySem.W PySem.Calls PyProof.Rows PyProof.V PySem.Spec
namespace Mine
section
variable {prog : Program} {w : World} {A : Around} {E : Value → Shared → Prop} {s : Shared}
/-- an item of a list of texts at a place in bounds -/
theorem item_of {value slice : PySem.Expr} {l : Addr} {vs : List Value} {ws : List Str} {i : Int} {u : Tok} {Q : Value → Shared → Prop} {P : Str → Prop}
    (hl : s.heap.IsList l vs.toArray) (hw : StrsAre vs ws) (hP : ∀ y ∈ ws, P y) (h0 : 0 ≤ i) (h1 : i < (ws.length : Int)) (hfit : i < 2 ^ 63)
    (h : ∀ y t', P y → Q (.str y t') s)
    (hs : subscripted slice false (.ref l) (.int i u) = operate [.ref l, .int i u] (getItem (.ref l) (.int i u)) := by with_unfolding_all rfl) :
    wpAny (model prog w) A (subscriptTail value slice (.ref l) (.int i u)) Q E s :=
  KTb.item_list hl hw h0 h1 hfit (fun t' hlt => h _ t' (hP _ (by
    rw [List.getD_eq_getElem?_getD, List.getElem?_eq_getElem hlt]
    exact List.getElem_mem hlt))) hs
end
/-- a text of blanks and tabs, short -/
def Lead (B : Nat) (y : Str) : Prop := (∀ n ∈ y.cps.toList, isB n = true) ∧ y.length ≤ B
theorem lead_items : ∀ y ∈ [Str.ofString "", Str.ofString " ", Str.ofString "\t"], Lead 1 y := by
  intro y hy
  simp only [List.mem_cons, List.not_mem_nil, or_false] at hy
  rcases hy with rfl | rfl | rfl
  · rw [ofString_nil]; exact ⟨by intro n h; simp at h, by decide⟩
  · have e : Str.ofString " " = ⟨#[32]⟩ := by decide +kernel
    rw [e]; exact ⟨by intro n h; simp at h; subst h; rfl, by decide⟩
  · rw [ofString_tab]; exact ⟨by intro n h; simp at h; subst h; rfl, by decide⟩
theorem Lead.app {a b : Nat} {x y : Str} (h1 : Lead a x) (h2 : Lead b y) : Lead (a + b) (x ++ y) := by
  refine ⟨?_, ?_⟩
  · intro n hn
    rw [app_L] at hn
    rcases List.mem_append.mp hn with h | h
    · exact h1.1 n h
    · exact h2.1 n h
  · have := h1.2; have := h2.2
    rw [Str.length_append]; omega
theorem lead_nil : Lead 0 (Str.ofString "") := by rw [ofString_nil]; exact ⟨by intro n h; simp at h, by decide⟩
theorem lead_step {pre : List Int} {n : Int} {x y : Str} (h1 : Lead pre.length x) (h2 : Lead 1 y) : Lead (pre ++ [n]).length (x ++ y) := by
  rw [List.length_append]; exact h1.app h2
def GivesLead (news : List (Addr × Obj)) (v : Value) (n' : List (Addr × Obj)) : Prop := (∃ y t, v = .str y t ∧ Lead 4 y ∧ y.length ≤ 4) ∧ n' = news
theorem GivesLead.mk {news : List (Addr × Obj)} {y : Str} {t : Tok} (h : Lead 4 y) : GivesLead news (.str y t) news := ⟨⟨y, t, rfl, h, h.2⟩, rfl⟩
def bodies : List Str := [Str.ofString "", Str.ofString "a", Str.ofString "b c", Str.ofString "- x", Str.ofString "a\tb", Str.ofString "> q", Str.ofString "ab "]
def GivesBodies (news : List (Addr × Obj)) (v : Value) (n' : List (Addr × Obj)) : Prop :=
  ∃ a us, v = .ref a ∧ n' = (a, W.listOf us.toArray 0) :: news ∧ StrsAre us bodies ∧ ∀ p ∈ news, p.1 < a
theorem GivesBodies.mk {news : List (Addr × Obj)} {a : Addr} {us : List Value} (h : StrsAre us bodies) (hl : ∀ p ∈ news, p.1 < a) : GivesBodies news (.ref a) ((a, W.listOf us.toArray 0) :: news) := ⟨a, us, rfl, rfl, h, hl⟩
theorem fmod3 (k d : Int) : 0 ≤ (k.fdiv d).fmod 3 ∧ (k.fdiv d).fmod 3 < 3 := by
  rw [Int.fmod_eq_emod_of_nonneg _ (by decide)]; omega
end Mine
namespace Mine
theorem pow3_small {n : Int} {l : List Int} (e : n = 0 + (l.length : Int)) (h : l.length < (4 - 0 : Int).toNat) : (3 ^ n.toNat : Int) ≠ 0 ∧ (3 ^ n.toNat : Int).natAbs < 1073741824 := by
  have h4 : l.length < 4 := by simpa using h
  have e2 : n.toNat = l.length := by omega
  rw [e2]
  generalize l.length = m at *
  rcases m with _ | _ | _ | _ | m
  · decide
  · decide
  · decide
  · decide
  · omega
end Mine
namespace Mine
theorem lead_nil' : Lead ([] : List Int).length (Str.ofString "") := lead_nil
theorem lead_four {y : Str} (h : Lead (rangeKs 0 (4 - 0 : Int).toNat).length y) : Lead 4 y := by
  have e : (rangeKs 0 (4 - 0 : Int).toNat).length = 4 := by rw [rangeKs_length]; rfl
  rw [e] at h; exact h
end Mine
namespace Mine
theorem lead0 : (Str.ofString "").length ≤ ([] : List Int).length ∧ Lead ([] : List Int).length (Str.ofString "") := ⟨lead_nil.2, lead_nil⟩
theorem lead1 {pre : List Int} {n : Int} {x y : Str} (h1 : Lead pre.length x) (h2 : Lead 1 y) : (x ++ y).length ≤ (pre ++ [n]).length ∧ Lead (pre ++ [n]).length (x ++ y) := ⟨(lead_step h1 h2).2, lead_step h1 h2⟩
end Mine
end

section
open PySem PySem.W PySem.Calls PyProof.Rows PyProof.V PySem.Spec
namespace Mine
section
variable {prog : Program} {w : World} {A : Around} {E : Value → Shared → Prop} {s : Shared} {env : Env} {h₀ : Heap} {x : Str} {body : List Stmt} {Q : Flow → Shared → Prop}

/-- a loop over a list of the ledger, by what holds ahead of turn i; the ledger may grow (the library's kdl_iter, its turn's end told as TbPost) -/
theorem iter_list {l : Addr} {vs : List Value} {nn : Nat} {m₀ : Str → Option Value} {news : List (Addr × Obj)} (J : Nat → (Str → Option Value) → List (Addr × Obj) → Prop)
    (hh : A.handled = none) (hl : (l, W.listOf vs.toArray nn) ∈ news) (keep : ∀ i m nx, J i m nx → (l, W.listOf vs.toArray nn) ∈ nx)
    (F : Fr h₀ env.locals s.heap m₀) (N : News h₀ env.locals s.heap news) (hj : J 0 m₀ news)
    (turn : ∀ i v m₁ nx h tk own, vs[i]? = some v → TbOff own nx → J i m₁ nx → Fr h₀ env.locals h (fun y => if y = x then some v else m₁ y) → News h₀ env.locals h (nx ++ own) →
      wpAny (model prog w) A (execs body env) (TbPost h₀ env.locals (J (i + 1)) own { s with heap := h, toks := tk } Q) E { s with heap := h, toks := tk })
    (done : ∀ m₁ nx h tk, J vs.length m₁ nx → Fr h₀ env.locals h m₁ → News h₀ env.locals h nx → Q .next { s with heap := h, toks := tk }) :
    wpAny (model prog w) A (pyIter (.ref l)) (fun it s₂ => LoopAtV prog w A h₀ env x body Q E it s₂) E s := by
  refine kdl_iter J hh hl F N hj (fun i v m₁ nx h tk own hv hoff _ hJ F₁ N₁ => ?_) done
  refine wpAny_mono (turn i v m₁ nx h tk own hv (fun p hp q hq => hoff p hp q.1 (List.mem_map_of_mem hq)) hJ F₁ N₁) (fun f s₂ p => ?_) fun _ _ e => e
  have fin : TbEnd h₀ env.locals (J (i + 1)) own { s with heap := h, toks := tk } s₂ → InvEndG h₀ env.locals (fun m' nx => (l, W.listOf vs.toArray nn) ∈ nx ∧ J (i + 1) m' nx) own { s with heap := h, toks := tk } s₂ := by
    rintro ⟨h', tk', m', news', nx', e, F', N', hn, ho, ha, hm⟩
    refine ⟨h', tk', m', news', nx', e, F', N', hn, ho, fun p hp b hb => ?_, keep _ _ _ hm, hm⟩
    obtain ⟨q, hq, rfl⟩ := List.mem_map.mp hb
    exact ha p hp q hq
  cases f with
  | ret v => exact p
  | brk => exact p
  | next => exact fin p
  | cont => exact fin p

/-- ahead of turn i: a state c with its ledger nx, the names that hold it -/
def LoS {σ : Type} (K : Nat → σ → List (Addr × Obj) → Prop) (ps : σ → List (Str × Value)) (x : Str) (stored : List Str) (m₀ : Str → Option Value) (i : Nat) (m : Str → Option Value) (nx : List (Addr × Obj)) : Prop :=
  ∃ c : σ, K i c nx ∧ (∀ p ∈ ps c, m p.1 = some p.2) ∧ (∀ z, z ≠ x → (∀ p ∈ ps c, z ≠ p.1) → stored.contains z = false → m z = m₀ z)

theorem lo_list {σ : Type} {l : Addr} {vs : List Value} {nn : Nat} {m₀ : Str → Option Value} {news : List (Addr × Obj)} (K : Nat → σ → List (Addr × Obj) → Prop) (ps : σ → List (Str × Value)) (stored : List Str) (c₀ : σ)
    (hl : (l, W.listOf vs.toArray nn) ∈ news) (keep : ∀ i c nx, K i c nx → (l, W.listOf vs.toArray nn) ∈ nx)
    (hh : A.handled = none) (F : Fr h₀ env.locals s.heap m₀) (N : News h₀ env.locals s.heap news) (hk : ∀ p ∈ ps c₀, m₀ p.1 = some p.2) (hp : K 0 c₀ news)
    (turn : ∀ (c : σ) i v nx (u : Str → Option Value) h tk own, vs[i]? = some v → i < vs.length → TbOff own nx → K i c nx →
      Fr h₀ env.locals h (fun y => if y = x then some v else kstB (fun z => if stored.contains z then u z else m₀ z) (ps c) y) → News h₀ env.locals h (nx ++ own) →
      wpAny (model prog w) A (execs body env) (TbPost h₀ env.locals (LoS K ps x stored m₀ (i + 1)) own { s with heap := h, toks := tk } Q) E { s with heap := h, toks := tk })
    (done : ∀ (c : σ) (u : Str → Option Value) nx h tk, K vs.length c nx → Fr h₀ env.locals h (fun y => if y = x then u y else kstB (fun z => if stored.contains z then u z else m₀ z) (ps c) y) → News h₀ env.locals h nx → Q .next { s with heap := h, toks := tk }) :
    wpAny (model prog w) A (pyIter (.ref l)) (fun it s₂ => LoopAtV prog w A h₀ env x body Q E it s₂) E s := by
  refine iter_list (LoS K ps x stored m₀) hh hl (fun i m nx ⟨c, h, _⟩ => keep i c nx h) F N ⟨c₀, hp, hk, fun _ _ _ _ => rfl⟩ ?_ ?_
  · rintro i v m₁ nx h tk own hv hoff ⟨c, hK, h1, h2⟩ F₁ N₁
    exact turn c i v nx m₁ h tk own hv (List.getElem?_eq_some_iff.mp hv).1 hoff hK (kst_fr h1 h2 F₁) N₁
  · rintro m₁ nx h tk ⟨c, hK, h1, h2⟩ F₁ N₁
    exact done c m₁ nx h tk hK (kst_frOut h1 h2 F₁) N₁

theorem lo_end {σ : Type} {K : Nat → σ → List (Addr × Obj) → Prop} {ps : σ → List (Str × Value)} {stored : List Str} {m₀ : Str → Option Value} {i : Nat} (c : σ) {L : Addr} {m' : Str → Option Value} {own nx news' : List (Addr × Obj)} {s₁ : Shared} {h' : Heap} {tk : Nat}
    (F : Fr h₀ L h' m') (N : News h₀ L h' news') (hK : K i c nx) (hn : ∀ p ∈ nx, p ∈ news') (ho : ∀ p ∈ own, p ∈ news') (ha : TbOff own nx) (hk : ∀ p ∈ ps c, m' p.1 = some p.2)
    (hr : ∀ z, z ≠ x → (∀ p ∈ ps c, z ≠ p.1) → stored.contains z = false → m' z = m₀ z) :
    TbEnd h₀ L (LoS K ps x stored m₀ i) own s₁ { s₁ with heap := h', toks := tk } :=
  ⟨h', tk, m', news', nx, rfl, F, N, hn, ho, ha, c, hK, hk, hr⟩
end
end Mine
namespace Mine
section
variable {prog : Program} {w : World} {A : Around} {E : Value → Shared → Prop} {s : Shared} {env : Env} {h₀ : Heap} {x : Str} {body : List Stmt} {Q : Flow → Shared → Prop}
/-- a loop over a list of texts that fills another list with a text each -/
theorem lo_texts {l rv : Addr} {lv us₀ : List Value} {lines : List Str} {c n₀ : Nat} {m₀ : Str → Option Value} {news : List (Addr × Obj)} (f : Str → Str)
    (hh : A.handled = none) (hS : StrsAre lv lines) (F : Fr h₀ env.locals s.heap m₀) (N : News h₀ env.locals s.heap ((l, W.listOf lv.toArray c) :: (rv, W.listOf us₀.toArray n₀) :: news)) (h0 : us₀ = [])
    (turn : ∀ i y t us ws n h tk own, lines[i]? = some y → i < lines.length → StrsAre us ws → ws = (lines.take i).map f → ws.length = i → OwnOff own (l :: rv :: news.map (·.1)) →
      Fr h₀ env.locals h (fun z => if z = x then some (.str y t) else m₀ z) → News h₀ env.locals h ((l, W.listOf lv.toArray c) :: (rv, W.listOf us.toArray n) :: (news ++ own)) →
      wpAny (model prog w) A (execs body env) (TbPost h₀ env.locals (fun m' nx => (∃ us' n', nx = (l, W.listOf lv.toArray c) :: (rv, W.listOf us'.toArray n') :: news ∧ StrsAre us' (ws ++ [f y])) ∧ ∀ z, z ≠ x → m' z = m₀ z) own { s with heap := h, toks := tk } Q) E { s with heap := h, toks := tk })
    (done : ∀ us n (u : Str → Option Value) h tk, StrsAre us (lines.map f) → Fr h₀ env.locals h (fun z => if z = x then u z else m₀ z) → News h₀ env.locals h ((l, W.listOf lv.toArray c) :: (rv, W.listOf us.toArray n) :: news) → Q .next { s with heap := h, toks := tk }) :
    wpAny (model prog w) A (pyIter (.ref l)) (fun it s₂ => LoopAtV prog w A h₀ env x body Q E it s₂) E s := by
  subst h0
  have hlen : lv.length = lines.length := hS.length
  refine iter_list (nn := c) (vs := lv) (fun i m nx => (∃ us n, nx = (l, W.listOf lv.toArray c) :: (rv, W.listOf us.toArray n) :: news ∧ StrsAre us ((lines.take i).map f)) ∧ ∀ z, z ≠ x → m z = m₀ z) hh (.head _) ?_ F N ⟨⟨[], n₀, rfl, .nil⟩, fun _ _ => rfl⟩ ?_ ?_
  · rintro i m nx ⟨⟨us, n, rfl, _⟩, _⟩; exact .head _
  · rintro i v m₁ nx h tk own hv hoff ⟨⟨us, n, rfl, hu⟩, hm⟩ F₁ N₁
    have hi : i < lines.length := by rw [← hlen]; exact (List.getElem?_eq_some_iff.mp hv).1
    have hy : lines[i]? = some lines[i] := List.getElem?_eq_getElem hi
    obtain ⟨t, ht⟩ := hS.get i lines[i] hy
    have hvv : v = .str lines[i] t := by rw [hv] at ht; exact Option.some.inj ht
    subst hvv
    rw [map_none hm] at F₁
    have hs : (lines.take (i + 1)).map f = (lines.take i).map f ++ [f lines[i]] := by
      rw [List.take_add_one, hy, List.map_append]; rfl
    rw [hs]
    refine turn i _ t us _ n h tk own hy hi hu rfl ?_ ?_ F₁ ?_
    · rw [List.length_map, List.length_take]; omega
    · intro p hp b hb
      rcases List.mem_cons.mp hb with rfl | hb
      · exact hoff p hp _ (.head _)
      · rcases List.mem_cons.mp hb with rfl | hb
        · exact hoff p hp _ (.tail _ (.head _))
        · obtain ⟨q, hq, rfl⟩ := List.mem_map.mp hb
          exact hoff p hp q (.tail _ (.tail _ hq))
    · exact N₁
  · rintro m₁ nx h tk ⟨⟨us, n, rfl, hu⟩, hm⟩ F₁ N₁
    rw [hlen, List.take_length] at hu
    refine done us n m₁ h tk hu ?_ N₁
    rw [done_none hm]; exact F₁
/-- a turn's end -/
theorem lo_texts_end {L l rv : Addr} {lv us' : List Value} {c n' : Nat} {m₀ m' : Str → Option Value} {news own news' : List (Addr × Obj)} {ws : List Str} {z₀ : Str} {s₁ : Shared} {h' : Heap} {tk : Nat}
    (F : Fr h₀ L h' m') (N : News h₀ L h' news') (hn : ∀ p ∈ (l, W.listOf lv.toArray c) :: (rv, W.listOf us'.toArray n') :: (news ++ own), p ∈ news') (ho : OwnOff own (l :: rv :: news.map (·.1)))
    (hS : StrsAre us' (ws ++ [z₀])) (hm : ∀ z, z ≠ x → m' z = m₀ z) :
    TbEnd h₀ L (fun m' nx => (∃ us' n', nx = (l, W.listOf lv.toArray c) :: (rv, W.listOf us'.toArray n') :: news ∧ StrsAre us' (ws ++ [z₀])) ∧ ∀ z, z ≠ x → m' z = m₀ z) own s₁ { s₁ with heap := h', toks := tk } := by
  refine ⟨h', tk, m', news', _, rfl, F, N, fun p hp => hn p ?_, fun p hp => hn p ?_, ?_, ⟨us', n', rfl, hS⟩, hm⟩
  · rcases List.mem_cons.mp hp with rfl | hp
    · exact .head _
    · rcases List.mem_cons.mp hp with rfl | hp
      · exact .tail _ (.head _)
      · exact .tail _ (.tail _ (List.mem_append.mpr (.inl hp)))
  · exact .tail _ (.tail _ (List.mem_append.mpr (.inr hp)))
  · intro p hp q hq
    rcases List.mem_cons.mp hq with rfl | hq
    · exact ho p hp _ (.head _)
    · rcases List.mem_cons.mp hq with rfl | hq
      · exact ho p hp _ (.tail _ (.head _))
      · exact ho p hp _ (.tail _ (.tail _ (List.mem_map_of_mem hq)))
end
end Mine
namespace Mine
theorem strs_end {us : List Value} {ws : List Str} {y z : Str} {t : Tok} (h : StrsAre us ws) (e : y = z) : StrsAre (us ++ [.str y t]) (ws ++ [z]) := by
  subst e; exact PyProof.Rows.StrsAre.append' h (.cons _ _ .nil)
end Mine
end

section
open PySem PySem.W PyProof.Rows
namespace Mine
def joinL : List (List Nat) → List Nat
  | [] => []
  | [a] => a
  | a :: b :: r => a ++ 10 :: joinL (b :: r)
def splitL (l : List Nat) : List (List Nat) := (Txt.split (txt l) (Str.ofString "\n")).map (·.cps.toList)
theorem join_nl_L : ∀ (ts : List Str), (Txt.join (Str.ofString "\n") ts).cps.toList = joinL (ts.map (·.cps.toList)) := by
  intro ts
  show (Builtin.Str.glued (Str.ofString "\n") ts).cps.toList = _
  rw [StrLaws.glued_eq_join]
  have e0 : (Str.ofString "\n").cps.toList = [10] := by rw [ofString_nl]
  induction ts with
  | nil => rfl
  | cons a r ih =>
    cases r with
    | nil => show a.cps.toList = _; rfl
    | cons b r =>
      show (a ++ Str.ofString "\n" ++ Str.join (Str.ofString "\n") (b :: r)).cps.toList = _
      rw [app_L, app_L, ih, e0]; simp [joinL]
theorem joinL_splitL (l : List Nat) : joinL (splitL l) = l := by
  unfold splitL
  rw [← join_nl_L]
  have h := StrLaws.join_split (txt l) (Str.ofString "\n")
  have h2 : Txt.join (Str.ofString "\n") (Txt.split (txt l) (Str.ofString "\n")) = txt l := by
    show Builtin.Str.glued _ _ = _
    rw [StrLaws.glued_eq_join]; exact h
  rw [h2]; rfl
theorem splitL_free (l : List Nat) : ∀ p ∈ splitL l, 10 ∉ p := by
  intro p hp
  unfold splitL at hp
  rw [ofString_nl] at hp
  obtain ⟨q, hq, rfl⟩ := List.mem_map.mp hp
  exact StrLaws.split_free _ _ q hq
theorem joinL_len_ge : ∀ (ls : List (List Nat)), (ls.map List.length).sum + ls.length ≤ (joinL ls).length + 1
  | [] => by simp [joinL]
  | [a] => by simp [joinL]
  | a :: b :: r => by
    have ih := joinL_len_ge (b :: r)
    simp only [joinL, List.map_cons, List.sum_cons, List.length_cons, List.length_append] at ih ⊢
    omega
theorem joinL_len_le : ∀ (ls : List (List Nat)), (joinL ls).length ≤ (ls.map List.length).sum + ls.length
  | [] => by simp [joinL]
  | [a] => by simp [joinL]
  | a :: b :: r => by
    have ih := joinL_len_le (b :: r)
    simp only [joinL, List.map_cons, List.sum_cons, List.length_cons, List.length_append] at ih ⊢
    omega
/-- a text's lines are the only ones -/
theorem joinL_inj : ∀ {as bs : List (List Nat)}, as ≠ [] → bs ≠ [] → (∀ p ∈ as, 10 ∉ p) → (∀ p ∈ bs, 10 ∉ p) → joinL as = joinL bs → as = bs := by
  have key : ∀ (a b u v : List Nat), 10 ∉ a → 10 ∉ b → a ++ 10 :: u = b ++ 10 :: v → a = b ∧ u = v := by
    intro a
    induction a with
    | nil =>
      intro b u v _ hb h
      cases b with
      | nil => simpa using h
      | cons c b => simp at h; exact absurd (h.1 ▸ List.mem_cons_self ..) hb
    | cons c a ih =>
      intro b u v ha hb h
      cases b with
      | nil => simp at h; exact absurd (h.1 ▸ List.mem_cons_self ..) ha
      | cons d b =>
        simp only [List.cons_append, List.cons.injEq] at h
        obtain ⟨e1, e2⟩ := ih b u v (fun hm => ha (List.mem_cons_of_mem _ hm)) (fun hm => hb (List.mem_cons_of_mem _ hm)) h.2
        exact ⟨by rw [h.1, e1], e2⟩
  intro as
  induction as with
  | nil => intro bs h; exact absurd rfl h
  | cons a r ih =>
    intro bs _ hb ha hbs h
    cases bs with
    | nil => exact absurd rfl hb
    | cons b t =>
      have ha1 := ha a (List.mem_cons_self ..)
      have hb1 := hbs b (List.mem_cons_self ..)
      cases r with
      | nil =>
        cases t with
        | nil => simpa [joinL] using h
        | cons c t => exact absurd (by rw [show a = b ++ 10 :: joinL (c :: t) from h]; simp) ha1
      | cons c r =>
        cases t with
        | nil => exact absurd (by rw [show b = a ++ 10 :: joinL (c :: r) from h.symm]; simp) hb1
        | cons d t =>
          obtain ⟨e1, e2⟩ := key a b _ _ ha1 hb1 h
          have := ih (bs := d :: t) (by simp) (by simp) (fun p hp => ha p (List.mem_cons_of_mem _ hp)) (fun p hp => hbs p (List.mem_cons_of_mem _ hp)) e2
          rw [e1, this]
theorem splitL_ne (l : List Nat) : splitL l ≠ [] := by
  intro h
  have h1 := joinL_splitL l
  rw [h] at h1
  have h2 : l = [] := h1.symm
  subst h2
  revert h
  unfold splitL
  rw [ofString_nl]
  decide +kernel
theorem splitL_joinL {ls : List (List Nat)} (h : ls ≠ []) (hf : ∀ p ∈ ls, 10 ∉ p) : splitL (joinL ls) = ls :=
  joinL_inj (splitL_ne _) h (splitL_free _) hf (joinL_splitL _)
theorem split_L (x : Str) : (Txt.split x (Str.ofString "\n")).map (·.cps.toList) = splitL x.cps.toList := by
  unfold splitL; rw [txt_eta]
theorem map_lines (f : List Nat → List Nat) (ts : List Str) : (ts.map fun y => txt (f y.cps.toList)).map (·.cps.toList) = (ts.map (·.cps.toList)).map f := by
  rw [List.map_map, List.map_map]; apply List.map_congr_left; intro y _; rfl
/-- a source's lines cleaned -/
def cleanL (k : Int) (l : List Nat) : List Nat := joinL ((splitL l).map (lineL k))
theorem clean_eq (k : Int) (x : Str) : Txt.join (Str.ofString "\n") ((Txt.split x (Str.ofString "\n")).map fun y => txt (lineL k y.cps.toList)) = txt (cleanL k x.cps.toList) := by
  apply str_ext
  rw [join_nl_L, map_lines, split_L]; rfl
theorem sum_le_five {f : Str → Str} (hf : ∀ y, (f y).length ≤ 5 * y.length) : ∀ ts : List Str, ((ts.map f).map (·.length)).sum ≤ 5 * (ts.map (·.length)).sum
  | [] => by simp
  | a :: r => by
    have ih := sum_le_five hf r
    have := hf a
    simp only [List.map_cons, List.sum_cons] at ih ⊢
    omega
theorem clean_weight {k : Int} (hk : 0 ≤ k) {x : Str} (hx : x.length ≤ 65536) :
    (((Txt.split x (Str.ofString "\n")).map fun y => txt (lineL k y.cps.toList)).map (·.length)).sum + ((Txt.split x (Str.ofString "\n")).map fun y => txt (lineL k y.cps.toList)).length ≤ 6 * x.length + 6 := by
  have h := split_weight x (Str.ofString "\n") (by decide +kernel)
  have h2 := sum_le_five (fun y => lineL_len k hk y) (Txt.split x (Str.ofString "\n"))
  rw [List.length_map]
  omega
theorem cleanL_len {k : Int} (hk : 0 ≤ k) {x : Str} (hx : x.length ≤ 65536) : (txt (cleanL k x.cps.toList)).length ≤ 6 * x.length + 6 := by
  have h := clean_weight hk hx
  rw [txt_length]
  unfold cleanL
  have h3 := joinL_len_le ((splitL x.cps.toList).map (lineL k))
  have e : (((splitL x.cps.toList).map (lineL k)).map List.length).sum = (((Txt.split x (Str.ofString "\n")).map fun y => txt (lineL k y.cps.toList)).map (·.length)).sum := by
    rw [← split_L, ← map_lines, List.map_map]
    congr 1
  have e2 : ((splitL x.cps.toList).map (lineL k)).length = ((Txt.split x (Str.ofString "\n")).map fun y => txt (lineL k y.cps.toList)).length := by
    rw [← split_L]; simp
  omega
theorem split_count (x : Str) : (Txt.split x (Str.ofString "\n")).length ≤ x.length + 1 := by
  have h := split_weight x (Str.ofString "\n") (by decide +kernel)
  omega
theorem split_item {x y : Str} {i : Nat} (h : (Txt.split x (Str.ofString "\n"))[i]? = some y) : y.length ≤ x.length := part_short (List.mem_of_getElem? h)
end Mine
namespace Mine
theorem line_yes {k : Int} {x y : Str} (h : y = txt (lessL k x.cps.toList)) (q : k ≤ wid 0 x.cps.toList) : y = txt (lineL k x.cps.toList) := by
  rw [h]; unfold lineL; rw [if_pos q]
theorem line_no {k : Int} {x y : Str} (h : y = txt (expandL 0 x.cps.toList)) (q : ¬ k ≤ wid 0 x.cps.toList) : y = txt (lineL k x.cps.toList) := by
  rw [h]; unfold lineL; rw [if_neg q]
end Mine
namespace Mine
/-- a line that is not blanks and tabs alone -/
def nbT (y : Str) : Bool := Txt.stripChars y (Str.ofString " \t") != Str.ofString ""
def nbIdx (lines : List Str) (i : Nat) : List Int := ((List.range i).filter fun j => (lines[j]?).any nbT).map fun (j : Nat) => (j : Int)
theorem nbIdx_yes {lines : List Str} {i : Nat} {y : Str} (h : lines[i]? = some y) (q : nbT y = true) : nbIdx lines (i + 1) = nbIdx lines i ++ [(i : Int)] := by
  unfold nbIdx
  rw [List.range_succ, List.filter_append]
  simp [h, q]
theorem nbIdx_no {lines : List Str} {i : Nat} {y : Str} (h : lines[i]? = some y) (q : nbT y = false) : nbIdx lines (i + 1) = nbIdx lines i := by
  unfold nbIdx
  rw [List.range_succ, List.filter_append]
  simp [h, q]
theorem ints_end {us : List Value} {ns ns' : List Int} {i : Int} {t : Tok} (h : IntsAre us ns) (e : ns' = ns ++ [i]) : IntsAre (us ++ [.int i t]) ns' := by
  subst e; exact IntsAre.append h (.cons _ _ .nil)
end Mine
namespace Mine
theorem pick_upto {vs : List Value} {y : Int} (h : 0 ≤ y) : (slicePick vs.toArray none (some y) none).toList = vs.take y.toNat := by
  have e : sliceBounds none (some y) none vs.toArray.size = (((0 : Nat) : Int), ((min y.toNat vs.toArray.size : Nat) : Int), 1) := by
    simp only [sliceBounds, Option.getD_none, show (1 : Int) > 0 by decide, if_true, if_neg (show ¬ (y < 0) by omega)]
    congr 1
    congr 1
    omega
  rw [kmk_pick_nat _ e]
  show (vs.drop 0).take (min y.toNat vs.toArray.size - 0) = _
  rw [List.drop_zero, Nat.sub_zero, List.size_toArray, kmk_take_min]
theorem strs_at {us : List Value} {ls : List Str} {i : Nat} {v : Value} (h : StrsAre us ls) (hv : us[i]? = some v) : ∃ y t, ls[i]? = some y ∧ v = .str y t := by
  have hi : i < ls.length := by rw [← h.length]; exact (List.getElem?_eq_some_iff.mp hv).1
  have hy : ls[i]? = some ls[i] := List.getElem?_eq_getElem hi
  obtain ⟨t, ht⟩ := h.get i ls[i] hy
  exact ⟨ls[i], t, hy, by rw [hv] at ht; exact Option.some.inj ht⟩
theorem strs_take {us : List Value} {ls : List Str} (h : StrsAre us ls) (k : Nat) : StrsAre (us.take k) (ls.take k) := by
  induction h generalizing k with
  | nil => simp; exact .nil
  | cons x t h ih =>
    cases k with
    | zero => exact .nil
    | succ k => exact .cons _ _ (ih k)
theorem nbIdx_len (lines : List Str) (i : Nat) : (nbIdx lines i).length ≤ i := by
  unfold nbIdx
  rw [List.length_map]
  exact Nat.le_trans (List.length_filter_le _ _) (by simp)
end Mine
namespace Mine
theorem nb_step_yes {us : List Value} {lines : List Str} {i : Nat} {y : Str} {t : Tok} (h : IntsAre us (nbIdx lines i)) (hy : lines[i]? = some y) (q : (Txt.stripChars y (Str.ofString " \t") != Str.ofString "") = true) :
    IntsAre (us ++ [.int (i : Int) t]) (nbIdx lines (i + 1)) := ints_end h (nbIdx_yes hy q)
theorem nb_step_no {us : List Value} {lines : List Str} {i : Nat} {y : Str} (h : IntsAre us (nbIdx lines i)) (hy : lines[i]? = some y) (q : (Txt.stripChars y (Str.ofString " \t") != Str.ofString "") = false) :
    IntsAre us (nbIdx lines (i + 1)) := by rw [nbIdx_no hy q]; exact h
/-- M is the last line that is not blank, or 0 -/
def LastNb (lines : List Str) (M : Int) : Prop := M ∈ [0] ++ nbIdx lines lines.length ∧ ∀ a ∈ [0] ++ nbIdx lines lines.length, a ≤ M
theorem LastNb.bounds {lines : List Str} {M : Int} (h : LastNb lines M) : 0 ≤ M ∧ M ≤ lines.length := by
  refine ⟨h.2 0 (by simp), ?_⟩
  have h1 := h.1
  rcases List.mem_append.mp h1 with h2 | h2
  · simp at h2; omega
  · unfold nbIdx at h2
    obtain ⟨j, hj, rfl⟩ := List.mem_map.mp h2
    have := List.mem_range.mp (List.mem_filter.mp hj).1
    omega
end Mine
namespace Mine
theorem goes_isB (c : Nat) : (Str.ofString " \t").cps.contains c = isB c := by
  rw [ofString_bt]
  simp [isB, Array.contains]
theorem getD_mem {l : List Nat} {k : Nat} (h : k < l.length) : l.getD k 0 ∈ l := by
  rw [List.getD_eq_getElem?_getD, List.getElem?_eq_getElem h]; exact List.getElem_mem h
theorem strSub_len (x : Str) (i j : Nat) (h1 : i ≤ j) (h2 : j ≤ x.length) : (Builtin.Str.strSub x i j).length = j - i := by
  show (x.cps.extract i j).size = _
  simp [PySem.Str.length] at h2 ⊢; omega
theorem empty_len {y : Str} : y = Str.ofString "" ↔ y.length = 0 := by
  rw [ofString_nil]
  constructor
  · rintro rfl; rfl
  · intro h
    apply str_ext
    have := len_L y
    rw [h] at this
    show _ = []
    exact List.length_eq_zero_iff.mp this.symm
theorem nb_iff (y : Str) : nbT y = false ↔ ∀ c ∈ y.cps.toList, isB c = true := by
  have hn := len_L y
  unfold nbT
  have e0 : (Txt.stripChars y (Str.ofString " \t") != Str.ofString "") = false ↔ (Txt.stripChars y (Str.ofString " \t")).length = 0 := by
    rw [← empty_len]; simp [bne]
  rw [e0]
  unfold Txt.stripChars
  rw [PyProof.Rows.stripBy_eq]
  obtain ⟨l1, l2, l3⟩ := lo_facts (Str.ofString " \t").cps.contains y
  obtain ⟨h1, h2, h3, h4⟩ := hi_facts (Str.ofString " \t").cps.contains y _ l1
  generalize PySem.stripLo (Str.ofString " \t").cps.contains true y = lo at *
  generalize PySem.stripHi (Str.ofString " \t").cps.contains true y lo = hi at *
  rw [strSub_len y lo hi h1 h2]
  constructor
  · intro h c hc
    obtain ⟨k, hk⟩ := List.getElem?_of_mem hc
    have hlt : k < y.length := by rw [hn]; exact (List.getElem?_eq_some_iff.mp hk).1
    have hg : y.cps.getD k 0 = c := by rw [← getD_list, List.getD_eq_getElem?_getD, hk]; rfl
    rw [← hg, ← goes_isB]
    by_cases hkl : k < lo
    · exact l2 k hkl
    · exact h3 k (by omega) hlt
  · intro h
    have : lo = y.length := by
      rcases l3 with h' | h'
      · exact h'
      · by_cases hl : lo = y.length
        · exact hl
        · have hm := h _ (getD_mem (l := y.cps.toList) (k := lo) (by omega))
          rw [getD_list, ← goes_isB, h'] at hm
          cases hm
    omega
/-- what the law makes of the text l: its lines to the last that is not blank -/
def EndRel (l r : List Nat) : Prop := ∃ M : Nat, M < (splitL l).length ∧ (M = 0 ∨ ∃ p, (splitL l)[M]? = some p ∧ ¬ ∀ c ∈ p, isB c = true) ∧
  (∀ j p, M < j → (splitL l)[j]? = some p → ∀ c ∈ p, isB c = true) ∧ r = joinL ((splitL l).take (M + 1)) ++ (if M + 1 < (splitL l).length then [10] else [])
theorem end_rel {x z : Str} {M : Int} (h : LastNb (Txt.split x (Str.ofString "\n")) M) {tl : List Nat} (ht : tl = if M + 1 < (Txt.split x (Str.ofString "\n")).length then [10] else [])
    (hz : z.cps.toList = (Txt.join (Str.ofString "\n") ((Txt.split x (Str.ofString "\n")).take (M + 1).toNat)).cps.toList ++ tl) : EndRel x.cps.toList z.cps.toList := by
  have hb := h.bounds
  obtain ⟨hm, hmax⟩ := h
  have hne : (Txt.split x (Str.ofString "\n")).length ≠ 0 := by
    intro h0
    have := splitL_ne x.cps.toList
    rw [← split_L, List.length_eq_zero_iff.mp h0] at this
    exact this rfl
  have hlen : (splitL x.cps.toList).length = (Txt.split x (Str.ofString "\n")).length := by rw [← split_L, List.length_map]
  have hidx : ∀ j : Nat, (j : Int) ∈ nbIdx (Txt.split x (Str.ofString "\n")) (Txt.split x (Str.ofString "\n")).length ↔ ∃ y, (Txt.split x (Str.ofString "\n"))[j]? = some y ∧ nbT y = true := by
    intro j
    unfold nbIdx
    rw [List.mem_map]
    constructor
    · rintro ⟨k, hk, e⟩
      have : k = j := by omega
      subst this
      have hk2 := (List.mem_filter.mp hk).2
      cases hg : (Txt.split x (Str.ofString "\n"))[k]? with
      | none => rw [hg] at hk2; simp at hk2
      | some y => rw [hg] at hk2; exact ⟨y, rfl, by simpa using hk2⟩
    · rintro ⟨y, hy, hq⟩
      exact ⟨j, List.mem_filter.mpr ⟨List.mem_range.mpr (List.getElem?_eq_some_iff.mp hy).1, by rw [hy]; simpa using hq⟩, rfl⟩
  have e1 : (M + 1).toNat = M.toNat + 1 := by omega
  have eM : ((M.toNat : Nat) : Int) = M := by omega
  refine ⟨M.toNat, ?_, ?_, ?_, ?_⟩
  · rw [hlen]
    rcases List.mem_append.mp hm with h1 | h1
    · simp at h1; omega
    · rw [← eM] at h1
      obtain ⟨y, hy, _⟩ := (hidx _).mp h1
      exact (List.getElem?_eq_some_iff.mp hy).1
  · rcases List.mem_append.mp hm with h1 | h1
    · simp at h1; exact .inl (by omega)
    · rw [← eM] at h1
      obtain ⟨y, hy, hq⟩ := (hidx _).mp h1
      refine .inr ⟨y.cps.toList, by rw [← split_L, List.getElem?_map, hy]; rfl, ?_⟩
      intro hall
      have := (nb_iff y).mpr hall
      rw [hq] at this; cases this
  · intro j p hj hp
    rw [← split_L, List.getElem?_map] at hp
    cases hg : (Txt.split x (Str.ofString "\n"))[j]? with
    | none => rw [hg] at hp; cases hp
    | some y =>
      rw [hg] at hp
      have hp' : y.cps.toList = p := by simpa using hp
      rw [← hp']
      refine (nb_iff y).mp ?_
      cases hq : nbT y with
      | false => rfl
      | true =>
        have := hmax j (List.mem_append.mpr (.inr ((hidx j).mpr ⟨y, hg, hq⟩)))
        omega
  · rw [hz, join_nl_L, List.map_take, split_L, e1, ht, hlen]
    congr 1
    have : (M + 1 < ((Txt.split x (Str.ofString "\n")).length : Int)) ↔ (M.toNat + 1 < (Txt.split x (Str.ofString "\n")).length) := by omega
    simp only [this]
theorem take_weight (x : Str) (k : Nat) : (((Txt.split x (Str.ofString "\n")).take k).map (·.length)).sum + ((Txt.split x (Str.ofString "\n")).take k).length ≤ x.length + 1 := by
  have h := split_weight x (Str.ofString "\n") (by decide +kernel)
  have e := List.take_append_drop k (Txt.split x (Str.ofString "\n"))
  have h2 : (((Txt.split x (Str.ofString "\n")).take k).map (·.length)).sum + (((Txt.split x (Str.ofString "\n")).drop k).map (·.length)).sum = ((Txt.split x (Str.ofString "\n")).map (·.length)).sum := by
    rw [← List.sum_append, ← List.map_append, e]
  have h3 := List.length_take_le k (Txt.split x (Str.ofString "\n"))
  have h4 : ((Txt.split x (Str.ofString "\n")).take k).length ≤ (Txt.split x (Str.ofString "\n")).length := by rw [List.length_take]; omega
  omega
theorem take_join_len (x : Str) (k : Nat) : (Txt.join (Str.ofString "\n") ((Txt.split x (Str.ofString "\n")).take k)).length ≤ x.length + 1 := by
  have h := take_weight x k
  rw [len_L, join_nl_L]
  have h2 := joinL_len_le (((Txt.split x (Str.ofString "\n")).take k).map (·.cps.toList))
  have e : ((((Txt.split x (Str.ofString "\n")).take k).map (·.cps.toList)).map List.length) = ((Txt.split x (Str.ofString "\n")).take k).map (·.length) := by
    rw [List.map_map]; apply List.map_congr_left; intro y _; exact (len_L y).symm
  rw [e, List.length_map] at h2
  omega
end Mine
end

section
open PySem PySem.W PySem.Calls PyProof.Rows PyProof.V PySem.Spec PyProof.Rows.LCg
set_option maxHeartbeats 2000000
namespace Mine
/-- a turn of a comprehension's block has ended: nothing of the ledger is turned -/
def CEnd (h₀ : Heap) (L : Addr) (m : Str → Option Value) (s₁ : Shared) (X : List (Addr × Obj)) (s₂ : Shared) : Prop :=
  ∃ h' tk', s₂ = { s₁ with heap := h', toks := tk' } ∧ Fr h₀ L h' m ∧ News h₀ L h' X
theorem not_two {a i : Nat} (h1 : @Ne Nat a (i + 1)) (h2 : @Ne Nat a i) : a ∉ [i + 1, i] := by simp [h1, h2]
section
variable {prog : Program} {w : World} {A : Around} {E : Value → Shared → Prop} {s : Shared} {h₀ : Heap} {L : Addr} {m : Str → Option Value} {env : Env}

/-- the rest of a comprehension over a list, turn by turn, by what holds ahead of turn i -/
theorem comp_rest {elt : Expr} {x : Str} {scope : Scope} {cl : List (Str × Addr)} {ax : Addr} {its : Array Value} {news : List (Addr × Obj)} {Fin : List Value → List (Addr × Obj) → Prop} (J : Nat → List Value → Prop)
    (hS : SrcAt h₀ ax its news)
    (turn : ∀ i ys v C oC m₂ h tk own E', J i ys → its[i]? = some v → NsObj oC m₂ → m₂ x = some v → Fr h₀ L h m → News h₀ L h ((C, oC) :: (news ++ own)) →
      wpAny (model prog w) A (eval elt (compEnvC scope cl C env)) (fun y s₂ => J (i + 1) (ys ++ [y]) ∧ CEnd h₀ L m { s with heap := h, toks := tk } ((C, oC) :: (news ++ own)) s₂) E' { s with heap := h, toks := tk })
    (fin : ∀ ys, J its.size ys → Fin ys news) :
    ∀ k i ys, i + k = its.size → J i ys → CompRest prog w A h₀ L m env elt x scope cl s (SrcAt h₀ ax its) (fun i v => its[i]? = some v) Fin k i ys news := by
  intro k
  induction k with
  | zero => intro i ys hi hJ; exact CompRest.zero (fin ys (by rw [show its.size = i by omega]; exact hJ))
  | succ k ih =>
    intro i ys hi hJ
    refine CompRest.succ fun v I oI C oC D m₂ h tk E' hv hC hm₂ F N off ne => ?_
    have N₁ : News h₀ L h ((C, oC) :: (news ++ [(I, oI), (D, lst ys)])) := fun p hp => N p (by
      rcases List.mem_cons.mp hp with rfl | hp
      · exact .tail _ (.head _)
      · rcases List.mem_append.mp hp with hp | hp
        · exact .tail _ (.tail _ (.tail _ hp))
        · rcases List.mem_cons.mp hp with rfl | hp
          · exact .head _
          · rw [List.mem_singleton.mp hp]; exact .tail _ (.tail _ (.head _)))
    refine wpAny_mono (turn i ys v C oC m₂ h tk _ E' hJ hv hC hm₂ F N₁) (fun y s₂ p => ?_) fun _ _ e => e
    obtain ⟨hJ', h', tk', rfl, F', N'⟩ := p
    refine CompEnd.intro F' N' news (fun p hp => ?_) off hS (ih (i + 1) _ (by omega) hJ')
    rcases List.mem_cons.mp hp with rfl | hp
    · exact .tail _ (List.mem_append.mpr (.inr (.head _)))
    · rcases List.mem_cons.mp hp with rfl | hp
      · exact .head _
      · rcases List.mem_cons.mp hp with rfl | hp
        · exact .tail _ (List.mem_append.mpr (.inr (.tail _ (.head _))))
        · exact .tail _ (List.mem_append.mpr (.inl hp))

/-- [elt for a, b in enumerate(l) if c], from the call of enumerate on -/
theorem enum_comp {elt iter c : Expr} {a b : Str} {pa pb tp : Pos} {kk : Nat} {scope : Scope} {cl : List (Str × Addr)} {pos : Pos} {l : Addr} {o : Obj} {vs : List Value} {n : Nat} {news : List (Addr × Obj)} {Q : Value → Shared → Prop}
    (J : Nat → List Value → Prop) (hh : A.handled = none) (F : Fr h₀ L s.heap m) (N : News h₀ L s.heap news) (hm : (l, o) ∈ news) (hc : o.cls = .type "list") (hd : o.data = .seq vs.toArray n) (hsz : vs.length ≤ sizeLine)
    (hcell : ∀ y ∈ scope.names, y.2 ≠ .cell) (hkind : scope.kind = .function) (hxa : scope.names.lookup a = some .local) (hxb : scope.names.lookup b = some .local) (hab : ¬ a = b) (h0 : J 0 [])
    (turn : ∀ i ys v t C oC m₂ h tk own E', J i ys → vs[i]? = some v → NsObj oC m₂ → m₂ a = some (.int (i : Int) t) → m₂ b = some v → Fr h₀ L h m → News h₀ L h ((C, oC) :: (news ++ own)) →
      wpAny (model prog w) A (isTrue c (compEnvC scope cl C env) (eval c (compEnvC scope cl C env))) (fun ok s₃ => if ok = true then
        wpAny (model prog w) A (eval elt (compEnvC scope cl C env)) (fun y s₄ => J (i + 1) (ys ++ [y]) ∧ CEnd h₀ L m { s with heap := h, toks := tk } ((C, oC) :: (news ++ own)) s₄) E' s₃
        else J (i + 1) ys ∧ CEnd h₀ L m { s with heap := h, toks := tk } ((C, oC) :: (news ++ own)) s₃) E' { s with heap := h, toks := tk })
    (fin : ∀ ys D h tk, J vs.length ys → Fr h₀ L h m → News h₀ L h ((D, lst ys) :: news) → (∀ p ∈ news, p.1 < D) → Q (.ref D) { s with heap := h, toks := tk }) :
    wpAny (model prog w) A (call (.type "enumerate") [.ref l]) (fun x s₁ => wpAny (model prog w) A (pyIter x) (fun it s₂ => wpAny (model prog w) A (newList []) (fun acc s₃ =>
      wpAny (model prog w) A (newFunctionEnv scope env.globals cl [] env.qual none .none (some env)) (fun cenv s₄ =>
        codeAny (model prog w) A (.compStart (.ListComp elt [⟨.Tuple [.Name a pa, .Name b pb] kk tp, iter, [c], 0⟩] scope pos) 0 it acc { cenv with scope := relabel scope env }) (compPost (model prog w) A E none Q acc cenv.locals) s₄) E s₃) E s₂) E s₁) E s := by
  have hol : s.heap.get? l = some o := (N _ hm).1
  have hl : s.heap.IsList l vs.toArray := ⟨o, hol, hc, n, hd⟩
  have hlt : @LT.lt Nat _ l s.heap.objs.size := Heap.lt_size hol
  have hLlt : @LT.lt Nat _ L s.heap.objs.size := F.ns.lt
  have nlt : ∀ p ∈ news, @LT.lt Nat _ p.1 s.heap.objs.size := fun p hp => Heap.lt_size (N p hp).1
  have fresh : ∀ a, s.heap.objs.size ≤ a → s.heap.get? a = none := fun a ha => by
    cases e : s.heap.get? a with
    | none => rfl
    | some o' => exact absurd (Heap.lt_size e) (Nat.not_lt.mpr ha)
  have fresh₀ : ∀ a : Nat, s.heap.objs.size ≤ a → h₀.get? a = none := fun a ha => by
    cases e : h₀.get? a with
    | none => rfl
    | some o' => have := F.keep a o' e; rw [fresh a ha] at this; cases this
  refine call_enumerate_list hl fun h₁ hE₁ hI₁ hsz₁ hk₁ => ?_
  refine wpAny_pyIter_enum hE₁ ?_
  refine wpAny_newObj_type (wpAny_newFunctionEnv hcell (by intro y hy; simp at hy) (fun h₂ hns₂ hsb₂ => ?_) hkind)
  dsimp only at hns₂ hsb₂ ⊢
  generalize hH2 : h₁.push { cls := .type "list", dict := none, data := .seq ([] : List Value).toArray } = H2 at hns₂ hsb₂ ⊢
  have hC : H2.objs.size = h₁.objs.size + 1 := by rw [← hH2, Heap.size_push]
  have hacc₀ : H2.get? h₁.objs.size = some (lst []) := by rw [← hH2]; exact Heap.get?_push_size _ rfl
  have hH : ∀ b o, h₁.get? b = some o → H2.get? b = some o := fun b o e => by rw [← hH2]; exact Heap.get?_push_of_some _ e
  have ltH : ∀ b o, H2.get? b = some o → @LT.lt Nat _ b H2.objs.size := fun b o e => Heap.lt_size e
  rw [hsz₁] at hC
  generalize hDe : h₁.objs.size = D at *
  generalize hCe : H2.objs.size = C at *
  generalize hit : s.heap.objs.size = it at *
  have old₁ : ∀ b o, H2.get? b = some o → h₂.get? b = some o := fun b o e => hsb₂.extBut b o (neN (by have := ltH b o e; omega)) (Heap.get?_push_of_some _ e)
  have eD : @Eq Nat D (it + 2) := hsz₁
  have eC : @Eq Nat C (it + 3) := hC
  have hDC : D ≠ C := neN (by omega)
  have hacc : h₂.get? D = some (lst []) := old₁ _ _ hacc₀
  have hE₂ : IsEnum h₂ (it + 1) it 0 .none := old₁ _ _ (hH _ _ hE₁)
  have hI₂ : h₂.IsListIter it l 0 := hI₁.at fun o e => old₁ _ o (hH _ _ e)
  have hl₂ : h₂.IsList l vs.toArray := hl.at fun o e => old₁ _ o (hH _ _ (hk₁ _ o e))
  have F₂ : Fr h₀ L h₂ m := F.keeps fun b o e => old₁ b o (hH _ _ (hk₁ b o e))
  have N₂ : News h₀ L h₂ news := N.grown fun b o e => old₁ b o (hH _ _ (hk₁ b o e))
  have hei : it + 1 ≠ it := Nat.succ_ne_self _
  have hle : l ≠ it + 1 := neN (by omega)
  have hli : l ≠ it := neN (by omega)
  have W := WalksT.enumerate (prog := prog) (w := w) hh (it + 1) it l hei hle hli vs.toArray
  have hD₀ : h₀.get? D = none := fresh₀ _ (by omega)
  have hC₀ : h₀.get? C = none := fresh₀ _ (by omega)
  have he₀ : h₀.get? (it + 1) = none := fresh₀ _ (by omega)
  have hi₀ : h₀.get? it = none := fresh₀ _ (Nat.le_refl _)
  have loop : ∀ s₃ : Shared, s₃ = { s with heap := h₂, toks := s.toks + ([] : List (Str × Value)).length } →
      codeAny (model prog w) A (.compLoop (.ListComp elt [⟨.Tuple [.Name a pa, .Name b pb] kk tp, iter, [c], 0⟩] scope pos) 0 (.ref (it + 1)) (.ref D) (compEnvC scope cl C env))
        (compPost (model prog w) A E none Q (.ref D) C) s₃ := by
    rintro s₃ rfl
    refine kct_loop
      (fun k s' => ∃ h' tk i ys m', s' = { s with heap := h', toks := tk } ∧ i ≤ vs.length ∧ k = vs.length + 1 - i ∧ ys.length ≤ i ∧ ((∃ old, IsEnum h' (it + 1) it i old) ∧ h'.IsListIter it l i ∧ h'.IsList l vs.toArray) ∧ Fr h₀ L h' m ∧ h'.Ns C m' ∧
        News h₀ L h' ((D, lst ys) :: news) ∧ J i ys) ?_ (vs.length + 1)
      ⟨h₂, _, 0, [], _, rfl, Nat.zero_le _, rfl, Nat.le_refl _, ⟨⟨_, hE₂⟩, hI₂, hl₂⟩, F₂, hns₂, fun p hp => ?_, h0⟩
    · rintro k s' ⟨h', tk, i, ys, m', rfl, hi, rfl, hyl, hst', F', hn', N', hJ⟩
      by_cases hlt' : i < vs.length
      · have hlt'' : i < vs.toArray.size := by simpa using hlt'
        refine W.item i _ _ _ hlt'' hst' fun T vals h₃ tk₃ hPt hTs hT hMd hk₃ => ?_
        obtain ⟨t, x, hx, rfl⟩ := hPt
        have hx' : vs[i]? = some x := by simpa using hx
        have hTa := W.apart i T h₃ hMd
        refine W.go _ _ _ i T _ _ _ hMd fun h₄ hst₄ hk₄ => ?_
        have hT₄ : h₄.IsTuple T #[.int (i : Int) t, x] := by
          obtain ⟨oT, e1, r⟩ := hT
          exact ⟨oT, hk₄ T oT hTa e1, r⟩
        have up₄ : ∀ d o, d ≠ it → d ≠ it + 1 → h'.get? d = some o → h₄.get? d = some o := fun d o h1 h2 e => hk₄ d o (by simp [h1, h2]) (hk₃ d o (by simp [h1, h2]) e)
        refine kcp_assign (env := compEnvC scope cl C env) hh hT₄ (lookup_relabel_local hxa) (lookup_relabel_local hxb) (by simp [compEnvC, relabel, hkind]) (hn'.at' fun o e => up₄ _ o (neN (by omega)) (neN (by omega)) e) fun h₅ tk₅ hn₅ hs₅ => ?_
        have hs₅' : ∀ d o, d ≠ C → h₄.get? d = some o → h₅.get? d = some o := fun d o hd e => hs₅ d o hd e
        have up : ∀ d o, d ≠ it → d ≠ it + 1 → d ≠ C → h'.get? d = some o → h₅.get? d = some o := fun d o h1 h2 h3 e => hs₅' d o h3 (up₄ d o h1 h2 e)
        obtain ⟨⟨old₄, hE₄⟩, hI₄, hl₄⟩ := hst₄
        obtain ⟨oi, hoi, hoi2⟩ := id hI₄
        have hE₅ : IsEnum h₅ (it + 1) it ((i + 1 : Nat) : Int) old₄ := hs₅' _ _ (neN (by omega)) hE₄
        have hoi₅ : h₅.get? it = some oi := hs₅' _ _ (neN (by omega)) hoi
        obtain ⟨oC, heC, hoC⟩ := ns_obj hn₅
        have F₅ : Fr h₀ L h₅ m := ⟨F'.ns.at' fun o e => up _ o (neN (by omega)) (neN (by omega)) (neN (by omega)) e, fun d o e => up d o (fun q => by rw [q, hi₀] at e; cases e) (fun q => by rw [q, he₀] at e; cases e) (fun q => by rw [q, hC₀] at e; cases e) (F'.keep d o e), F'.above⟩
        have N₅ : News h₀ L h₅ ((C, oC) :: (news ++ [(it + 1, ({ cls := .type "enumerate", dict := none, data := .fields #[.none, .bool false, .ref it, rawInt ((i + 1 : Nat) : Int), .none, old₄], slots := #[] } : Obj)), (it, oi), (D, lst ys)])) := by
          intro q hq
          rcases List.mem_cons.mp hq with rfl | hq
          · exact ⟨heC, neN (by omega), hC₀⟩
          rcases List.mem_append.mp hq with hq | hq
          · have z := N' q (.tail _ hq)
            have := nlt q hq
            exact ⟨up _ _ (neN (by omega)) (neN (by omega)) (neN (by omega)) z.1, z.2⟩
          rcases List.mem_cons.mp hq with rfl | hq
          · exact ⟨hE₅, neN (by omega), he₀⟩
          rcases List.mem_cons.mp hq with rfl | hq
          · exact ⟨hoi₅, neN (by omega), hi₀⟩
          · rw [List.mem_singleton.mp hq]
            have z := N' _ (.head _)
            exact ⟨up _ _ (neN (by omega)) (neN (by omega)) hDC z.1, z.2⟩
        have stp : ∀ h₆ : Heap, News h₀ L h₆ ((C, oC) :: (news ++ [(it + 1, ({ cls := .type "enumerate", dict := none, data := .fields #[.none, .bool false, .ref it, rawInt ((i + 1 : Nat) : Int), .none, old₄], slots := #[] } : Obj)), (it, oi), (D, lst ys)])) →
            ((∃ old, IsEnum h₆ (it + 1) it ((i + 1 : Nat) : Int) old) ∧ h₆.IsListIter it l (i + 1) ∧ h₆.IsList l vs.toArray) ∧ h₆.get? C = some oC ∧ h₆.get? D = some (lst ys) ∧ News h₀ L h₆ news := by
          intro h₆ N₆
          refine ⟨⟨⟨old₄, (N₆ _ (.tail _ (List.mem_append.mpr (.inr (.head _))))).1⟩, ⟨oi, (N₆ _ (.tail _ (List.mem_append.mpr (.inr (.tail _ (.head _)))))).1, hoi2⟩, ⟨o, (N₆ _ (.tail _ (List.mem_append.mpr (.inl hm)))).1, hc, n, hd⟩⟩, (N₆ _ (.head _)).1, (N₆ _ (.tail _ (List.mem_append.mpr (.inr (.tail _ (.tail _ (.head _))))))).1, fun p hp => N₆ p (.tail _ (List.mem_append.mpr (.inl hp)))⟩
        refine wpAny_mono (turn i ys x t C oC _ h₅ tk₅ _ _ hJ hx' hoC (by simp [hab]) (by simp) F₅ N₅) (fun okb s₅ h₅' => ?_) fun _ _ e => e
        cases okb with
        | false =>
          simp only [Bool.false_eq_true, if_false] at h₅' ⊢
          obtain ⟨hJ', h₆, tk₆, rfl, F₆, N₆⟩ := h₅'
          obtain ⟨st₆, zC, zD, Nn⟩ := stp h₆ N₆
          refine ⟨vs.length + 1 - (i + 1), by omega, h₆, tk₆, i + 1, ys, _, rfl, hlt', rfl, Nat.le_succ_of_le hyl, st₆, F₆, hoC.ns zC, fun p hp => ?_, hJ'⟩
          rcases List.mem_cons.mp hp with rfl | hp
          · exact ⟨zD, neN (by omega), hD₀⟩
          · exact Nn p hp
        | true =>
          simp only [if_true] at h₅' ⊢
          refine wpAny_mono h₅' (fun y s₆ h₆' => ?_) fun _ _ e => e
          obtain ⟨hJ', h₆, tk₆, rfl, F₆, N₆⟩ := h₆'
          obtain ⟨st₆, zC, zD, Nn⟩ := stp h₆ N₆
          refine append_at (hsz := by show ys.toArray.size ≤ sizeLine; rw [List.size_toArray]; exact Nat.le_trans hyl (Nat.le_trans hi hsz)) zD fun h₇ hs₇ hD₇ => ?_
          obtain ⟨⟨old₆, hE₆⟩, hI₆, hl₆⟩ := st₆
          refine ⟨vs.length + 1 - (i + 1), by omega, h₇, _, i + 1, ys ++ [y], _, rfl, hlt', rfl, by rw [List.length_append, List.length_singleton]; exact Nat.succ_le_succ hyl,
            ⟨⟨old₆, hs₇.extBut _ _ (neN (by omega)) hE₆⟩, hI₆.at fun o e => hs₇.extBut _ o (neN (by omega)) e, hl₆.at fun o e => hs₇.extBut _ o (neN (by omega)) e⟩, F₆.change hs₇ (neN (by omega)) hD₀, (hoC.ns zC).sameBut hs₇ (neN (by omega)), fun p hp => ?_, hJ'⟩
          rcases List.mem_cons.mp hp with rfl | hp
          · exact ⟨hD₇.trans (congrArg some (lst_snoc ys y)), neN (by omega), hD₀⟩
          · have := nlt p hp
            exact ⟨hs₇.extBut _ _ (neN (by omega)) (Nn p hp).1, (Nn p hp).2⟩
      · have hin : i = vs.length := Nat.le_antisymm hi (Nat.not_lt.mp hlt')
        subst hin
        refine W.done _ _ _ (by simpa using hst') fun h₃ tk₃ hk₃ => ?_
        have F₃ : Fr h₀ L h₃ m := ⟨F'.ns.at' fun o e => hk₃ _ o (not_two (by omega) (by omega)) e, fun d o e => hk₃ d o (by
          have h1 : d ≠ it + 1 := fun q => by rw [q, he₀] at e; cases e
          have h2 : d ≠ it := fun q => by rw [q, hi₀] at e; cases e
          simp [h1, h2]) (F'.keep d o e), F'.above⟩
        have N₃ : News h₀ L h₃ ((D, lst ys) :: news) := fun p hp => by
          have z := N' p hp
          refine ⟨hk₃ _ _ ?_ z.1, z.2⟩
          rcases List.mem_cons.mp hp with rfl | hp
          · exact not_two (by omega) (by omega)
          · have := nlt p hp
            exact not_two (by omega) (by omega)
        have hnC : h₃.Ns C m' := hn'.at' fun o e => hk₃ _ o (not_two (by omega) (by omega)) e
        refine ⟨m', hnC, fun h'' hs'' => fin ys D h'' tk₃ hJ (F₃.change hs'' (neN (by omega)) hC₀) (fun p hp => ?_) (fun p hp => by have := nlt p hp; exact ltN (by omega))⟩
        refine ⟨hs''.extBut _ _ ?_ (N₃ p hp).1, (N₃ p hp).2⟩
        rcases List.mem_cons.mp hp with rfl | hp
        · exact hDC
        · exact neN (by have := nlt p hp; omega)
    · rcases List.mem_cons.mp hp with rfl | hp
      · exact ⟨hacc, neN (by omega), hD₀⟩
      · exact N₂ p hp
  exact codeAny_compStart_list (loop _ rfl) (wpAny_pyIter_enum hE₂ (loop _ rfl))
end
end Mine
namespace Mine
section
variable {prog : Program} {w : World} {A : Around} {E : Value → Shared → Prop} {s : Shared} {h₀ : Heap} {L : Addr} {m : Str → Option Value} {env : Env}
theorem listcomp_enum {elt iter c : Expr} {a b : Str} {pa pb tp : Pos} {kk : Nat} {scope : Scope} {cl : List (Str × Addr)} {pos : Pos} {Q : Value → Shared → Prop}
    (hclos : closureFor scope env = pure cl) (hkind : scope.kind = .function) (hnames : ∀ y ∈ scope.names, y.2 = .local → scope.names.lookup y.1 = some .local)
    (h : wpAny (model prog w) A (eval iter env) (fun x s₁ => wpAny (model prog w) A (pyIter x) (fun it s₂ => wpAny (model prog w) A (newList []) (fun acc s₃ =>
      wpAny (model prog w) A (newFunctionEnv scope env.globals cl [] env.qual none .none (some env)) (fun cenv s₄ =>
        codeAny (model prog w) A (.compStart (.ListComp elt [⟨.Tuple [.Name a pa, .Name b pb] kk tp, iter, [c], 0⟩] scope pos) 0 it acc { cenv with scope := relabel scope env }) (compPost (model prog w) A E none Q acc cenv.locals) s₄) E s₃) E s₂) E s₁) E s)
    (hs : ∀ x, foldedSetIterable iter env x = pure x := by intro _; rfl) :
    wpAny (model prog w) A (eval (.ListComp elt [⟨.Tuple [.Name a pa, .Name b pb] kk tp, iter, [c], 0⟩] scope pos) env) Q E s := by
  rw [eval_ListComp]
  exact wpAny_comprehension_free (use := none) rfl hs hclos hkind hnames h
end
end Mine
end

section
open PySem PySem.W PyProof.Rows
namespace Mine
theorem wid_spaces (n : Nat) : wid 0 (spaces n) = n := by
  induction n with
  | zero => rfl
  | succ n ih =>
    rw [spaces_add n 1, show spaces 1 = [32] by rfl]
    rw [wid_snoc (by intro m hm; rw [List.eq_of_mem_replicate hm]; rfl) rfl, ih]
    simp [colN]
theorem wid_dropB (c : Int) (l : List Nat) : wid c (dropB l) = c := by
  unfold dropB
  cases h : l.dropWhile isB with
  | nil => rfl
  | cons n r =>
    have hn : isB n = false := by
      have := List.head?_dropWhile_not isB l
      rw [h] at this
      simpa using this
    unfold wid; rw [hn]; rfl
theorem spaces_blank (n : Nat) : ∀ m ∈ spaces n, isB m = true := by intro m hm; rw [List.eq_of_mem_replicate hm]; rfl
theorem wid_expand (k : Int) (l : List Nat) : wid 0 (expandL k l) = wid k l - k := by
  have h : k ≤ wid k l := wid_ge'
  unfold expandL
  rw [wid_append (spaces_blank _), wid_dropB, wid_spaces]
  omega
theorem drop_expand {k : Int} {l : List Nat} {i : Nat} (h : (i : Int) ≤ wid k l - k) : (expandL k l).drop i = spaces (wid k l - k - i).toNat ++ dropB l := by
  unfold expandL
  have e : (wid k l - k).toNat = i + (wid k l - k - i).toNat := by omega
  rw [e, spaces_add, List.append_assoc, List.drop_append_of_le_length (by simp [spaces])]
  rw [List.drop_of_length_le (by simp [spaces])]
  simp
theorem cw_yes {b : Bool} {l : List Nat} (h0 : b = !(dropB l).isEmpty) (hb : b = true) : dropB l ≠ [] := by
  subst h0; intro h; rw [h] at hb; simp at hb
theorem cw_no {b : Bool} {l : List Nat} (h0 : b = !(dropB l).isEmpty) (hb : b = false) : dropB l = [] := by
  subst h0; simpa using hb
theorem exp_len_ge {k : Int} {l : List Nat} {y : Str} (h : y = txt (expandL k l)) : wid k l - k ≤ (y.length : Int) := by
  subst h
  rw [txt_length]; unfold expandL
  have : k ≤ wid k l := wid_ge'
  simp [spaces]; omega
theorem cw_far {b : Bool} {x y : Str} {k : Int} (h : y = txt (expandL k x.cps.toList)) (h0 : b = !(dropB x.cps.toList).isEmpty) (hb : b = true) (q : 5 ≤ wid 0 y.cps.toList) :
    Txt.slice y (some 1) none ++ Str.ofString "\n" = txt (firstL k x.cps.toList) ∧ k + 1 = firstW k x.cps.toList := by
  have hn := cw_yes h0 hb
  have hl := exp_len_ge h
  have e : y.cps.toList = expandL k x.cps.toList := by rw [h]; rfl
  rw [e, wid_expand] at q
  unfold firstL firstW
  rw [if_neg hn, if_neg hn, if_pos (by omega), if_pos (by omega)]
  refine ⟨str_ext ?_, rfl⟩
  rw [app_L, slice_from_L (by omega) (by omega), e, ofString_nl, drop_expand (i := (1 : Int).toNat) (by omega)]
  rfl
theorem cw_near {b : Bool} {x y : Str} {k : Int} (h : y = txt (expandL k x.cps.toList)) (h0 : b = !(dropB x.cps.toList).isEmpty) (hb : b = true) (q : ¬ 5 ≤ wid 0 y.cps.toList) :
    Txt.slice y (some (wid 0 y.cps.toList)) none ++ Str.ofString "\n" = txt (firstL k x.cps.toList) ∧ k + wid 0 y.cps.toList = firstW k x.cps.toList := by
  have hn := cw_yes h0 hb
  have hl := exp_len_ge h
  have hg : k ≤ wid k x.cps.toList := wid_ge'
  have e : y.cps.toList = expandL k x.cps.toList := by rw [h]; rfl
  rw [e, wid_expand] at q ⊢
  unfold firstL firstW
  rw [if_neg hn, if_neg hn, if_neg (by omega), if_neg (by omega)]
  refine ⟨str_ext ?_, rfl⟩
  rw [app_L, slice_from_L (by omega) (by omega), e, ofString_nl, drop_expand (by omega), show (wid k x.cps.toList - k - ((wid k x.cps.toList - k).toNat : Int)).toNat = 0 by omega]
  rfl
theorem cw_none {b : Bool} {x : Str} {k : Int} (h0 : b = !(dropB x.cps.toList).isEmpty) (hb : b = false) :
    Str.ofString "" = txt (firstL k x.cps.toList) ∧ k + 1 = firstW k x.cps.toList := by
  have h := cw_no h0 hb
  unfold firstL firstW
  rw [if_pos h, if_pos h]
  exact ⟨by decide +kernel, rfl⟩
end Mine
end

section
open PySem PySem.W PySem.Calls PyProof.Rows
set_option maxRecDepth 100000
namespace Mine
theorem slot_pat_match : Slot "re.Pattern" "match" "re.Pattern.match" :=
  .of (owner := "re.Pattern") (n := "match") (by rw [typeLookup_type, builtinLookup_eq_fast]; kernel_rfl) (by decide +kernel) (by decide +kernel) (by decide +kernel)
    (by first | exact .inl (by decide +kernel) | exact .inr (by decide +kernel)) (by rw [isSubtype_type]; kernel_rfl)
theorem entry_pat_match : entryFor table "re.Pattern.match" = some Builtin.«re.Pattern.match» := entryFor_of_fast (by kernel_rfl)
theorem args_pat_match (a b : Value) : argsOk "re.Pattern.match" ⟨[a, b], []⟩ := by unfold argsOk; kernel_rfl
theorem plainAttrs_pat : PlainAttrs "re.Pattern" :=
  ⟨⟨"object.__getattribute__", by rw [typeLookup_type, builtinLookup_eq_fast]; kernel_rfl, by decide +kernel⟩, by rw [typeLookup_type, builtinLookup_eq_fast]; kernel_rfl⟩
theorem type_pat_match : typeOf (.builtin "re.Pattern.match") = pure (.type "method_descriptor") := by show builtinType _ = _; rw [builtinType_eq_fast]; kernel_rfl
theorem pat_bool : typeLookup (.type "re.Match") "__bool__" = pure none := by rw [typeLookup_type, builtinLookup_eq_fast]; kernel_rfl
theorem pat_len : typeLookup (.type "re.Match") "__len__" = pure none := by rw [typeLookup_type, builtinLookup_eq_fast]; kernel_rfl
end Mine
end

section
open PySem PySem.W PySem.Calls PyProof.Rows
set_option maxRecDepth 100000
namespace Mine
def settled : Nat → Sre.M → Option Sre.M
  | 0, _ => none
  | k + 1, m => if (m.runFor 4).outcome.isSome then some (m.runFor 4) else settled k (m.runFor 4)
section
variable {prog : Program} {w : World} {A : Around} {E : Value → Shared → Prop} {s : Shared}
theorem drive_wp {M : Model} {Q : Sre.M → Shared → Prop} {m' : Sre.M} : ∀ (k turns : Nat) (m : Sre.M), settled k m = some m' → k ≤ turns → Q m' s → wpAny M A (Builtin.Re.reDrive turns m) Q E s := by
  intro k
  induction k with
  | zero => intro turns m h; cases h
  | succ k ih =>
    intro turns m h hk hq
    obtain ⟨t, rfl⟩ : ∃ t, turns = t + 1 := ⟨turns - 1, by omega⟩
    show wpAny _ _ (if (m.runFor 4).outcome.isSome then pure (m.runFor 4) else (rule "sre.turn" >>= fun _ => Builtin.Re.reDrive t (m.runFor 4))) _ _ _
    unfold settled at h
    by_cases c : (m.runFor 4).outcome.isSome = true
    · rw [if_pos c] at h ⊢
      cases h
      exact wpAny_pure hq
    · rw [if_neg c] at h ⊢
      exact wpAny_bind (wpAny_rule (ih t _ h (by omega) hq))
theorem tags_wp {M : Model} {Q : PUnit → Shared → Prop} {c : Nat → Bool} {tag : Nat → String} (h : Q ⟨⟩ s) : ∀ l : List Nat,
    wpAny M A (forIn l PUnit.unit fun i (r : PUnit) => (if c i = true then do rule (tag i); pure (ForInStep.yield PUnit.unit) else pure (ForInStep.yield PUnit.unit) : Sem (ForInStep PUnit))) Q E s := by
  intro l
  induction l with
  | nil => exact wpAny_pure h
  | cons i r ih =>
    rw [List.forIn_cons]
    refine wpAny_bind ?_
    by_cases hc : c i = true
    · rw [if_pos hc]; exact wpAny_bind (wpAny_rule (wpAny_pure ih))
    · rw [if_neg hc]; exact wpAny_pure ih
theorem toEnd_wp {Q : Option Sre.M → Shared → Prop} {m m' : Sre.M} {k : Nat} (hs : settled k m = some m') (hk : k ≤ 1000) {b : Bool} (ho : match m'.outcome with | some .matched => b = true | some .failed => b = false | _ => False)
    (h : Q (if b then some m' else none) s) : wpAny (model prog w) A (Builtin.Re.reRunToEnd m) Q E s := by
  unfold Builtin.Re.reRunToEnd
  refine wpAny_bind (drive_wp k _ _ hs (Nat.le_trans hk (by decide)) ?_)
  refine wpAny_bind (tags_wp (c := fun i => m'.seen.has i) (tag := fun i => Sre.names.getD i "") ?_ _)
  split at ho <;> rename_i ho' <;> first | subst ho | exact ho.elim
  · rw [ho']; exact wpAny_pure h
  · rw [ho']; exact wpAny_pure h
def matchObj (P : Addr) (x : Str) (t : Tok) (T : Addr) (n : Nat) (m : Sre.M) : Obj := { cls := .type "re.Match", data := .fields #[.str x t, .ref P, rawInt 0, rawInt n, rawInt m.lastindex, .ref T] }
def spanOk : Option Nat → Option Nat → Bool
  | some b, some e => decide (b ≤ e)
  | _, _ => true
theorem newMatch_wp {Q : Value → Shared → Prop} {P : Addr} {x : Str} {t : Tok} {lim : Nat} {m : Sre.M}
    (hw : spanOk (m.marks.getD 0 none) (m.marks.getD 1 none) = true)
    (h : ∀ sp : List Value, Q (.ref (s.heap.objs.size + 1)) { s with heap := (s.heap.push { cls := .type "tuple", data := .seq sp.toArray }).push (matchObj P x t s.heap.objs.size lim m) }) :
    wpAny (model prog w) A (Builtin.Re.reNewMatch (.ref P) (.str x t) 1 0 lim m) Q E s := by
  unfold Builtin.Re.reNewMatch
  split
  · rename_i hc
    exfalso
    rw [show List.range 1 = [0] by rfl] at hc
    simp only [List.any_cons, List.any_nil, Bool.or_false, Nat.mul_zero, Nat.zero_add] at hc
    revert hc hw
    cases m.marks.getD 0 none <;> cases m.marks.getD 1 none <;> simp [spanOk]
    omega
  · refine wpAny_bind (wpAny_newObj_type ?_ ?_)
    · refine wpAny_newObj_type ?_ ?_
      · have e : ∀ o : Obj, (s.heap.push o).objs.size = s.heap.objs.size + 1 := fun o => Array.size_push ..
        show Q (.ref ((s.heap.push _).objs.size)) _
        rw [e]; exact h _
      · show (6 : Nat) ≤ _; decide
    · rw [show List.range 1 = [0] by rfl]
      simp only [List.flatMap_cons, List.flatMap_nil, List.append_nil]
      split
      · show (4 : Nat) ≤ _; decide
      · show (4 : Nat) ≤ _; decide
theorem named_one (v : Value) : Builtin.Re.reNamed "re.Pattern.match" "match" ["string", "pos", "endpos"] 1 [v] [] = pure [some v, none, none] := by rfl
theorem textOf_str (x : Str) (t : Tok) : Builtin.Re.reTextOf (.str x t) = pure (x.cps, 0) := by rfl
theorem re_match {Q : Value → Shared → Prop} {P T : Addr} {x : Str} {t : Tok} {fs ws : Array Value} {code : Array Nat} {n : Nat}
    (hP : s.heap.get? P = some { cls := .type "re.Pattern", data := .fields fs }) (hT : fs.getD 5 .none = .ref T) (hg : Builtin.Re.reRawNat (fs.getD 2 .none) = 1) (hk : Builtin.Re.reRawNat (fs.getD 6 .none) = 0)
    (hT2 : s.heap.get? T = some { cls := .type "tuple", data := .seq ws n }) (hc : (ws.map Builtin.Re.reRawOf).map (·.toNat) = code) {k : Nat} {m' : Sre.M} {b : Bool}
    (hs : settled k (Sre.forMatch code x.cps 1 0 x.cps.size false false) = some m') (hk2 : k ≤ 1000) (hx : x.length ≤ 1000000)
    (ho : match m'.outcome with | some .matched => b = true | some .failed => b = false | _ => False) (hw : spanOk (m'.marks.getD 0 none) (m'.marks.getD 1 none) = true)
    (h1 : b = true → ∀ sp : List Value, Q (.ref (s.heap.objs.size + 1)) { s with heap := (s.heap.push { cls := .type "tuple", data := .seq sp.toArray }).push (matchObj P x t s.heap.objs.size x.cps.size m') })
    (h0 : b = false → Q .none s) :
    wpAny (model prog w) A (call (.builtin "re.Pattern.match") [.ref P, .str x t]) Q E s := by
  refine wpAny_call_entry slot_pat_match ⟨_, hP, rfl⟩ entry_pat_match ?_ (args_pat_match _ _)
  unfold Builtin.«re.Pattern.match»
  refine wpAny_bind ?_
  unfold Builtin.Re.reTarget
  dsimp only
  rw [named_one]
  refine wpAny_bind (wpAny_pure ?_)
  dsimp only
  refine wpAny_bind (wpAny_pure (wpAny_bind (wpAny_pure (wpAny_bind (wpAny_fieldsOf hP rfl ?_)))))
  rw [textOf_str]
  refine wpAny_bind (wpAny_pure ?_)
  dsimp only
  rw [hk]
  refine wpAny_bind (show wpAny _ _ (pure ()) _ _ _ from wpAny_pure ?_)
  rw [hT]
  refine wpAny_bind ?_
  unfold Builtin.Re.reRawItems
  refine wpAny_bind ?_
  unfold seqItems?
  refine wpAny_bind (wpAny_load hT2 (wpAny_pure (wpAny_pure (wpAny_pure ?_))))
  rw [hg]
  simp only [Option.getD_some]
  rw [hc]
  unfold Builtin.Re.reAnswer
  dsimp only
  have e1 : min (0 : Int).toNat x.cps.size = 0 := Nat.zero_min _
  have e2 : min ((2 ^ 63 - 1 : Int)).toNat x.cps.size = x.cps.size := by
    have : x.cps.size ≤ 1000000 := hx
    omega
  rw [e1, e2]
  refine wpAny_bind (toEnd_wp hs hk2 ho ?_)
  cases b with
  | true =>
    refine wpAny_bind (newMatch_wp hw ?_)
    intro sp
    exact wpAny_pure ⟨_, rfl, h1 rfl sp⟩
  | false => exact wpAny_pure ⟨_, rfl, h0 rfl⟩
end
end Mine
end

section
open PySem PySem.W PySem.Calls PyProof.Rows
set_option maxRecDepth 100000
namespace Mine
def matchO (vs : Array Value) : Obj := { cls := .type "re.Match", data := .fields vs }
def reCode : Array Nat := #[14, 4, 0, 1, 4294967295, 17, 0, 24, 9, 0, 4294967295, 13, 4, 8, 12, 0, 1, 17, 1, 13, 4, 8, 13, 0, 1]
/-- what the pattern says of a text -/
def reGood (l : List Nat) (b : Bool) : Bool := match settled 900 (Sre.forMatch reCode l.toArray 1 0 l.length false false) with
  | some m => (match m.outcome with | some .matched => b | some .failed => !b | _ => false) && spanOk (m.marks.getD 0 none) (m.marks.getD 1 none)
  | none => false
section
variable {prog : Program} {w : World} {A : Around} {E : Value → Shared → Prop} {s : Shared} {h₀ : Heap} {L : Addr} {m : Str → Option Value} {news : List (Addr × Obj)}
theorem re_matchK {Q : Value → Shared → Prop} {P T : Addr} {x : Str} {t : Tok} {fs ws : Array Value} {b : Bool} (F : Fr h₀ L s.heap m) (N : News h₀ L s.heap news)
    (hP : h₀.get? P = some { cls := .type "re.Pattern", data := .fields fs }) (hT2 : h₀.get? T = some { cls := .type "tuple", data := .seq ws })
    (hT : fs.getD 5 .none = .ref T) (hg : Builtin.Re.reRawNat (fs.getD 2 .none) = 1) (hk : Builtin.Re.reRawNat (fs.getD 6 .none) = 0)
    (hc : (ws.map Builtin.Re.reRawOf).map (·.toNat) = reCode) (hx : x.length ≤ 1000000) (hr : reGood x.cps.toList b = true)
    (h1 : b = true → ∀ D vs h', Fr h₀ L h' m → News h₀ L h' ((D, matchO vs) :: news) → (∀ q ∈ news, q.1 < D) → Q (.ref D) { s with heap := h' })
    (h0 : b = false → Q .none s) :
    wpAny (model prog w) A (call (.builtin "re.Pattern.match") [.ref P, .str x t]) Q E s := by
  have e1 : x.cps.toList.toArray = x.cps := Array.toArray_toList ..
  have e2 : x.cps.toList.length = x.cps.size := Array.length_toList ..
  unfold reGood at hr
  rw [e1, e2] at hr
  cases hs : settled 900 (Sre.forMatch reCode x.cps 1 0 x.cps.size false false) with
  | none => rw [hs] at hr; cases hr
  | some m' =>
    rw [hs] at hr
    obtain ⟨ho, hw⟩ := Bool.and_eq_true_iff.mp hr
    refine re_match (F.keep _ _ hP) hT hg hk (F.keep _ _ hT2) hc hs (by decide) hx (b := b) ?_ hw ?_ h0
    · revert ho
      cases m'.outcome with
      | none => intro h; cases h
      | some o => cases o with
        | matched => exact id
        | failed => intro h; revert h; cases b <;> simp
        | stuck w => intro h; cases h
    · intro hb sp
      have F1 : Fr h₀ L (s.heap.push { cls := .type "tuple", data := .seq sp.toArray }) m := F.push _
      have N1 : News h₀ L (s.heap.push { cls := .type "tuple", data := .seq sp.toArray }) news := N.pushKeep _
      have e : ∀ o : Obj, (s.heap.push o).objs.size = s.heap.objs.size + 1 := fun o => Array.size_push ..
      have N2 := News.push F1 N1 (matchObj P x t s.heap.objs.size x.cps.size m')
      rw [e] at N2
      exact h1 hb (s.heap.objs.size + 1) _ _ (F1.push _) N2 fun q hq => Nat.lt_succ_of_lt (Heap.lt_size (N q hq).1)
theorem getMethod_match {Q : Value × List Value → Shared → Prop} {P : Addr} {fs : Array Value} {pl : Sem Bool} (F : Fr h₀ L s.heap m) (hP : h₀.get? P = some { cls := .type "re.Pattern", data := .fields fs })
    (h : Q (.builtin "re.Pattern.match", [.ref P]) s) : wpAny (model prog w) A (getMethod (.ref P) "match" pl) Q E s :=
  getMethod_builtin ⟨_, F.keep _ _ hP, rfl⟩ plainAttrs_pat slot_pat_match type_pat_match (fun a e => by cases e; exact ⟨_, F.keep _ _ hP, rfl⟩) h
theorem truthy_match {Q : Bool → Shared → Prop} {D : Addr} {vs : Array Value} (N : News h₀ L s.heap news) (hm : (D, matchO vs) ∈ news) (h : Q true s) : wpAny (model prog w) A (truthy (.ref D)) Q E s := by
  have hT : s.TypeIs (.ref D) "re.Match" := ⟨_, N.get hm, rfl⟩
  unfold truthy
  refine wpAny_bind ?_
  unfold callSpecial?
  refine wpAny_bind (wpAny_specialOf hT pat_bool ?_)
  refine wpAny_pure ?_
  refine wpAny_bind (wpAny_specialOf hT pat_len ?_)
  exact wpAny_pure h
end
def bodiesL : List (List Nat) := [[], [97], [98, 32, 99], [45, 32, 120], [97, 9, 98], [62, 32, 113], [97, 98, 32]]
theorem re_n0 : (bodiesL.all fun b => reGood (List.replicate 0 32 ++ b) (!b.isEmpty)) = true := by decide +kernel
theorem re_n1 : (bodiesL.all fun b => reGood (List.replicate 1 32 ++ b) (!b.isEmpty)) = true := by decide +kernel
theorem re_n2 : (bodiesL.all fun b => reGood (List.replicate 2 32 ++ b) (!b.isEmpty)) = true := by decide +kernel
theorem re_n3 : (bodiesL.all fun b => reGood (List.replicate 3 32 ++ b) (!b.isEmpty)) = true := by decide +kernel
theorem re_n4 : (bodiesL.all fun b => reGood (List.replicate 4 32 ++ b) (!b.isEmpty)) = true := by decide +kernel
theorem re_n5 : (bodiesL.all fun b => reGood (List.replicate 5 32 ++ b) (!b.isEmpty)) = true := by decide +kernel
theorem re_n6 : (bodiesL.all fun b => reGood (List.replicate 6 32 ++ b) (!b.isEmpty)) = true := by decide +kernel
theorem re_n7 : (bodiesL.all fun b => reGood (List.replicate 7 32 ++ b) (!b.isEmpty)) = true := by decide +kernel
theorem re_n8 : (bodiesL.all fun b => reGood (List.replicate 8 32 ++ b) (!b.isEmpty)) = true := by decide +kernel
theorem re_n9 : (bodiesL.all fun b => reGood (List.replicate 9 32 ++ b) (!b.isEmpty)) = true := by decide +kernel
theorem re_n10 : (bodiesL.all fun b => reGood (List.replicate 10 32 ++ b) (!b.isEmpty)) = true := by decide +kernel
theorem re_n11 : (bodiesL.all fun b => reGood (List.replicate 11 32 ++ b) (!b.isEmpty)) = true := by decide +kernel
theorem re_n12 : (bodiesL.all fun b => reGood (List.replicate 12 32 ++ b) (!b.isEmpty)) = true := by decide +kernel
theorem re_n13 : (bodiesL.all fun b => reGood (List.replicate 13 32 ++ b) (!b.isEmpty)) = true := by decide +kernel
theorem re_n14 : (bodiesL.all fun b => reGood (List.replicate 14 32 ++ b) (!b.isEmpty)) = true := by decide +kernel
theorem re_n15 : (bodiesL.all fun b => reGood (List.replicate 15 32 ++ b) (!b.isEmpty)) = true := by decide +kernel
theorem re_n16 : (bodiesL.all fun b => reGood (List.replicate 16 32 ++ b) (!b.isEmpty)) = true := by decide +kernel
theorem re_n17 : (bodiesL.all fun b => reGood (List.replicate 17 32 ++ b) (!b.isEmpty)) = true := by decide +kernel
theorem re_n18 : (bodiesL.all fun b => reGood (List.replicate 18 32 ++ b) (!b.isEmpty)) = true := by decide +kernel
theorem re_n19 : (bodiesL.all fun b => reGood (List.replicate 19 32 ++ b) (!b.isEmpty)) = true := by decide +kernel
theorem re_n20 : (bodiesL.all fun b => reGood (List.replicate 20 32 ++ b) (!b.isEmpty)) = true := by decide +kernel
theorem re_ground : ((List.range 21).all fun n => bodiesL.all fun b => reGood (List.replicate n 32 ++ b) (!b.isEmpty)) = true := by
  refine List.all_eq_true.mpr fun n hn => ?_
  have hn := List.mem_range.mp hn
  match n, hn with
  | 0, _ => exact re_n0
  | 1, _ => exact re_n1
  | 2, _ => exact re_n2
  | 3, _ => exact re_n3
  | 4, _ => exact re_n4
  | 5, _ => exact re_n5
  | 6, _ => exact re_n6
  | 7, _ => exact re_n7
  | 8, _ => exact re_n8
  | 9, _ => exact re_n9
  | 10, _ => exact re_n10
  | 11, _ => exact re_n11
  | 12, _ => exact re_n12
  | 13, _ => exact re_n13
  | 14, _ => exact re_n14
  | 15, _ => exact re_n15
  | 16, _ => exact re_n16
  | 17, _ => exact re_n17
  | 18, _ => exact re_n18
  | 19, _ => exact re_n19
  | 20, _ => exact re_n20
  | n + 21, h => exact absurd h (by omega)
end Mine
end

section
open PySem PySem.W PyProof.Rows
namespace Mine
def plainT (tight : Bool) : List Nat := if tight then [95, 116, 101, 120, 116, 40, 41] else [103, 114, 97, 112, 104, 40, 41]
def quoteT : List Nat := [113, 117, 111, 116, 101, 40, 103, 114, 97, 112, 104, 40, 41, 41]
def qbit (n : Int) : Bool := (n.fdiv 2).fmod 2 != 0
def dueL : List Int → Bool → List Nat
  | [], _ => []
  | n :: r, tight => [108, 105, 115, 116, 40, 95, 105, 116, 101, 109, 40] ++ plainT (tight && n.fmod 2 == 0) ++ (if qbit n then quoteT else []) ++ dueL r (tight && n.fmod 2 == 0) ++ [41, 95, 105, 116, 101, 109, 40] ++ plainT (tight && n.fmod 2 == 0) ++ [41, 41]
theorem plainT_len (b : Bool) : (plainT b).length = 7 := by cases b <;> rfl
theorem dueL_len : ∀ (ns : List Int) (b : Bool), (dueL ns b).length ≤ 60 * ns.length
  | [], _ => by simp [dueL]
  | n :: r, b => by
    have ih := dueL_len r (b && n.fmod 2 == 0)
    simp only [dueL, List.length_append, List.length_cons, List.length_nil, plainT_len]
    have : (if qbit n then quoteT else []).length ≤ 14 := by split <;> decide
    omega
def QOk (Q : Str) (n : Int) : Prop := Q.cps.toList = if qbit n then quoteT else []
theorem q_yes {n : Int} (h : (n.fdiv 2).fmod 2 ≠ 0) : QOk (Str.ofString "quote(graph())") n := by
  unfold QOk
  rw [show qbit n = true by simp [qbit, h], if_pos rfl]
  decide +kernel
theorem q_no {n : Int} (h : (n.fdiv 2).fmod 2 = 0) : QOk (Str.ofString "") n := by
  unfold QOk
  rw [show qbit n = false by simp [qbit, h], if_neg (by simp)]
  decide +kernel
theorem due_fin {ns : List Int} {tight b : Bool} {y P Q : Str} (hne : decide (ns = []) = false) (hb : b = (tight && (ns.headD 0).fmod 2 == 0)) (hy : y = txt (dueL (ns.drop 1) b)) (hP : P.cps.toList = plainT b) (hQ : QOk Q (ns.headD 0)) :
    Str.ofString "list(_item(" ++ P ++ Q ++ y ++ Str.ofString ")_item(" ++ P ++ Str.ofString "))" = txt (dueL ns tight) := by
  cases ns with
  | nil => simp at hne
  | cons n r =>
    apply str_ext
    simp only [app_L, hP, hy, txt_L]
    rw [show Q.cps.toList = if qbit n then quoteT else [] from hQ]
    rw [show (Str.ofString "list(_item(").cps.toList = [108, 105, 115, 116, 40, 95, 105, 116, 101, 109, 40] by decide +kernel, show (Str.ofString ")_item(").cps.toList = [41, 95, 105, 116, 101, 109, 40] by decide +kernel, show (Str.ofString "))").cps.toList = [41, 41] by decide +kernel]
    have hb' : b = (tight && n.fmod 2 == 0) := hb
    show _ = dueL (n :: r) tight
    rw [dueL, ← hb']
    rfl
theorem due_A {ns : List Int} {tight : Bool} {y Q : Str} (hne : decide (ns = []) = false) (ht : tight = true) (h2 : (ns.headD 0).fmod 2 = 0) (hy : y = txt (dueL (ns.drop 1) ((ns.headD 0).fmod 2 == 0))) (hQ : QOk Q (ns.headD 0)) :
    Str.ofString "list(_item(" ++ Str.ofString "_text()" ++ Q ++ y ++ Str.ofString ")_item(" ++ Str.ofString "_text()" ++ Str.ofString "))" = txt (dueL ns tight) :=
  due_fin hne (by rw [ht]; simp) hy (by rw [h2]; decide +kernel) hQ
theorem due_B {ns : List Int} {tight : Bool} {y Q : Str} (hne : decide (ns = []) = false) (ht : tight = true) (h2 : (ns.headD 0).fmod 2 ≠ 0) (hy : y = txt (dueL (ns.drop 1) ((ns.headD 0).fmod 2 == 0))) (hQ : QOk Q (ns.headD 0)) :
    Str.ofString "list(_item(" ++ Str.ofString "graph()" ++ Q ++ y ++ Str.ofString ")_item(" ++ Str.ofString "graph()" ++ Str.ofString "))" = txt (dueL ns tight) :=
  due_fin hne (by rw [ht]; simp) hy (by rw [show ((ns.headD 0).fmod 2 == 0) = false by simpa using h2]; decide +kernel) hQ
theorem due_C {ns : List Int} {tight : Bool} {y Q : Str} (hne : decide (ns = []) = false) (ht : tight = false) (hy : y = txt (dueL (ns.drop 1) tight)) (hQ : QOk Q (ns.headD 0)) :
    Str.ofString "list(_item(" ++ Str.ofString "graph()" ++ Q ++ y ++ Str.ofString ")_item(" ++ Str.ofString "graph()" ++ Str.ofString "))" = txt (dueL ns tight) :=
  due_fin hne (by rw [ht]; simp) hy (by rw [ht]; decide +kernel) hQ
theorem due_nil {ns : List Int} {tight : Bool} (h : decide (ns = []) = true) : Str.ofString "" = txt (dueL ns tight) := by
  have : ns = [] := by simpa using h
  subst this
  exact ofString_nil
theorem due_len {ns : List Int} {tight : Bool} {d : Nat} (h : ns.length ≤ d) : (txt (dueL ns tight)).length ≤ 60 * d := by
  rw [txt_length]
  exact Nat.le_trans (dueL_len ns tight) (by omega)
theorem drop_le {ns : List Int} {d : Nat} (h : ns.length ≤ d + 1) : (ns.drop 1).length ≤ d := by rw [List.length_drop]; omega
end Mine
end

section
open PySem PySem.W PySem.Calls PyProof.Rows PyProof.V PySem.Spec
namespace Mine
abbrev DictO (w : World) (o : Obj) (kvs : List (Str × Value)) : Prop := Obj.IsDictOf (PySem.strKind PySem.Challenge.rw_ci0011_01.row.prog w) o kvs
abbrev kTy : Str := Str.ofString "type"
abbrev kCh : Str := Str.ofString "children"
def tail5 (ty : Str) : List Nat := (Txt.slice ty (some (-5)) none).cps.toList
/-- what is shown of the tokens us of a ledger, d deep -/
inductive Shows (w : World) (nx : List (Addr × Obj)) : Nat → List Value → List Nat → Prop
  | nil (d : Nat) : Shows w nx d [] []
  | leaf {d : Nat} {a : Addr} {o : Obj} {kvs : List (Str × Value)} {ty : Str} {t : Tok} {us : List Value} {r : List Nat} : (a, o) ∈ nx → DictO w o kvs → (a == sysModules) = false → valueAt kvs kTy = some (.str ty t) → ty.length ≤ 20 → valueAt kvs kCh = none →
      Shows w nx (d + 1) us r → Shows w nx (d + 1) (.ref a :: us) (tail5 ty ++ [40] ++ [] ++ [41] ++ r)
  | node {d : Nat} {a c : Addr} {o : Obj} {n : Nat} {kvs : List (Str × Value)} {ty : Str} {t : Tok} {us ks : List Value} {tx r : List Nat} : (a, o) ∈ nx → DictO w o kvs → (a == sysModules) = false → valueAt kvs kTy = some (.str ty t) → ty.length ≤ 20 → valueAt kvs kCh = some (.ref c) →
      (c, W.listOf ks.toArray n) ∈ nx → Shows w nx d ks tx → Shows w nx (d + 1) us r → Shows w nx (d + 1) (.ref a :: us) (tail5 ty ++ [40] ++ tx ++ [41] ++ r)
theorem Shows.mono {w : World} {nx ny : List (Addr × Obj)} (hs : ∀ p ∈ nx, p ∈ ny) {d : Nat} {us : List Value} {r : List Nat} (h : Shows w nx d us r) : Shows w ny d us r := by
  induction h with
  | nil d => exact .nil d
  | leaf h1 h2 h3 h4 h5 h6 _ ih => exact .leaf (hs _ h1) h2 h3 h4 h5 h6 ih
  | node h1 h2 h3 h4 h5 h6 h7 _ _ ih1 ih2 => exact .node (hs _ h1) h2 h3 h4 h5 h6 (hs _ h7) ih1 ih2
section
variable {prog : Program} {w : World} {A : Around} {E : Value → Shared → Prop} {s : Shared} {env : Env} {h₀ : Heap} {x : Str} {body : List Stmt} {Q : Flow → Shared → Prop}
def ShK (w : World) (nx : List (Addr × Obj)) (d : Nat) (us : List Value) (tot : List Nat) (i : Nat) (c : Str × Tok) (n' : List (Addr × Obj)) : Prop :=
  n' = nx ∧ ∃ r, Shows w nx d (us.drop i) r ∧ c.1.cps.toList ++ r = tot
theorem shown_loop {l : Addr} {us : List Value} {n d : Nat} {tot : List Nat} {t₀ : Tok} {m₀ : Str → Option Value} {nx : List (Addr × Obj)} (hl : (l, W.listOf us.toArray n) ∈ nx) (hS : Shows w nx d us tot) (htot : tot.length ≤ 100000)
    (hh : A.handled = none) (F : Fr h₀ env.locals s.heap m₀) (N : News h₀ env.locals s.heap nx) (hk : m₀ (Str.ofString "text") = some (.str (Str.ofString "") t₀))
    (turn : ∀ (y : Str) (ty : Tok) i v r rest (u : Str → Option Value) h tk own, us.drop i = v :: rest → Shows w nx d (v :: rest) r → y.cps.toList ++ r = tot → y.length + r.length ≤ 100000 → TbOff own nx →
      Fr h₀ env.locals h (fun z => if z = x then some v else kstB (fun z => if [].contains z then u z else m₀ z) [(Str.ofString "text", .str y ty)] z) → News h₀ env.locals h (nx ++ own) →
      wpAny (model prog w) A (execs body env) (TbPost h₀ env.locals (LoS (ShK w nx d us tot) (fun c => [(Str.ofString "text", .str c.1 c.2)]) x [] m₀ (i + 1)) own { s with heap := h, toks := tk } Q) E { s with heap := h, toks := tk })
    (done : ∀ (y : Str) (ty : Tok) (u : Str → Option Value) h tk, y.cps.toList = tot → Fr h₀ env.locals h (fun z => if z = x then u z else kstB (fun z => if [].contains z then u z else m₀ z) [(Str.ofString "text", .str y ty)] z) → News h₀ env.locals h nx → Q .next { s with heap := h, toks := tk }) :
    wpAny (model prog w) A (pyIter (.ref l)) (fun it s₂ => LoopAtV prog w A h₀ env x body Q E it s₂) E s := by
  refine lo_list (nn := n) (vs := us) (ShK w nx d us tot) (fun c => [(Str.ofString "text", .str c.1 c.2)]) [] (Str.ofString "", t₀) hl ?_ hh F N ?_ ?_ ?_ ?_
  · rintro i c nx' ⟨rfl, _⟩; exact hl
  · intro p hp
    rw [List.mem_singleton.mp hp]; exact hk
  · exact ⟨rfl, tot, hS, by rw [ofString_nil]; rfl⟩
  · rintro ⟨y, ty⟩ i v nx' u h tk own hv hi hoff ⟨rfl, r, hR, hr⟩ F₁ N₁
    have hd : us.drop i = v :: us.drop (i + 1) := by
      rw [List.drop_eq_getElem_cons hi]
      congr 1
      exact (List.getElem?_eq_some_iff.mp hv).2
    rw [hd] at hR
    refine turn y ty i v r _ u h tk own hd hR hr ?_ hoff F₁ N₁
    have := congrArg List.length hr
    rw [List.length_append] at this
    rw [len_L]
    show y.cps.toList.length + r.length ≤ 100000
    have e : (y, ty).1 = y := rfl
    rw [e] at this
    omega
  · rintro ⟨y, ty⟩ u nx' h tk ⟨rfl, r, hR, hr⟩ F₁ N₁
    rw [List.drop_length] at hR
    cases hR
    exact done y ty u h tk (by simpa using hr) F₁ N₁
theorem shown_end {w : World} {us : List Value} {d : Nat} {tot r : List Nat} {m₀ : Str → Option Value} {nx own news' : List (Addr × Obj)} {i : Nat} {v : Value} {rest : List Value} {y : Str} {t : Tok} {L : Addr} {m' : Str → Option Value} {s₁ : Shared} {h' : Heap} {tk : Nat}
    (F : Fr h₀ L h' m') (N : News h₀ L h' news') (hd : us.drop i = v :: rest) (hR : Shows w nx d rest r) (hy : y.cps.toList ++ r = tot) (hn : ∀ p ∈ nx ++ own, p ∈ news') (ha : TbOff own nx) (hk : m' (Str.ofString "text") = some (.str y t))
    (hr : ∀ z, z ≠ x → z ≠ Str.ofString "text" → m' z = m₀ z) :
    TbEnd h₀ L (LoS (ShK w nx d us tot) (fun c => [(Str.ofString "text", .str c.1 c.2)]) x [] m₀ (i + 1)) own s₁ { s₁ with heap := h', toks := tk } := by
  have e : us.drop (i + 1) = rest := by
    have := congrArg (List.drop 1) hd
    simpa [List.drop_drop] using this
  refine lo_end (y, t) F N (nx := nx) ⟨rfl, r, by rw [e]; exact hR, hy⟩ (fun p hp => hn p (List.mem_append_left _ hp)) (fun p hp => hn p (List.mem_append_right _ hp)) ha ?_ ?_
  · intro p hp
    rw [List.mem_singleton.mp hp]; exact hk
  · intro z h1 h2 _
    exact hr z h1 (h2 _ (List.mem_singleton_self _))
end
end Mine
end

section
open PySem PySem.W PySem.Calls PyProof.Rows PyProof.V PySem.Spec
namespace Mine
abbrev kTi : Str := Str.ofString "tight"
abbrev sPar : Str := Str.ofString "paragraph"
abbrev sBlk : Str := Str.ofString "block_text"
abbrev sLst : Str := Str.ofString "list"
/-- what the transforming goes over -/
inductive What
  | toks (us : List Value)
  | items (us : List Value)
  | tok (a : Addr)
/-- the paragraphs S that are changed, the objects R that are read -/
inductive Tf (w : World) (nx : List (Addr × Obj)) : Nat → What → List Addr → List Addr → Prop
  | nil (d : Nat) : Tf w nx d (.toks []) [] []
  | par {d : Nat} {p : Addr} {o : Obj} {t : Tok} {us : List Value} {S R : List Addr} : (p, o) ∈ nx → DictO w o [(kTy, .str sPar t)] → Tf w nx d (.toks us) S R → Tf w nx d (.toks (.ref p :: us)) (p :: S) R
  | oth {d : Nat} {q : Addr} {o : Obj} {kvs : List (Str × Value)} {ty : Str} {t : Tok} {us : List Value} {S R : List Addr} : (q, o) ∈ nx → DictO w o kvs → valueAt kvs kTy = some (.str ty t) → (ty == sPar) = false → (ty == sLst) = false →
      Tf w nx d (.toks us) S R → Tf w nx d (.toks (.ref q :: us)) S (q :: R)
  | lst {d : Nat} {a : Addr} {o : Obj} {kvs : List (Str × Value)} {t : Tok} {us : List Value} {S S1 R R1 : List Addr} : (a, o) ∈ nx → DictO w o kvs → valueAt kvs kTy = some (.str sLst t) → Tf w nx d (.tok a) S1 R1 →
      Tf w nx (d + 1) (.toks us) S R → Tf w nx (d + 1) (.toks (.ref a :: us)) (S1 ++ S) (a :: (R1 ++ R))
  | inil (d : Nat) : Tf w nx d (.items []) [] []
  | item {d : Nat} {i c : Addr} {o : Obj} {n : Nat} {kvs : List (Str × Value)} {us ks : List Value} {S S1 R R1 : List Addr} : (i, o) ∈ nx → DictO w o kvs → valueAt kvs kCh = some (.ref c) → (c, W.listOf ks.toArray n) ∈ nx → Tf w nx d (.toks ks) S1 R1 →
      Tf w nx d (.items us) S R → Tf w nx d (.items (.ref i :: us)) (S1 ++ S) (i :: c :: (R1 ++ R))
  | loose {d : Nat} {a : Addr} {o : Obj} {kvs : List (Str × Value)} : (a, o) ∈ nx → DictO w o kvs → valueAt kvs kTi = some (.bool false) → Tf w nx d (.tok a) [] [a]
  | tight {d : Nat} {a c : Addr} {o : Obj} {n : Nat} {kvs : List (Str × Value)} {ks : List Value} {S R : List Addr} : (a, o) ∈ nx → DictO w o kvs → valueAt kvs kTi = some (.bool true) → valueAt kvs kCh = some (.ref c) → (c, W.listOf ks.toArray n) ∈ nx →
      Tf w nx d (.items ks) S R → Tf w nx d (.tok a) S (a :: c :: R)
def Keep (S : List Addr) (nx ny : List (Addr × Obj)) : Prop := ∀ p ∈ nx, p.1 ∉ S → p ∈ ny
def Done (w : World) (S : List Addr) (nx : List (Addr × Obj)) : Prop := ∀ b ∈ S, ∃ o t, (b, o) ∈ nx ∧ DictO w o [(kTy, .str sBlk t)]
theorem Tf.keep {w : World} {nx ny : List (Addr × Obj)} {T : List Addr} (hk : Keep T nx ny) {d : Nat} {x : What} {S R : List Addr} (h : Tf w nx d x S R) : (∀ b ∈ S, b ∉ T) → (∀ b ∈ R, b ∉ T) → Tf w ny d x S R := by
  induction h with
  | nil d => intro _ _; exact .nil d
  | par h1 h2 _ ih => intro hS hR; exact .par (hk _ h1 (hS _ (List.mem_cons_self ..))) h2 (ih (fun b hb => hS b (List.mem_cons_of_mem _ hb)) hR)
  | oth h1 h2 h3 h4 h5 _ ih => intro hS hR; exact .oth (hk _ h1 (hR _ (List.mem_cons_self ..))) h2 h3 h4 h5 (ih hS fun b hb => hR b (List.mem_cons_of_mem _ hb))
  | lst h1 h2 h3 _ _ ih1 ih2 =>
    intro hS hR
    exact .lst (hk _ h1 (hR _ (List.mem_cons_self ..))) h2 h3 (ih1 (fun b hb => hS b (List.mem_append_left _ hb)) fun b hb => hR b (List.mem_cons_of_mem _ (List.mem_append_left _ hb))) (ih2 (fun b hb => hS b (List.mem_append_right _ hb)) fun b hb => hR b (List.mem_cons_of_mem _ (List.mem_append_right _ hb)))
  | inil d => intro _ _; exact .inil d
  | item h1 h2 h3 h4 _ _ ih1 ih2 =>
    intro hS hR
    exact .item (hk _ h1 (hR _ (List.mem_cons_self ..))) h2 h3 (hk _ h4 (hR _ (List.mem_cons_of_mem _ (List.mem_cons_self ..)))) (ih1 (fun b hb => hS b (List.mem_append_left _ hb)) fun b hb => hR b (List.mem_cons_of_mem _ (List.mem_cons_of_mem _ (List.mem_append_left _ hb))))
      (ih2 (fun b hb => hS b (List.mem_append_right _ hb)) fun b hb => hR b (List.mem_cons_of_mem _ (List.mem_cons_of_mem _ (List.mem_append_right _ hb))))
  | loose h1 h2 h3 => intro _ hR; exact .loose (hk _ h1 (hR _ (List.mem_cons_self ..))) h2 h3
  | tight h1 h2 h3 h4 h5 _ ih => intro hS hR; exact .tight (hk _ h1 (hR _ (List.mem_cons_self ..))) h2 h3 h4 (hk _ h5 (hR _ (List.mem_cons_of_mem _ (List.mem_cons_self ..)))) (ih hS fun b hb => hR b (List.mem_cons_of_mem _ (List.mem_cons_of_mem _ hb)))
theorem Keep.refl (nx : List (Addr × Obj)) : Keep [] nx nx := fun p hp _ => hp
theorem Keep.trans {S T : List Addr} {a b c : List (Addr × Obj)} (h1 : Keep S a b) (h2 : Keep T b c) : Keep (S ++ T) a c := fun p hp hn =>
  h2 p (h1 p hp fun h => hn (List.mem_append_left _ h)) fun h => hn (List.mem_append_right _ h)
theorem Done.trans {w : World} {S T : List Addr} {b c : List (Addr × Obj)} (h1 : Done w S b) (h2 : Done w T c) (hk : Keep T b c) (hd : ∀ x ∈ S, x ∉ T) : Done w (S ++ T) c := by
  intro x hx
  rcases List.mem_append.mp hx with h | h
  · obtain ⟨o, t, ho, hD⟩ := h1 x h
    exact ⟨o, t, hk _ ho (hd x h), hD⟩
  · exact h2 x h
/-- a ledger with the object at d changed -/
def setL (nx : List (Addr × Obj)) (d : Addr) (o' : Obj) : List (Addr × Obj) := nx.map fun p => if p.1 = d then (d, o') else p
theorem setL_keep (nx : List (Addr × Obj)) (d : Addr) (o' : Obj) : Keep [d] nx (setL nx d o') := by
  intro p hp hn
  refine List.mem_map.mpr ⟨p, hp, if_neg fun e => hn (List.mem_singleton.mpr e)⟩
theorem setL_self {nx : List (Addr × Obj)} {d : Addr} {o : Obj} (h : (d, o) ∈ nx) (o' : Obj) : (d, o') ∈ setL nx d o' := List.mem_map.mpr ⟨(d, o), h, if_pos rfl⟩
section
variable {prog : Program} {w : World} {K : Type} [DecidableEq K] {knd : KeyKind prog w K} {A : Around} {E : Value → Shared → Prop} {s : Shared} {h₀ : Heap} {L d : Addr} {m : Str → Option Value} {news : List (Addr × Obj)} {o : Obj} {kvs : List (K × Value)} {k : K} {key v : Value}
theorem set_abs {Q : Unit → Shared → Prop} (F : Fr h₀ L s.heap m) (N : News h₀ L s.heap news) (hm : (d, o) ∈ news) (hd : o.IsDictOf knd kvs) (hkey : knd.is k key = true) (hsz : kvs.length ≤ sizeLine)
    (h : ∀ h' o', Fr h₀ L h' m → News h₀ L h' (setL news d o') → o'.IsDictOf knd (stored kvs k v) → Q () { s with heap := h', toks := s.toks + 1 }) : wpAny (model prog w) A (setItem (.ref d) key v) Q E s := by
  have hm' := N (d, o) hm
  refine wpAny_setItem_pairs (hsz := hsz) hkey (Heap.dictOf_iff.mpr ⟨o, hm'.1, hd⟩) fun h' hmm hs => ?_
  obtain ⟨o', ho', hd'⟩ := Heap.dictOf_iff.mp hmm
  exact h h' o' (F.change hs hm'.2.1 hm'.2.2) (N.update hm hs ho') hd'
end
end Mine
namespace Mine
/-- the ledger ny is nx with the paragraphs S changed -/
structure Chg (w : World) (S : List Addr) (nx ny : List (Addr × Obj)) : Prop where
  keep : Keep S nx ny
  done : Done w S ny
  addr : ∀ p ∈ ny, ∃ q ∈ nx, q.1 = p.1
theorem Chg.refl {w : World} (nx : List (Addr × Obj)) : Chg w [] nx nx := ⟨Keep.refl nx, fun b hb => (nomatch hb), fun p hp => ⟨p, hp, rfl⟩⟩
theorem Chg.trans {w : World} {S T : List Addr} {a b c : List (Addr × Obj)} (h1 : Chg w S a b) (h2 : Chg w T b c) (hd : ∀ x ∈ S, x ∉ T) : Chg w (S ++ T) a c :=
  ⟨h1.keep.trans h2.keep, h1.done.trans h2.done h2.keep hd, fun p hp => let ⟨q, hq, e⟩ := h2.addr p hp; let ⟨r, hr, e'⟩ := h1.addr q hq; ⟨r, hr, e'.trans e⟩⟩
theorem Chg.set {w : World} {nx : List (Addr × Obj)} {p : Addr} {o o' : Obj} {t : Tok} (hm : (p, o) ∈ nx) (hD : DictO w o' [(kTy, .str sBlk t)]) : Chg w [p] nx (setL nx p o') := by
  refine ⟨setL_keep nx p o', fun b hb => ?_, fun q hq => ?_⟩
  · rw [List.mem_singleton.mp hb]; exact ⟨o', t, setL_self hm o', hD⟩
  · obtain ⟨r, hr, rfl⟩ := List.mem_map.mp hq
    by_cases e : r.1 = p
    · rw [if_pos e]; exact ⟨r, hr, e⟩
    · rw [if_neg e]; exact ⟨r, hr, rfl⟩
theorem Tf.mem {w : World} {nx : List (Addr × Obj)} {d : Nat} {x : What} {S R : List Addr} (h : Tf w nx d x S R) : ∀ b ∈ S, ∃ q ∈ nx, q.1 = b := by
  induction h with
  | nil d => intro b hb; cases hb
  | par h1 h2 _ ih => intro b hb; rcases List.mem_cons.mp hb with rfl | hb; exact ⟨_, h1, rfl⟩; exact ih b hb
  | oth h1 h2 h3 h4 h5 _ ih => exact ih
  | lst h1 h2 h3 _ _ ih1 ih2 => intro b hb; rcases List.mem_append.mp hb with hb | hb; exact ih1 b hb; exact ih2 b hb
  | inil d => intro b hb; cases hb
  | item h1 h2 h3 h4 _ _ ih1 ih2 => intro b hb; rcases List.mem_append.mp hb with hb | hb; exact ih1 b hb; exact ih2 b hb
  | loose h1 h2 h3 => intro b hb; cases hb
  | tight h1 h2 h3 h4 h5 _ ih => exact ih
theorem Chg.part {w : World} {T : List Addr} {n' own m9 : List (Addr × Obj)} (hC : Chg w T (n' ++ own) m9) (hT : ∀ b ∈ T, ∃ q ∈ n', q.1 = b) (ho : TbOff own n') :
    ∃ n2, Chg w T n' n2 ∧ (∀ p ∈ n2 ++ own, p ∈ m9) ∧ TbOff own n2 := by
  refine ⟨m9.filter fun p => decide (∃ q ∈ n', q.1 = p.1), ⟨fun p hp hn => ?_, fun b hb => ?_, fun p hp => ?_⟩, fun p hp => ?_, ?_⟩
  · exact List.mem_filter.mpr ⟨hC.keep p (List.mem_append_left _ hp) hn, decide_eq_true ⟨p, hp, rfl⟩⟩
  · obtain ⟨o, t, h1, h2⟩ := hC.done b hb
    exact ⟨o, t, List.mem_filter.mpr ⟨h1, decide_eq_true (hT b hb)⟩, h2⟩
  · exact of_decide_eq_true (List.mem_filter.mp hp).2
  · rcases List.mem_append.mp hp with hp | hp
    · exact (List.mem_filter.mp hp).1
    · refine hC.keep p (List.mem_append_right _ hp) fun hmem => ?_
      obtain ⟨q, hq, e⟩ := hT _ hmem
      exact ho p hp q hq e.symm
  · intro p hp q hq e
    obtain ⟨r, hr, e'⟩ := of_decide_eq_true (List.mem_filter.mp hq).2
    exact ho p hp r hr (e.trans e'.symm)
section
variable {prog : Program} {w : World} {A : Around} {E : Value → Shared → Prop} {s : Shared} {env : Env} {h₀ : Heap} {x : Str} {body : List Stmt} {Q : Flow → Shared → Prop}
def TfK (w : World) (nx : List (Addr × Obj)) (d : Nat) (wrap : List Value → What) (us : List Value) (S R : List Addr) (i : Nat) (_ : Unit) (n' : List (Addr × Obj)) : Prop :=
  ∃ S1 S2 R2, S = S1 ++ S2 ∧ Tf w n' d (wrap (us.drop i)) S2 R2 ∧ (∀ b ∈ R2, b ∈ R) ∧ Chg w S1 nx n'
theorem tf_loop (wrap : List Value → What) (hw : ∀ n' d S R, Tf w n' d (wrap []) S R → S = []) (stored : List Str) {l : Addr} {us : List Value} {n d : Nat} {S R : List Addr} {m₀ : Str → Option Value} {nx : List (Addr × Obj)} (hl : (l, W.listOf us.toArray n) ∈ nx) (hlS : l ∉ S)
    (hT : Tf w nx d (wrap us) S R)
    (hh : A.handled = none) (F : Fr h₀ env.locals s.heap m₀) (N : News h₀ env.locals s.heap nx)
    (turn : ∀ i v rest S1 S2 R2 n' (u : Str → Option Value) h tk own, us.drop i = v :: rest → S = S1 ++ S2 → Tf w n' d (wrap (v :: rest)) S2 R2 → (∀ b ∈ R2, b ∈ R) → Chg w S1 nx n' → TbOff own n' →
      Fr h₀ env.locals h (fun z => if z = x then some v else if stored.contains z then u z else m₀ z) → News h₀ env.locals h (n' ++ own) →
      wpAny (model prog w) A (execs body env) (TbPost h₀ env.locals (LoS (TfK w nx d wrap us S R) (fun _ => []) x stored m₀ (i + 1)) own { s with heap := h, toks := tk } Q) E { s with heap := h, toks := tk })
    (done : ∀ n' (u : Str → Option Value) h tk, Chg w S nx n' → Fr h₀ env.locals h (fun z => if z = x then u z else if stored.contains z then u z else m₀ z) → News h₀ env.locals h n' → Q .next { s with heap := h, toks := tk }) :
    wpAny (model prog w) A (pyIter (.ref l)) (fun it s₂ => LoopAtV prog w A h₀ env x body Q E it s₂) E s := by
  refine lo_list (σ := Unit) (nn := n) (vs := us) (TfK w nx d wrap us S R) (fun _ => []) stored () hl ?_ hh F N ?_ ?_ ?_ ?_
  · rintro i c n' ⟨S1, S2, R2, e, _, _, hC⟩
    exact hC.keep _ hl fun h => hlS (e ▸ List.mem_append_left _ h)
  · intro p hp; cases hp
  · exact ⟨[], S, R, rfl, hT, fun b hb => hb, Chg.refl nx⟩
  · rintro c i v n' u h tk own hv hi hoff ⟨S1, S2, R2, e, hT', hR, hC⟩ F₁ N₁
    have hd : us.drop i = v :: us.drop (i + 1) := by
      rw [List.drop_eq_getElem_cons hi]
      congr 1
      exact (List.getElem?_eq_some_iff.mp hv).2
    rw [hd] at hT'
    exact turn i v _ S1 S2 R2 n' u h tk own hd e hT' hR hC hoff F₁ N₁
  · rintro c u n' h tk ⟨S1, S2, R2, e, hT', hR, hC⟩ F₁ N₁
    rw [List.drop_length] at hT'
    have := hw _ _ _ _ hT'
    subst this
    rw [List.append_nil] at e
    subst e
    exact done n' u h tk hC F₁ N₁
theorem tf_end {w : World} {wrap : List Value → What} {stored : List Str} {us : List Value} {d : Nat} {S R S1 S2 T R2 : List Addr} {m₀ : Str → Option Value} {nx n' own m9 : List (Addr × Obj)} {i : Nat} {v : Value} {rest : List Value} {L : Addr} {m' : Str → Option Value} {s₁ : Shared} {h' : Heap} {tk : Nat}
    (F : Fr h₀ L h' m') (N : News h₀ L h' m9) (hd : us.drop i = v :: rest) (hS : S = S1 ++ (T ++ S2)) (hT : Tf w n' d (wrap rest) S2 R2) (hR : ∀ b ∈ R2, b ∈ R) (hTm : ∀ b ∈ T, ∃ q ∈ n', q.1 = b) (hc : Chg w S1 nx n') (hC : Chg w T (n' ++ own) m9) (hnd : S.Nodup) (hSR : ∀ b ∈ S, b ∉ R) (ho : TbOff own n')
    (hr : ∀ z, z ≠ x → stored.contains z = false → m' z = m₀ z) :
    TbEnd h₀ L (LoS (TfK w nx d wrap us S R) (fun _ => []) x stored m₀ (i + 1)) own s₁ { s₁ with heap := h', toks := tk } := by
  obtain ⟨n2, hC2, hn, ho2⟩ := hC.part hTm ho
  have e : us.drop (i + 1) = rest := by
    have := congrArg (List.drop 1) hd
    simpa [List.drop_drop] using this
  have hnd' := hS ▸ hnd
  obtain ⟨_, hnd2, hd1⟩ := List.nodup_append.mp hnd'
  obtain ⟨_, _, hd2⟩ := List.nodup_append.mp hnd2
  refine lo_end () F N (nx := n2) ⟨S1 ++ T, S2, R2, by rw [hS, List.append_assoc], ?_, hR, hc.trans hC2 ?_⟩ (fun p hp => hn p (List.mem_append_left _ hp)) (fun p hp => hn p (List.mem_append_right _ hp)) ho2 ?_ ?_
  · rw [e]
    refine hT.keep hC2.keep (fun b hb hb' => hd2 b hb' b hb rfl) fun b hb hb' => hSR b ?_ (hR b hb)
    rw [hS]; exact List.mem_append_right _ (List.mem_append_left _ hb')
  · intro b hb hb'
    exact hd1 b hb b (List.mem_append_left _ hb') rfl
  · intro p hp; cases hp
  · intro z h1 _ h3; exact hr z h1 h3
end
end Mine
namespace Mine
theorem Tf.item_inv {w : World} {nx : List (Addr × Obj)} {d : Nat} {v : Value} {us : List Value} {S R : List Addr} (h : Tf w nx d (.items (v :: us)) S R) :
    ∃ i c o n kvs ks S1 S2 R1 R2, v = .ref i ∧ (i, o) ∈ nx ∧ DictO w o kvs ∧ valueAt kvs kCh = some (.ref c) ∧ (c, W.listOf ks.toArray n) ∈ nx ∧ Tf w nx d (.toks ks) S1 R1 ∧ Tf w nx d (.items us) S2 R2 ∧ S = S1 ++ S2 ∧ R = i :: c :: (R1 ++ R2) := by
  cases h with
  | item h1 h2 h3 h4 h5 h6 => exact ⟨_, _, _, _, _, _, _, _, _, _, rfl, h1, h2, h3, h4, h5, h6, rfl, rfl⟩
theorem Tf.toks_inv {w : World} {nx : List (Addr × Obj)} {d : Nat} {v : Value} {us : List Value} {S R : List Addr} (h : Tf w nx d (.toks (v :: us)) S R) :
    (∃ p o t S2, v = .ref p ∧ (p, o) ∈ nx ∧ DictO w o [(kTy, .str sPar t)] ∧ Tf w nx d (.toks us) S2 R ∧ S = p :: S2) ∨
    (∃ q o kvs ty t R2, v = .ref q ∧ (q, o) ∈ nx ∧ DictO w o kvs ∧ valueAt kvs kTy = some (.str ty t) ∧ (ty == sPar) = false ∧ (ty == sLst) = false ∧ Tf w nx d (.toks us) S R2 ∧ R = q :: R2) ∨
    (∃ d' a o kvs t S1 S2 R1 R2, d = d' + 1 ∧ v = .ref a ∧ (a, o) ∈ nx ∧ DictO w o kvs ∧ valueAt kvs kTy = some (.str sLst t) ∧ Tf w nx d' (.tok a) S1 R1 ∧ Tf w nx d (.toks us) S2 R2 ∧ S = S1 ++ S2 ∧ R = a :: (R1 ++ R2)) := by
  cases h with
  | par h1 h2 h3 => exact .inl ⟨_, _, _, _, rfl, h1, h2, h3, rfl⟩
  | oth h1 h2 h3 h4 h5 h6 => exact .inr (.inl ⟨_, _, _, _, _, _, rfl, h1, h2, h3, h4, h5, h6, rfl⟩)
  | lst h1 h2 h3 h4 h5 => exact .inr (.inr ⟨_, _, _, _, _, _, _, _, _, rfl, rfl, h1, h2, h3, h4, h5, rfl, rfl⟩)
theorem keep_app (nx own : List (Addr × Obj)) : Keep [] nx (nx ++ own) := fun p hp _ => List.mem_append_left _ hp
theorem Tf.app {w : World} {nx own : List (Addr × Obj)} {d : Nat} {x : What} {S R : List Addr} (h : Tf w nx d x S R) : Tf w (nx ++ own) d x S R := h.keep (keep_app nx own) (fun b _ => nofun) fun b _ => nofun
theorem items_nil {w : World} (n' : List (Addr × Obj)) (d : Nat) (S R : List Addr) (h : Tf w n' d (.items []) S R) : S = [] := by cases h; rfl
theorem toks_nil {w : World} (n' : List (Addr × Obj)) (d : Nat) (S R : List Addr) (h : Tf w n' d (.toks []) S R) : S = [] := by cases h; rfl
end Mine
namespace Mine
theorem stored_one {k : Str} {v0 v : Value} : stored [(k, v0)] k v = [(k, v)] := by simp [stored]
theorem dict_blk {w : World} {o : Obj} {v0 : Value} {t : Tok} (h : Obj.IsDictOf (PySem.strKind PySem.Challenge.rw_ci0011_01.row.prog w) o (stored [(kTy, v0)] (Str.ofString "type") (.str (Str.ofString "block_text") t))) : DictO w o [(kTy, .str sBlk t)] := by
  have e : stored [(kTy, v0)] (Str.ofString "type") (.str (Str.ofString "block_text") t) = [(kTy, .str sBlk t)] := stored_one
  rw [e] at h; exact h
theorem part_nodup {S A B C : List Addr} (h : S.Nodup) (e : S = A ++ (B ++ C)) : B.Nodup := by
  subst e
  exact (List.nodup_append.mp (List.nodup_append.mp h).2.1).1
theorem part_off {S A B C R R' : List Addr} (h : ∀ b ∈ S, b ∉ R) (e : S = A ++ (B ++ C)) (hR : ∀ b ∈ R', b ∈ R) : ∀ b ∈ B, b ∉ R' := fun b hb hb' =>
  h b (by rw [e]; exact List.mem_append_right _ (List.mem_append_left _ hb)) (hR b hb')
end Mine
end

section
open PySem PySem.W PySem.Calls PyProof.Rows PyProof.V PySem.Spec
namespace Mine
abbrev sItm : Str := Str.ofString "list_item"
abbrev sQuo : Str := Str.ofString "block_quote"
def DictIn (w : World) (nx : List (Addr × Obj)) (a : Addr) (kvs : List (Str × Value)) : Prop := ∃ o, (a, o) ∈ nx ∧ DictO w o kvs ∧ (a == sysModules) = false
/-- one level of a row's tokens -/
structure LvO (w : World) (nx : List (Addr × Obj)) (n : Int) (us : List Value) (a i i1 c1 p q c qp i2 c2 p2 : Addr) : Prop where
  A : ∃ t, DictIn w nx a [(kTy, .str sLst t), (kTi, .bool (n.fmod 2 == 0)), (kCh, .ref i)]
  I : (i, W.listOf [Value.ref i1, Value.ref i2].toArray 0) ∈ nx
  I1 : ∃ t, DictIn w nx i1 [(kTy, .str sItm t), (kCh, .ref c1)]
  C1 : (c1, W.listOf (Value.ref p :: ((if qbit n then [Value.ref q] else []) ++ us)).toArray 0) ∈ nx
  P : ∃ t, DictIn w nx p [(kTy, .str sPar t)]
  Q : ∃ t, DictIn w nx q [(kTy, .str sQuo t), (kCh, .ref c)]
  C : (c, W.listOf [Value.ref qp].toArray 0) ∈ nx
  QP : ∃ t, DictIn w nx qp [(kTy, .str sPar t)]
  I2 : ∃ t, DictIn w nx i2 [(kTy, .str sItm t), (kCh, .ref c2)]
  C2 : (c2, W.listOf [Value.ref p2].toArray 0) ∈ nx
  P2 : ∃ t, DictIn w nx p2 [(kTy, .str sPar t)]
theorem DictIn.mono {w : World} {nx ny : List (Addr × Obj)} {a : Addr} {kvs : List (Str × Value)} (h : DictIn w nx a kvs) (hs : ∀ p ∈ nx, p ∈ ny) : DictIn w ny a kvs := let ⟨o, h1, h2, h3⟩ := h; ⟨o, hs _ h1, h2, h3⟩
theorem DictIn.ex {w : World} {nx ny : List (Addr × Obj)} {a : Addr} {f : Tok → List (Str × Value)} (hs : ∀ p ∈ nx, p ∈ ny) (h : ∃ t, DictIn w nx a (f t)) : ∃ t, DictIn w ny a (f t) := let ⟨t, h⟩ := h; ⟨t, h.mono hs⟩
theorem LvO.mono {w : World} {nx ny : List (Addr × Obj)} {n : Int} {us : List Value} {a i i1 c1 p q c qp i2 c2 p2 : Addr} (h : LvO w nx n us a i i1 c1 p q c qp i2 c2 p2) (hs : ∀ p ∈ nx, p ∈ ny) : LvO w ny n us a i i1 c1 p q c qp i2 c2 p2 :=
  ⟨DictIn.ex hs h.A, hs _ h.I, DictIn.ex hs h.I1, hs _ h.C1, DictIn.ex hs h.P, DictIn.ex hs h.Q, hs _ h.C, DictIn.ex hs h.QP, DictIn.ex hs h.I2, hs _ h.C2, DictIn.ex hs h.P2⟩
/-- the tokens us of the row ns, at the addresses A -/
inductive Row (w : World) (nx : List (Addr × Obj)) : List Int → List Value → List Addr → Prop
  | nil : Row w nx [] [] []
  | cons {n : Int} {ns : List Int} {us : List Value} {A : List Addr} {a i i1 c1 p q c qp i2 c2 p2 : Addr} : LvO w nx n us a i i1 c1 p q c qp i2 c2 p2 → Row w nx ns us A → Row w nx (n :: ns) [.ref a] (a :: i :: i1 :: c1 :: p :: q :: c :: qp :: i2 :: c2 :: p2 :: A)
theorem Row.mono {w : World} {nx ny : List (Addr × Obj)} (hs : ∀ p ∈ nx, p ∈ ny) {ns : List Int} {us : List Value} {A : List Addr} (h : Row w nx ns us A) : Row w ny ns us A := by
  induction h with
  | nil => exact .nil
  | cons h _ ih => exact .cons (h.mono hs) ih
theorem Row.short {w : World} {nx : List (Addr × Obj)} {ns : List Int} {us : List Value} {A : List Addr} (h : Row w nx ns us A) : us.length ≤ 1 := by cases h <;> simp
theorem DictIn.at {w : World} {nx : List (Addr × Obj)} {a : Addr} {kvs : List (Str × Value)} (h : DictIn w nx a kvs) : ∃ q ∈ nx, q.1 = a := let ⟨o, h1, _⟩ := h; ⟨_, h1, rfl⟩
theorem Row.mem {w : World} {nx : List (Addr × Obj)} {ns : List Int} {us : List Value} {A : List Addr} (h : Row w nx ns us A) : ∀ b ∈ A, ∃ q ∈ nx, q.1 = b := by
  induction h with
  | nil => intro b hb; cases hb
  | cons h _ ih =>
    intro b hb
    obtain ⟨⟨_, hA⟩, hI, ⟨_, hI1⟩, hC1, ⟨_, hP⟩, ⟨_, hQ⟩, hC, ⟨_, hQP⟩, ⟨_, hI2⟩, hC2, ⟨_, hP2⟩⟩ := h
    simp only [List.mem_cons] at hb
    rcases hb with rfl | rfl | rfl | rfl | rfl | rfl | rfl | rfl | rfl | rfl | rfl | hb
    · exact hA.at
    · exact ⟨_, hI, rfl⟩
    · exact hI1.at
    · exact ⟨_, hC1, rfl⟩
    · exact hP.at
    · exact hQ.at
    · exact ⟨_, hC, rfl⟩
    · exact hQP.at
    · exact hI2.at
    · exact ⟨_, hC2, rfl⟩
    · exact hP2.at
    · exact ih b hb
end Mine
end

section
open PySem PySem.W PySem.Calls PyProof.Rows PyProof.V PySem.Spec
namespace Mine
theorem ne_tc : kTy ≠ kCh := by decide +kernel
theorem ne_ti : kTy ≠ kTi := by decide +kernel
theorem ne_ic : kTi ≠ kCh := by decide +kernel
theorem va_ty {v : Value} {r : List (Str × Value)} : valueAt ((kTy, v) :: r) kTy = some v := by simp [valueAt]
theorem va_none {v : Value} : valueAt [(kTy, v)] kCh = none := by simp [valueAt, ne_tc]
theorem va_ch {v u : Value} : valueAt [(kTy, v), (kCh, u)] kCh = some u := by simp [valueAt, ne_tc]
theorem va_ti {v u t : Value} : valueAt [(kTy, v), (kTi, u), (kCh, t)] kTi = some u := by simp [valueAt, ne_ti]
theorem va_ch3 {v u t : Value} : valueAt [(kTy, v), (kTi, u), (kCh, t)] kCh = some t := by simp [valueAt, ne_tc, ne_ic]
theorem t5_par : tail5 sPar = [103, 114, 97, 112, 104] := by decide +kernel
theorem t5_blk : tail5 sBlk = [95, 116, 101, 120, 116] := by decide +kernel
theorem t5_itm : tail5 sItm = [95, 105, 116, 101, 109] := by decide +kernel
theorem t5_quo : tail5 sQuo = [113, 117, 111, 116, 101] := by decide +kernel
theorem t5_lst : tail5 sLst = [108, 105, 115, 116] := by decide +kernel
def paraS (b : Bool) : Str := if b then sBlk else sPar
theorem para_len (b : Bool) : (paraS b).length ≤ 20 := by cases b <;> decide +kernel
theorem len_lst : sLst.length ≤ 20 := by decide +kernel
theorem len_itm : sItm.length ≤ 20 := by decide +kernel
theorem len_quo : sQuo.length ≤ 20 := by decide +kernel
theorem len_par : sPar.length ≤ 20 := by decide +kernel
theorem para_text (b : Bool) : tail5 (paraS b) ++ [40] ++ [] ++ [41] = plainT b := by
  cases b
  · show tail5 sPar ++ _ ++ _ ++ _ = _; rw [t5_par]; rfl
  · show tail5 sBlk ++ _ ++ _ ++ _ = _; rw [t5_blk]; rfl
/-- what one level shows -/
theorem shows_level {w : World} {ny : List (Addr × Obj)} {n : Int} {r : List Int} {us : List Value} {tight b : Bool} {a i i1 c1 p q c qp i2 c2 p2 : Addr} {d : Nat} {tb : Value} (hb : b = (tight && n.fmod 2 == 0))
    (A : ∃ t, DictIn w ny a [(kTy, .str sLst t), (kTi, tb), (kCh, .ref i)])
    (I : (i, W.listOf [Value.ref i1, Value.ref i2].toArray 0) ∈ ny)
    (I1 : ∃ t, DictIn w ny i1 [(kTy, .str sItm t), (kCh, .ref c1)])
    (C1 : (c1, W.listOf (Value.ref p :: ((if qbit n then [Value.ref q] else []) ++ us)).toArray 0) ∈ ny)
    (P : ∃ t, DictIn w ny p [(kTy, .str (paraS b) t)])
    (Q : ∃ t, DictIn w ny q [(kTy, .str sQuo t), (kCh, .ref c)])
    (C : (c, W.listOf [Value.ref qp].toArray 0) ∈ ny)
    (QP : ∃ t, DictIn w ny qp [(kTy, .str sPar t)])
    (I2 : ∃ t, DictIn w ny i2 [(kTy, .str sItm t), (kCh, .ref c2)])
    (C2 : (c2, W.listOf [Value.ref p2].toArray 0) ∈ ny)
    (P2 : ∃ t, DictIn w ny p2 [(kTy, .str (paraS b) t)])
    (hs : Shows w ny (d + 2) us (dueL r b)) : Shows w ny (d + 4) [.ref a] (dueL (n :: r) tight) := by
  obtain ⟨_, oA, mA, dA, sA⟩ := A
  obtain ⟨_, oI1, mI1, dI1, sI1⟩ := I1
  obtain ⟨_, oP, mP, dP, sP⟩ := P
  obtain ⟨_, oQ, mQ, dQ, sQ⟩ := Q
  obtain ⟨_, oQP, mQP, dQP, sQP⟩ := QP
  obtain ⟨_, oI2, mI2, dI2, sI2⟩ := I2
  obtain ⟨_, oP2, mP2, dP2, sP2⟩ := P2
  have hq : Shows w ny (d + 2) ((if qbit n then [Value.ref q] else []) ++ us) ((if qbit n then quoteT else []) ++ dueL r b) := by
    cases hqb : qbit n with
    | false => exact hs
    | true =>
      have h1 : Shows w ny (d + 1) [.ref qp] (tail5 sPar ++ [40] ++ [] ++ [41] ++ []) := .leaf mQP dQP sQP va_ty len_par va_none (.nil _)
      have h2 := Shows.node mQ dQ sQ va_ty len_quo va_ch C h1 hs
      have e : tail5 sQuo ++ [40] ++ (tail5 sPar ++ [40] ++ [] ++ [41] ++ []) ++ [41] ++ dueL r b = quoteT ++ dueL r b := by rw [t5_quo, t5_par]; rfl
      rw [e] at h2
      exact h2
  have hparts := Shows.leaf mP dP sP va_ty (para_len b) va_none hq
  have hp2 : Shows w ny (d + 2) [.ref p2] (tail5 (paraS b) ++ [40] ++ [] ++ [41] ++ []) := .leaf mP2 dP2 sP2 va_ty (para_len b) va_none (.nil _)
  have hi2 := Shows.node mI2 dI2 sI2 va_ty len_itm va_ch C2 hp2 (.nil _)
  have hi1 := Shows.node mI1 dI1 sI1 va_ty len_itm va_ch C1 hparts hi2
  have ha := Shows.node mA dA sA va_ty len_lst va_ch3 I hi1 (.nil _)
  rw [para_text, t5_lst, t5_itm] at ha
  have e : dueL (n :: r) tight = [108, 105, 115, 116] ++ [40] ++ ([95, 105, 116, 101, 109] ++ [40] ++ (plainT b ++ ((if qbit n then quoteT else []) ++ dueL r b)) ++ [41] ++ ([95, 105, 116, 101, 109] ++ [40] ++ (plainT b ++ []) ++ [41] ++ [])) ++ [41] ++ [] := by
    rw [dueL, ← hb]
    simp
  rw [e]
  exact ha
end Mine
end

section
open PySem PySem.W PySem.Calls PyProof.Rows PyProof.V PySem.Spec
namespace Mine
theorem DictIn.to {w : World} {nx ny : List (Addr × Obj)} {a : Addr} {f : Tok → List (Str × Value)} (hk : ∀ p ∈ nx, p.1 = a → p ∈ ny) (h : ∃ t, DictIn w nx a (f t)) : ∃ t, DictIn w ny a (f t) :=
  let ⟨t, o, h1, h2, h3⟩ := h; ⟨t, o, hk _ h1 rfl, h2, h3⟩
theorem Row.plain {w : World} {nx : List (Addr × Obj)} {ns : List Int} {us : List Value} {A : List Addr} (h : Row w nx ns us A) : ∀ ny, (∀ p ∈ nx, p.1 ∈ A → p ∈ ny) → Shows w ny (2 * ns.length + 4) us (dueL ns false) := by
  induction h with
  | nil => intro ny _; exact .nil _
  | @cons n r us A a i i1 c1 p q c qp i2 c2 p2 h hr ih =>
    intro ny hk
    have ih' := ih ny fun p hp hA => hk p hp (by simp [hA])
    refine shows_level (d := 2 * r.length + 2) (b := false) (by simp)
      (DictIn.to (fun p hp e => hk p hp (by simp [e])) h.A) (hk _ h.I (by simp)) (DictIn.to (fun p hp e => hk p hp (by simp [e])) h.I1) (hk _ h.C1 (by simp)) (DictIn.to (fun p hp e => hk p hp (by simp [e])) h.P)
      (DictIn.to (fun p hp e => hk p hp (by simp [e])) h.Q) (hk _ h.C (by simp)) (DictIn.to (fun p hp e => hk p hp (by simp [e])) h.QP) (DictIn.to (fun p hp e => hk p hp (by simp [e])) h.I2) (hk _ h.C2 (by simp)) (DictIn.to (fun p hp e => hk p hp (by simp [e])) h.P2) ih'
theorem sq_par : (sQuo == sPar) = false := by decide +kernel
theorem sq_lst : (sQuo == sLst) = false := by decide +kernel
/-- what is known of a token and what the transforming makes of it -/
def Runs (w : World) (nx : List (Addr × Obj)) (d : Nat) (x : What) (ns : List Int) (us : List Value) (A : List Addr) : Prop :=
  ∃ S R, Tf w nx d x S R ∧ S.Nodup ∧ (∀ b ∈ S, b ∉ R) ∧ (∀ b ∈ S, b ∈ A) ∧ (∀ b ∈ R, b ∈ A) ∧ ∀ ny, (∀ p ∈ nx, p.1 ∈ A → p.1 ∉ S → p ∈ ny) → Done w S ny → Shows w ny (2 * ns.length + 4) us (dueL ns true)
theorem Runs.up {w : World} {nx : List (Addr × Obj)} {n : Int} {r : List Int} {us : List Value} {A : List Addr} {a i i1 c1 p q c qp i2 c2 p2 : Addr} (h : LvO w nx n us a i i1 c1 p q c qp i2 c2 p2) (hr : Row w nx r us A)
    (hA : (a :: i :: i1 :: c1 :: p :: q :: c :: qp :: i2 :: c2 :: p2 :: A).Nodup) (ih : Runs w nx r.length (.toks us) r us A) : Runs w nx r.length (.tok a) (n :: r) [.ref a] (a :: i :: i1 :: c1 :: p :: q :: c :: qp :: i2 :: c2 :: p2 :: A) := by
  obtain ⟨tA, oA, mA, dA, sA⟩ := id h.A
  cases hev : (n.fmod 2 == 0) with
  | false =>
    rw [hev] at dA
    refine ⟨[], [a], .loose mA dA va_ti, List.nodup_nil, nofun, nofun, (fun b hb => by simp at hb; simp [hb]), fun ny hk _ => ?_⟩
    have hk' : ∀ z ∈ nx, z.1 ∈ (a :: i :: i1 :: c1 :: p :: q :: c :: qp :: i2 :: c2 :: p2 :: A) → z ∈ ny := fun z hp hA => hk z hp hA (by simp)
    exact shows_level (d := 2 * r.length + 2) (b := false) (by simp [hev])
      (DictIn.to (fun p hp e => hk' p hp (by simp [e])) h.A) (hk' _ h.I (by simp)) (DictIn.to (fun p hp e => hk' p hp (by simp [e])) h.I1) (hk' _ h.C1 (by simp)) (DictIn.to (fun p hp e => hk' p hp (by simp [e])) h.P)
      (DictIn.to (fun p hp e => hk' p hp (by simp [e])) h.Q) (hk' _ h.C (by simp)) (DictIn.to (fun p hp e => hk' p hp (by simp [e])) h.QP) (DictIn.to (fun p hp e => hk' p hp (by simp [e])) h.I2) (hk' _ h.C2 (by simp)) (DictIn.to (fun p hp e => hk' p hp (by simp [e])) h.P2)
      (hr.plain ny fun p hp hA => hk' p hp (by simp [hA]))
  | true =>
    rw [hev] at dA
    obtain ⟨S', R', hT, hnd, hSR, hSA, hRA, hrun⟩ := ih
    obtain ⟨tI1, oI1, mI1, dI1, sI1⟩ := id h.I1
    obtain ⟨tP, oP, mP, dP, sP⟩ := id h.P
    obtain ⟨tQ, oQ, mQ, dQ, sQ⟩ := id h.Q
    obtain ⟨tI2, oI2, mI2, dI2, sI2⟩ := id h.I2
    obtain ⟨tP2, oP2, mP2, dP2, sP2⟩ := id h.P2
    simp only [List.nodup_cons, List.mem_cons, not_or] at hA
    obtain ⟨⟨a1, a2, a3, a4, a5, a6, a7, a8, a9, a10, a11⟩, ⟨i1', i2', i3, i4, i5, i6, i7, i8, i9, i10⟩, ⟨j1, j2, j3, j4, j5, j6, j7, j8, j9⟩, ⟨k1, k2, k3, k4, k5, k6, k7, k8⟩, ⟨p1, p2', p3, p4, p5, p6, p7⟩, ⟨q1, q2, q3, q4, q5, q6⟩, ⟨x1, x2, x3, x4, x5⟩, ⟨y1, y2, y3, y4⟩, ⟨z1, z2, z3⟩, ⟨u1, u2⟩, v1, hA'⟩ := hA
    have hq : Tf w nx r.length (.toks ((if qbit n then [Value.ref q] else []) ++ us)) S' ((if qbit n then [q] else []) ++ R') := by
      cases qbit n with
      | false => exact hT
      | true => exact .oth mQ dQ va_ty sq_par sq_lst hT
    have hparts := Tf.par mP dP hq
    have hp2 : Tf w nx r.length (.toks [.ref p2]) [p2] [] := .par mP2 dP2 (.nil _)
    have hi2 := Tf.item mI2 dI2 va_ch h.C2 hp2 (.inil _)
    have hi1 := Tf.item mI1 dI1 va_ch h.C1 hparts hi2
    have ha := Tf.tight mA dA va_ti va_ch3 h.I hi1
    have hqm : ∀ b, b ∈ (if qbit n then [q] else []) → b = q := by intro b hb; revert hb; split <;> simp
    refine ⟨_, _, ha, ?_, ?_, ?_, ?_, ?_⟩
    · have hpS : p ∉ S' := fun hm => p7 (hSA _ hm)
      have hp2S : p2 ∉ S' := fun hm => v1 (hSA _ hm)
      refine List.nodup_append.mpr ⟨List.nodup_cons.mpr ⟨hpS, hnd⟩, by simp, ?_⟩
      intro x hx y hy
      simp at hy
      subst hy
      rcases List.mem_cons.mp hx with rfl | hx
      · exact p6
      · intro e; subst e; exact hp2S hx
    · intro b hb hR
      have hb' : b = p ∨ b ∈ S' ∨ b = p2 := by
        simp at hb; rcases hb with hb | hb | hb
        · exact .inl hb
        · exact .inr (.inl hb)
        · exact .inr (.inr hb)
      have hR' : b = a ∨ b = i ∨ b = i1 ∨ b = c1 ∨ b = q ∨ b ∈ R' ∨ b = i2 ∨ b = c2 := by
        simp only [List.mem_cons, List.mem_append, List.not_mem_nil, or_false, List.append_nil] at hR
        rcases hR with h | h | h | h | (h | h) | h | h
        · simp [h]
        · simp [h]
        · simp [h]
        · simp [h]
        · have := hqm b h; simp [this]
        · simp [h]
        · simp [h]
        · simp [h]
      rcases hb' with rfl | hb | rfl
      · rcases hR' with h | h | h | h | h | h | h | h
        · exact a4 h.symm
        · exact i3 h.symm
        · exact j2 h.symm
        · exact k1 h.symm
        · exact p1 h
        · exact p7 (hRA _ h)
        · exact p4 h
        · exact p5 h
      · rcases hR' with rfl | rfl | rfl | rfl | rfl | h | rfl | rfl
        · exact a11 (hSA _ hb)
        · exact i10 (hSA _ hb)
        · exact j9 (hSA _ hb)
        · exact k8 (hSA _ hb)
        · exact q6 (hSA _ hb)
        · exact hSR b hb h
        · exact z3 (hSA _ hb)
        · exact u2 (hSA _ hb)
      · rcases hR' with h | h | h | h | h | h | h | h
        · exact a10 h.symm
        · exact i9 h.symm
        · exact j8 h.symm
        · exact k7 h.symm
        · exact q5 h.symm
        · exact v1 (hRA _ h)
        · exact z2 h.symm
        · exact u1 h.symm
    · intro b hb
      simp at hb
      rcases hb with rfl | hb | rfl
      · simp
      · have := hSA _ hb; simp [this]
      · simp
    · intro b hR
      simp only [List.mem_cons, List.mem_append, List.not_mem_nil, or_false, List.append_nil] at hR
      rcases hR with h | h | h | h | (h | h) | h | h
      · simp [h]
      · simp [h]
      · simp [h]
      · simp [h]
      · have := hqm b h; simp [this]
      · have := hRA _ h; simp [this]
      · simp [h]
      · simp [h]
    · intro ny hk hD
      have hkS : ∀ x, x ≠ p → x ∉ A → x ≠ p2 → x ∉ (p :: S' ++ ([p2] ++ [])) := by
        intro x h1 h2 h3 hm
        simp at hm
        rcases hm with h | h | h
        · exact h1 h
        · exact h2 (hSA _ h)
        · exact h3 h
      exact shows_level (d := 2 * r.length + 2) (b := true) (by simp [hev])
        (DictIn.to (fun x hp e => hk x hp (by simp [e]) (by rw [e]; exact hkS _ a4 a11 a10)) h.A) (hk _ h.I (by simp) (hkS _ i3 i10 i9)) (DictIn.to (fun x hp e => hk x hp (by simp [e]) (by rw [e]; exact hkS _ j2 j9 j8)) h.I1) (hk _ h.C1 (by simp) (hkS _ k1 k8 k7))
        (let ⟨o, t, e1, e2⟩ := hD p (by simp); ⟨t, o, e1, e2, sP⟩)
        (DictIn.to (fun x hp e => hk x hp (by simp [e]) (by rw [e]; exact hkS _ (Ne.symm p1) q6 q5)) h.Q) (hk _ h.C (by simp) (hkS _ (Ne.symm p2') x5 x4)) (DictIn.to (fun x hp e => hk x hp (by simp [e]) (by rw [e]; exact hkS _ (Ne.symm p3) y4 y3)) h.QP)
        (DictIn.to (fun x hp e => hk x hp (by simp [e]) (by rw [e]; exact hkS _ (Ne.symm p4) z3 z2)) h.I2) (hk _ h.C2 (by simp) (hkS _ (Ne.symm p5) u2 u1)) (let ⟨o, t, e1, e2⟩ := hD p2 (by simp); ⟨t, o, e1, e2, sP2⟩)
        (hrun ny (fun x hp hxA hxS => hk x hp (by simp [hxA]) (by
          intro hm
          simp at hm
          rcases hm with h | h | h
          · exact p7 (h ▸ hxA)
          · exact hxS h
          · exact v1 (h ▸ hxA))) fun b hb => hD b (by simp [hb]))
end Mine

namespace Mine
theorem Tf.tok_mem {w : World} {nx : List (Addr × Obj)} {d : Nat} {a : Addr} {S R : List Addr} (h : Tf w nx d (.tok a) S R) : a ∈ R := by
  cases h with
  | loose => simp
  | tight => simp
theorem Row.runs {w : World} {nx : List (Addr × Obj)} {ns : List Int} {us : List Value} {A : List Addr} (h : Row w nx ns us A) : A.Nodup → Runs w nx ns.length (.toks us) ns us A := by
  induction h with
  | nil => intro _; exact ⟨[], [], .nil _, List.nodup_nil, nofun, nofun, nofun, fun ny _ _ => .nil _⟩
  | @cons n r us A a i i1 c1 p q c qp i2 c2 p2 h hr ih =>
    intro hA
    have ihA : A.Nodup := by simp only [List.nodup_cons] at hA; exact hA.2.2.2.2.2.2.2.2.2.2.2
    obtain ⟨S, R, hT, hnd, hSR, hSA, hRA, hrun⟩ := Runs.up h hr hA (ih ihA)
    obtain ⟨tA, oA, mA, dA, sA⟩ := h.A
    refine ⟨S ++ [], a :: (R ++ []), .lst mA dA va_ty hT (.nil _), by rw [List.append_nil]; exact hnd, ?_, by rw [List.append_nil]; exact hSA, ?_, ?_⟩
    · intro b hb hR
      rw [List.append_nil] at hb
      rcases List.mem_cons.mp hR with rfl | hR
      · -- a is read by the token itself
        exact hSR b hb hT.tok_mem
      · rw [List.append_nil] at hR; exact hSR b hb hR
    · intro b hb
      rcases List.mem_cons.mp hb with rfl | hb
      · simp
      · rw [List.append_nil] at hb; exact hRA b hb
    · intro ny hk hD
      rw [List.append_nil] at hk hD
      exact hrun ny hk hD
/-- a row's first token -/
theorem Row.tok {w : World} {nx : List (Addr × Obj)} {n : Int} {r : List Int} {us : List Value} {A : List Addr} (h : Row w nx (n :: r) us A) (hA : A.Nodup) : ∃ a, us = [.ref a] ∧ Runs w nx r.length (.tok a) (n :: r) us A := by
  cases h with
  | cons h hr =>
    have ihA := hA
    simp only [List.nodup_cons] at ihA
    exact ⟨_, rfl, Runs.up h hr hA (hr.runs ihA.2.2.2.2.2.2.2.2.2.2.2)⟩
end Mine
end

section
open PySem PySem.W PySem.Calls PyProof.Rows PyProof.V PySem.Spec
namespace Mine
theorem LvO.sub {w : World} {nx ny : List (Addr × Obj)} {n : Int} {us : List Value} {a i i1 c1 p q c qp i2 c2 p2 : Addr} (h : LvO w nx n us a i i1 c1 p q c qp i2 c2 p2)
    (hs : ∀ z ∈ nx, z.1 ∈ [a, i, i1, c1, p, q, c, qp, i2, c2, p2] → z ∈ ny) : LvO w ny n us a i i1 c1 p q c qp i2 c2 p2 :=
  ⟨DictIn.to (fun z hz e => hs z hz (by simp [e])) h.A, hs _ h.I (by simp), DictIn.to (fun z hz e => hs z hz (by simp [e])) h.I1, hs _ h.C1 (by simp), DictIn.to (fun z hz e => hs z hz (by simp [e])) h.P,
   DictIn.to (fun z hz e => hs z hz (by simp [e])) h.Q, hs _ h.C (by simp), DictIn.to (fun z hz e => hs z hz (by simp [e])) h.QP, DictIn.to (fun z hz e => hs z hz (by simp [e])) h.I2, hs _ h.C2 (by simp), DictIn.to (fun z hz e => hs z hz (by simp [e])) h.P2⟩
section
variable {prog : Program} {w : World} {A : Around} {E : Value → Shared → Prop} {s : Shared} {env : Env} {h₀ : Heap} {x : Str} {body : List Stmt} {Q : Flow → Shared → Prop}
def RowK (w : World) (base : List (Addr × Obj)) (ns : List Int) (i : Nat) (c : Addr) (n' : List (Addr × Obj)) : Prop :=
  (∀ p ∈ base, p ∈ n') ∧ ∃ us B, (c, W.listOf us.toArray 0) ∈ n' ∧ Row w n' (ns.drop (ns.length - i)) us B ∧ B.Nodup
abbrev rowStored : List Str := [Str.ofString "quoted", Str.ofString "parts", Str.ofString "items"]
theorem row_loop {D l : Addr} {ws : List Value} {ns : List Int} {m₀ : Str → Option Value} {rest : List (Addr × Obj)} (hI : IntsAre ws ns.reverse)
    (hh : A.handled = none) (F : Fr h₀ env.locals s.heap m₀) (N : News h₀ env.locals s.heap ((D, W.listOf ws.toArray 0) :: (l, W.listOf #[] 0) :: rest)) (hk : m₀ (Str.ofString "inner") = some (.ref l))
    (turn : ∀ (c : Addr) i (n : Int) (t : Tok) r us B n' (u : Str → Option Value) h tk own, ns.drop (ns.length - (i + 1)) = n :: r → (∀ p ∈ (D, W.listOf ws.toArray 0) :: rest, p ∈ n') → (c, W.listOf us.toArray 0) ∈ n' → Row w n' r us B → B.Nodup → us.length ≤ 1 → TbOff own n' →
      Fr h₀ env.locals h (fun z => if z = x then some (.int n t) else kstB (fun z => if rowStored.contains z then u z else m₀ z) [(Str.ofString "inner", .ref c)] z) → News h₀ env.locals h (n' ++ own) →
      wpAny (model prog w) A (execs body env) (TbPost h₀ env.locals (LoS (RowK w ((D, W.listOf ws.toArray 0) :: rest) ns) (fun c => [(Str.ofString "inner", .ref c)]) x rowStored m₀ (i + 1)) own { s with heap := h, toks := tk } Q) E { s with heap := h, toks := tk })
    (done : ∀ (c : Addr) us B n' (u : Str → Option Value) h tk, (∀ p ∈ (D, W.listOf ws.toArray 0) :: rest, p ∈ n') → (c, W.listOf us.toArray 0) ∈ n' → Row w n' ns us B → B.Nodup →
      Fr h₀ env.locals h (fun z => if z = x then u z else kstB (fun z => if rowStored.contains z then u z else m₀ z) [(Str.ofString "inner", .ref c)] z) → News h₀ env.locals h n' → Q .next { s with heap := h, toks := tk }) :
    wpAny (model prog w) A (pyIter (.ref D)) (fun it s₂ => LoopAtV prog w A h₀ env x body Q E it s₂) E s := by
  have hlen : ws.length = ns.length := by rw [hI.length, List.length_reverse]
  refine lo_list (σ := Addr) (nn := 0) (vs := ws) (RowK w ((D, W.listOf ws.toArray 0) :: rest) ns) (fun c => [(Str.ofString "inner", .ref c)]) rowStored l (List.mem_cons_self ..) ?_ hh F N ?_ ?_ ?_ ?_
  · rintro i c n' ⟨hb, _⟩; exact hb _ (List.mem_cons_self ..)
  · intro p hp
    rw [List.mem_singleton.mp hp]; exact hk
  · refine ⟨?_, [], [], ?_, ?_, List.nodup_nil⟩
    · intro p hp
      rcases List.mem_cons.mp hp with rfl | hp
      · exact List.mem_cons_self ..
      · exact List.mem_cons_of_mem _ (List.mem_cons_of_mem _ hp)
    · exact List.mem_cons_of_mem _ (List.mem_cons_self ..)
    · rw [Nat.sub_zero, List.drop_length]; exact .nil
  · rintro c i v n' u h tk own hv hi hoff ⟨hb, us, B, hc, hR, hB⟩ F₁ N₁
    have hi' : i < ns.reverse.length := by rw [List.length_reverse, ← hlen]; exact hi
    obtain ⟨t, ht⟩ : ∃ t, v = .int ns.reverse[i] t := by
      have := hI.get i ns.reverse[i] (List.getElem?_eq_getElem hi')
      obtain ⟨t, ht⟩ := this
      exact ⟨t, by rw [hv] at ht; exact Option.some.inj ht⟩
    subst ht
    have hdr : ns.drop (ns.length - (i + 1)) = ns.reverse[i] :: ns.drop (ns.length - i) := by
      have hlt : ns.length - (i + 1) < ns.length := by omega
      rw [List.drop_eq_getElem_cons hlt]
      congr 1
      · rw [List.getElem_reverse]; congr 1; omega
      · congr 1; omega
    exact turn c i _ t _ us B n' u h tk own hdr hb hc hR hB hR.short hoff F₁ N₁
  · rintro c u n' h tk ⟨hb, us, B, hc, hR, hB⟩ F₁ N₁
    rw [hlen, Nat.sub_self, List.drop_zero] at hR
    exact done c us B n' u h tk hb hc hR hB F₁ N₁
theorem row_end {w : World} {base : List (Addr × Obj)} {ns r : List Int} {n : Int} {us : List Value} {B : List Addr} {m₀ : Str → Option Value} {n' own m9 : List (Addr × Obj)} {ix : Nat} {L : Addr} {m' : Str → Option Value} {s₁ : Shared} {h' : Heap} {tk : Nat} {a i i1 c1 p q c qp i2 c2 p2 c' : Addr}
    (F : Fr h₀ L h' m') (N : News h₀ L h' m9) (hd : ns.drop (ns.length - (ix + 1)) = n :: r) (hb : ∀ p ∈ base, p ∈ n') (hR : Row w n' r us B) (hB : B.Nodup) (ho : TbOff own n') (hm : ∀ p ∈ n' ++ own, p ∈ m9)
    (hL : LvO w m9 n us a i i1 c1 p q c qp i2 c2 p2) (hc : (c', W.listOf [Value.ref a].toArray 0) ∈ m9)
    (hq : AllLt q (n' ++ own)) (o1 : @LT.lt Nat _ q qp) (o2 : @LT.lt Nat _ qp c) (o3 : @LT.lt Nat _ c p) (o4 : @LT.lt Nat _ p c1) (o5 : @LT.lt Nat _ c1 i1) (o6 : @LT.lt Nat _ i1 i2) (o7 : @LT.lt Nat _ i2 p2) (o8 : @LT.lt Nat _ p2 c2) (o9 : @LT.lt Nat _ c2 i) (o10 : @LT.lt Nat _ i a) (o11 : @LT.lt Nat _ a c')
    (hk : m' (Str.ofString "inner") = some (.ref c')) (hr : ∀ z, z ≠ x → z ≠ Str.ofString "inner" → rowStored.contains z = false → m' z = m₀ z) :
    TbEnd h₀ L (LoS (RowK w base ns) (fun c => [(Str.ofString "inner", .ref c)]) x rowStored m₀ (ix + 1)) own s₁ { s₁ with heap := h', toks := tk } := by
  have hlow : ∀ z ∈ n' ++ own, @LT.lt Nat _ z.1 q := fun z hz => kst_ltOf hq z hz
  have hhi : ∀ y ∈ [c', a, i, i1, c1, p, q, c, qp, i2, c2, p2], ∀ z ∈ n' ++ own, @LT.lt Nat _ z.1 y := by
    intro y hy z hz
    have h1 := hlow z hz
    simp only [List.mem_cons, List.not_mem_nil, or_false] at hy
    have hy' : @LE.le Nat _ q y := by
      clear h1 hz hlow hq hb hR hm ho hc hL
      rcases hy with rfl | rfl | rfl | rfl | rfl | rfl | rfl | rfl | rfl | rfl | rfl | rfl <;> omega
    exact Nat.lt_of_lt_of_le h1 hy'
  have hin : ∀ z ∈ m9, z.1 ∈ [c', a, i, i1, c1, p, q, c, qp, i2, c2, p2] → z ∈ m9.filter fun z => decide (∀ y ∈ own, y.1 ≠ z.1) := fun z hz hy =>
    List.mem_filter.mpr ⟨hz, decide_eq_true fun y hyo e => Nat.lt_irrefl _ (e ▸ hhi _ hy y (List.mem_append_right _ hyo))⟩
  have hn' : ∀ z ∈ n', z ∈ m9.filter fun z => decide (∀ y ∈ own, y.1 ≠ z.1) := fun z hz => List.mem_filter.mpr ⟨hm z (List.mem_append_left _ hz), decide_eq_true fun y hy e => ho y hy z hz e⟩
  refine lo_end c' F N (nx := m9.filter fun z => decide (∀ y ∈ own, y.1 ≠ z.1)) ⟨fun z hz => hn' z (hb z hz), [.ref a], a :: i :: i1 :: c1 :: p :: q :: c :: qp :: i2 :: c2 :: p2 :: B, hin _ hc (by simp), ?_, ?_⟩
    (fun z hz => (List.mem_filter.mp hz).1) (fun z hz => hm z (List.mem_append_right _ hz)) ?_ ?_ ?_
  · rw [hd]
    exact .cons (hL.sub fun z hz hy => hin z hz (List.mem_cons_of_mem _ hy)) (hR.mono hn')
  · have hBlt : ∀ b ∈ B, @LT.lt Nat _ b q := by
      intro b hb'
      obtain ⟨z, hz, rfl⟩ := hR.mem b hb'
      exact hlow z (List.mem_append_left _ hz)
    have hno : ∀ y : Addr, @LE.le Nat _ q y → y ∉ B := fun y hy hm => Nat.lt_irrefl _ (Nat.lt_of_lt_of_le (hBlt y hm) hy)
    simp only [List.nodup_cons, List.mem_cons, not_or]
    refine ⟨⟨?_, ?_, ?_, ?_, ?_, ?_, ?_, ?_, ?_, ?_, ?_⟩, ⟨?_, ?_, ?_, ?_, ?_, ?_, ?_, ?_, ?_, ?_⟩, ⟨?_, ?_, ?_, ?_, ?_, ?_, ?_, ?_, ?_⟩, ⟨?_, ?_, ?_, ?_, ?_, ?_, ?_, ?_⟩, ⟨?_, ?_, ?_, ?_, ?_, ?_, ?_⟩, ⟨?_, ?_, ?_, ?_, ?_, ?_⟩, ⟨?_, ?_, ?_, ?_, ?_⟩, ⟨?_, ?_, ?_, ?_⟩, ⟨?_, ?_, ?_⟩, ⟨?_, ?_⟩, ?_, hB⟩ <;>
      first | exact neN (by omega) | exact hno _ (by omega)
  · intro y hy z hz e
    exact of_decide_eq_true (List.mem_filter.mp hz).2 y hy e
  · intro y hy
    rw [List.mem_singleton.mp hy]; exact hk
  · intro z h1 h2 h3
    exact hr z h1 (h2 _ (List.mem_singleton_self _)) h3
end
end Mine
namespace Mine
theorem c1_no {nx : List (Addr × Obj)} {D p q : Addr} {n : Int} {us : List Value} (h : (n.fdiv 2).fmod 2 = 0) (hm : (D, W.listOf ([Value.ref p] ++ us).toArray 0) ∈ nx) : (D, W.listOf (Value.ref p :: ((if qbit n then [Value.ref q] else []) ++ us)).toArray 0) ∈ nx := by
  rw [show qbit n = false by simp [qbit, h], if_neg Bool.false_ne_true]; exact hm
theorem c1_yes {nx : List (Addr × Obj)} {D p q : Addr} {n : Int} {us : List Value} (h : (n.fdiv 2).fmod 2 ≠ 0) (hm : (D, W.listOf ([Value.ref p, Value.ref q] ++ us).toArray 0) ∈ nx) : (D, W.listOf (Value.ref p :: ((if qbit n then [Value.ref q] else []) ++ us)).toArray 0) ∈ nx := by
  rw [show qbit n = true by simp [qbit, h], if_pos rfl]; exact hm
end Mine
namespace Mine
theorem DictIn.intro {w : World} {nx : List (Addr × Obj)} {a : Addr} {o : Obj} {kvs : List (Str × Value)} (h1 : (a, o) ∈ nx) (h2 : DictO w o kvs) (h3 : (a == sysModules) = false) : DictIn w nx a kvs := ⟨o, h1, h2, h3⟩
end Mine
namespace Mine
theorem stored_ne {z : Str} (h : rowStored.contains z = false) : z ≠ Str.ofString "quoted" ∧ z ≠ Str.ofString "parts" ∧ z ≠ Str.ofString "items" := by
  refine ⟨?_, ?_, ?_⟩ <;> (rintro rfl; simp [rowStored] at h)
end Mine
namespace Mine
theorem dict1 {w : World} {o : Obj} {k1 v1 : Str} {t1 t2 : Tok} (h : Obj.IsDictOf (PySem.strKind PySem.Challenge.rw_ci0011_01.row.prog w) o (strPairs [(.str k1 t1, .str v1 t2)])) : DictO w o [(k1, .str v1 t2)] := h
theorem dict2 {w : World} {o : Obj} {k1 v1 k2 : Str} {t1 t2 t3 : Tok} {u2 : Value} (h : Obj.IsDictOf (PySem.strKind PySem.Challenge.rw_ci0011_01.row.prog w) o (strPairs [(.str k1 t1, .str v1 t2), (.str k2 t3, u2)])) : DictO w o [(k1, .str v1 t2), (k2, u2)] := h
theorem dict3 {w : World} {o : Obj} {k1 v1 k2 k3 : Str} {t1 t2 t3 t4 : Tok} {u2 u3 : Value} (h : Obj.IsDictOf (PySem.strKind PySem.Challenge.rw_ci0011_01.row.prog w) o (strPairs [(.str k1 t1, .str v1 t2), (.str k2 t3, u2), (.str k3 t4, u3)])) : DictO w o [(k1, .str v1 t2), (k2, u2), (k3, u3)] := h
end Mine
end

section
open PySem PySem.W PyProof.Rows
namespace Mine
/-- the M-th line and what stands ahead of it and behind it -/
theorem joinL_at : ∀ (ls : List (List Nat)) (M : Nat), M < ls.length → ∃ Q p tl, joinL ls = Q ++ p ++ tl ∧ joinL (ls.take (M + 1)) = Q ++ p ∧ ls[M]? = some p ∧ (M = 0 → Q = []) ∧
    ((tl = [] ∧ M + 1 = ls.length) ∨ ∃ R, tl = 10 :: R ∧ M + 1 < ls.length ∧ ∀ c ∈ R, c = 10 ∨ ∃ j q, M < j ∧ ls[j]? = some q ∧ c ∈ q)
  | [], M, h => absurd h (Nat.not_lt_zero _)
  | [a], M, h => by
    have : M = 0 := by simp at h; exact h
    subst this
    exact ⟨[], a, [], by simp [joinL], by simp [joinL], rfl, fun _ => rfl, .inl ⟨rfl, rfl⟩⟩
  | a :: b :: r, 0, h => by
    refine ⟨[], a, 10 :: joinL (b :: r), by simp [joinL], by simp [joinL], rfl, fun _ => rfl, .inr ⟨_, rfl, by simp, ?_⟩⟩
    have key : ∀ (ls : List (List Nat)) (c : Nat), c ∈ joinL ls → c = 10 ∨ ∃ (j : Nat) (q : List Nat), ls[j]? = some q ∧ c ∈ q := by
      intro ls
      induction ls with
      | nil => intro c hc; cases hc
      | cons x xs ih =>
        intro c hc
        cases xs with
        | nil => exact .inr ⟨0, x, rfl, hc⟩
        | cons y ys =>
          simp only [joinL] at hc
          rcases List.mem_append.mp hc with hc | hc
          · exact .inr ⟨0, x, rfl, hc⟩
          · rcases List.mem_cons.mp hc with rfl | hc
            · exact .inl rfl
            · rcases ih c hc with h1 | ⟨j, q, h1, h2⟩
              · exact .inl h1
              · exact .inr ⟨j + 1, q, h1, h2⟩
    intro c hc
    rcases key _ c hc with h1 | ⟨j, q, h1, h2⟩
    · exact .inl h1
    · exact .inr ⟨j + 1, q, by omega, h1, h2⟩
  | a :: b :: r, M + 1, h => by
    obtain ⟨Q, p, tl, h1, h2, h3, h4, h5⟩ := joinL_at (b :: r) M (by simpa using h)
    refine ⟨a ++ 10 :: Q, p, tl, ?_, ?_, h3, fun e => (nomatch e), ?_⟩
    · simp only [joinL]; rw [h1]; simp
    · have : (a :: b :: r).take (M + 1 + 1) = a :: b :: r.take M := rfl
      rw [this]
      simp only [joinL]
      have h2' : joinL (b :: r.take M) = Q ++ p := h2
      rw [h2']; simp
    · rcases h5 with ⟨h5, h6⟩ | ⟨R, h5, h6, h7⟩
      · exact .inl ⟨h5, by simp at h6 ⊢; omega⟩
      · refine .inr ⟨R, h5, by simp at h6 ⊢; omega, fun c hc => ?_⟩
        rcases h7 c hc with h8 | ⟨j, q, h8, h9, h10⟩
        · exact .inl h8
        · exact .inr ⟨j + 1, q, by omega, h9, h10⟩
/-- where the only white signs are blanks, tabs and line ends, the two cuts are one -/
theorem strip_ended {T y z : List Nat} (hc : ∀ c ∈ T, Unicode.isSpace c = true → isB c = true ∨ c = 10) (h1 : StripRel T y) (h2 : EndRel T z) : y = z := by
  obtain ⟨M, hM, hM2, hM3, rfl⟩ := h2
  obtain ⟨e, he, he1, he2, he3⟩ := h1
  obtain ⟨Q, p, tl, q1, q2, q3, q4, q5⟩ := joinL_at (splitL T) M hM
  rw [joinL_splitL] at q1
  rw [q2]
  have hfree : 10 ∉ p := splitL_free T p (List.mem_of_getElem? q3)
  have w10 : Unicode.isSpace 10 = true := by decide +kernel
  have wB : ∀ c, isB c = true → Unicode.isSpace c = true := by
    intro c hc
    rcases isB_cases hc with rfl | rfl
    · decide +kernel
    · decide +kernel
  -- e lies behind Q
  have heQ : Q.length ≤ e := by
    rcases hM2 with h0 | ⟨p', hp', hnb⟩
    · rw [q4 h0]; exact Nat.zero_le _
    · rw [q3] at hp'; cases hp'
      apply Classical.byContradiction
      intro hlt
      apply hnb
      intro c hcp
      have hcT : c ∈ T := by rw [q1]; simp [hcp]
      have hcd : c ∈ T.drop e := by
        rw [q1, List.append_assoc, List.drop_append_of_le_length (by omega)]
        simp [hcp]
      rcases hc c hcT (he1 c hcd) with h | h
      · exact h
      · exact absurd (h ▸ hcp) hfree
  have hp10 : ∀ v, Q.length ≤ v → v < Q.length + p.length → T[v]? ≠ some 10 := by
    intro v h1 h2 h3
    rw [q1, List.append_assoc, List.getElem?_append_right h1, List.getElem?_append_left (by omega)] at h3
    exact hfree (List.mem_of_getElem? h3)
  rcases q5 with ⟨rfl, q5⟩ | ⟨R, rfl, q5, q6⟩
  · rw [if_neg (by omega), List.append_nil]
    rw [List.append_nil] at q1
    rcases he3 with ⟨_, rfl⟩ | ⟨k, k1, k2, _, _⟩
    · exact q1
    · have hlt : k < T.length := (List.getElem?_eq_some_iff.mp k2).1
      have hl : T.length = Q.length + p.length := by rw [q1, List.length_append]
      exact absurd k2 (hp10 k (by omega) (by omega))
  · rw [if_pos q5]
    have hk0 : T[Q.length + p.length]? = some 10 := by
      rw [q1, List.getElem?_append_right (by simp)]
      simp
    have hRw : ∀ c ∈ R, Unicode.isSpace c = true := by
      intro c hcR
      rcases q6 c hcR with rfl | ⟨j, q, j1, j2, j3⟩
      · exact w10
      · exact wB c (hM3 j q j1 j2 c j3)
    have hek : e ≤ Q.length + p.length := by
      rcases he2 with h0 | ⟨c, c1, c2⟩
      · omega
      · apply Classical.byContradiction
        intro hlt
        have hw : Unicode.isSpace c = true := by
          rw [q1, List.getElem?_append_right (by simp; omega)] at c1
          have := List.mem_of_getElem? c1
          rcases List.mem_cons.mp this with rfl | h
          · exact w10
          · exact hRw c h
        rw [hw] at c2; cases c2
    have hlt : Q.length + p.length < T.length := (List.getElem?_eq_some_iff.mp hk0).1
    rcases he3 with ⟨h10, _⟩ | ⟨k, k1, k2, k3, rfl⟩
    · exfalso
      apply h10
      have : (T.drop e)[Q.length + p.length - e]? = some 10 := by
        rw [List.getElem?_drop, show e + (Q.length + p.length - e) = Q.length + p.length by omega]; exact hk0
      exact List.mem_of_getElem? this
    · have hk : k = Q.length + p.length := by
        rcases Nat.lt_trichotomy k (Q.length + p.length) with h | h | h
        · exact absurd k2 (hp10 k (by omega) h)
        · exact h
        · exact absurd hk0 (k3 _ hek h)
      subst hk
      congr 1
      rw [q1, ← List.length_append, List.take_left']
      rfl
/-- lines, each with its end -/
def linesL (ls : List (List Nat)) : List Nat := ls.flatMap (· ++ [10])
theorem joinL_lines : ∀ (ls : List (List Nat)), joinL (ls ++ [[]]) = linesL ls
  | [] => rfl
  | [a] => by simp [joinL, linesL]
  | a :: b :: r => by
    have ih := joinL_lines (b :: r)
    have e : joinL (a :: b :: r ++ [[]]) = a ++ 10 :: joinL (b :: r ++ [[]]) := rfl
    rw [e, ih]
    simp [linesL]
theorem splitL_lines {ls : List (List Nat)} (h : ∀ p ∈ ls, 10 ∉ p) : splitL (linesL ls) = ls ++ [[]] := by
  rw [← joinL_lines]
  refine splitL_joinL (by simp) ?_
  intro p hp
  rcases List.mem_append.mp hp with hp | hp
  · exact h p hp
  · simp at hp; subst hp; simp
theorem lineL_nil {k : Int} (hk : 0 < k) : lineL k [] = [] := by
  unfold lineL expandL
  rw [if_neg (by simp [wid]; omega)]
  simp [wid, dropB, spaces]
theorem cleanL_lines {k : Int} (hk : 0 < k) {ls : List (List Nat)} (h : ∀ p ∈ ls, 10 ∉ p) : cleanL k (linesL ls) = linesL (ls.map (lineL k)) := by
  unfold cleanL
  rw [splitL_lines h, List.map_append]
  show joinL (_ ++ [lineL k []]) = _
  rw [lineL_nil hk, joinL_lines]
end Mine
end

section
open PySem PySem.W PySem.Calls PyProof.Rows
namespace Mine
def Body (y : Str) : Prop := y.cps.toList ∈ bodiesL
theorem bodies_ok : ∀ y ∈ bodies, Body y := by
  have h : (bodies.all fun y => bodiesL.contains y.cps.toList) = true := by decide +kernel
  intro y hy
  have := List.all_eq_true.mp h y hy
  exact List.contains_iff_mem.mp this
theorem Body.len {y : Str} (h : Body y) : y.length ≤ 3 := by
  have e : (bodiesL.all fun b => decide (b.length ≤ 3)) = true := by decide +kernel
  rw [len_L]
  exact of_decide_eq_true (List.all_eq_true.mp e _ h)
/-- at most k blanks and tabs, then a body -/
def RowOk (k : Nat) (y : Str) : Prop := ∃ a b, y.cps.toList = a ++ b ∧ (∀ n ∈ a, isB n = true) ∧ a.length ≤ k ∧ b ∈ bodiesL
theorem RowOk.len {k : Nat} {y : Str} (h : RowOk k y) : y.length ≤ k + 3 := by
  obtain ⟨a, b, e, _, h2, h3⟩ := h
  have e2 : (bodiesL.all fun b => decide (b.length ≤ 3)) = true := by decide +kernel
  have := of_decide_eq_true (List.all_eq_true.mp e2 _ h3)
  rw [len_L, e, List.length_append]; omega
theorem RowOk.mk {k : Nat} {x y : Str} (h1 : Lead k x) (h2 : Body y) : RowOk k (x ++ y) := ⟨x.cps.toList, y.cps.toList, app_L x y, h1.1, by have := h1.2; rw [len_L] at this; exact this, h2⟩
theorem body_head {b : List Nat} (h : b ∈ bodiesL) : dropB b = b ∧ ∀ c, wid c b = c := by
  simp only [bodiesL, List.mem_cons, List.not_mem_nil, or_false] at h
  rcases h with rfl | rfl | rfl | rfl | rfl | rfl | rfl <;> exact ⟨rfl, fun _ => rfl⟩
theorem row_split {a b : List Nat} (ha : ∀ n ∈ a, isB n = true) (hb : b ∈ bodiesL) : dropB (a ++ b) = b ∧ ∀ c, wid c (a ++ b) = wid c a := by
  obtain ⟨h1, h2⟩ := body_head hb
  refine ⟨?_, fun c => by rw [wid_append ha, h2]⟩
  unfold dropB
  rw [List.dropWhile_append_of_pos (fun x hx => ha x hx)]
  exact h1
theorem RowOk.drop {k : Nat} {y : Str} (h : RowOk k y) : dropB y.cps.toList ∈ bodiesL := by
  obtain ⟨a, b, e, h1, h2, h3⟩ := h
  rw [e, (row_split h1 h3).1]; exact h3
theorem RowOk.wide {k : Nat} {y : Str} (h : RowOk k y) (c : Int) : wid c y.cps.toList ≤ c + 4 * (k : Int) := by
  obtain ⟨a, b, e, h1, h2, h3⟩ := h
  rw [e, (row_split h1 h3).2]
  have := wid_le' (c := c) (l := a)
  omega
theorem RowOk.re {y : Str} (h : RowOk 5 y) (c : Int) : reGood (expandL c y.cps.toList) (!(dropB y.cps.toList).isEmpty) = true := by
  have h1 := h.drop
  have h2 := h.wide c
  have h3 := List.all_eq_true.mp re_ground (wid c y.cps.toList - c).toNat (List.mem_range.mpr (by omega))
  exact List.all_eq_true.mp h3 _ h1
/-- of the white signs there are blanks, tabs and line ends alone -/
def Plain (l : List Nat) : Prop := ∀ c ∈ l, Unicode.isSpace c = true → isB c = true ∨ c = 10
theorem Plain.app {a b : List Nat} (h1 : Plain a) (h2 : Plain b) : Plain (a ++ b) := fun c hc => (List.mem_append.mp hc).elim (h1 c) (h2 c)
theorem plain_spaces (n : Nat) : Plain (spaces n) := fun c hc _ => .inl (spaces_blank n c hc)
theorem plain_nl : Plain [10] := fun c hc _ => .inr (List.mem_singleton.mp hc)
theorem plain_nil : Plain [] := fun c hc => nomatch hc
theorem plain_body {b : List Nat} (h : b ∈ bodiesL) : Plain b := by
  have e : (bodiesL.all fun b => b.all fun c => !Unicode.isSpace c || isB c) = true := by decide +kernel
  intro c hc hs
  have := List.all_eq_true.mp (List.all_eq_true.mp e b h) c hc
  rw [hs] at this
  exact .inl (by simpa using this)
theorem body_free {b : List Nat} (h : b ∈ bodiesL) : 10 ∉ b := by
  have e : (bodiesL.all fun b => !b.contains 10) = true := by decide +kernel
  have := List.all_eq_true.mp e b h
  intro hm
  rw [List.contains_iff_mem.mpr hm] at this
  cases this
theorem spaces_free (n : Nat) : 10 ∉ spaces n := fun h => by have := List.eq_of_mem_replicate h; omega
theorem RowOk.free {k : Nat} {y : Str} (h : RowOk k y) : 10 ∉ y.cps.toList := by
  obtain ⟨a, b, e, h1, h2, h3⟩ := h
  rw [e]
  intro hm
  rcases List.mem_append.mp hm with hm | hm
  · have := h1 _ hm
    exact absurd this (by decide)
  · exact body_free h3 hm
theorem RowOk.first {k : Nat} {y : Str} (h : RowOk k y) (s : Int) : Plain (firstL s y.cps.toList) := by
  have hb := plain_body h.drop
  unfold firstL
  split
  · exact plain_nil
  · split
    · exact ((plain_spaces _).app hb).app plain_nl
    · exact hb.app plain_nl
theorem RowOk.line {k : Nat} {y : Str} (h : RowOk k y) (s : Int) : Plain (lineL s y.cps.toList) := by
  have hb := plain_body h.drop
  unfold lineL lessL expandL
  split <;> exact (plain_spaces _).app hb
theorem plain_lines {ls : List (List Nat)} (h : ∀ l ∈ ls, Plain l) : Plain (linesL ls) := by
  intro c hc
  obtain ⟨l, hl, hc⟩ := List.mem_flatMap.mp hc
  exact (h l hl).app plain_nl c hc
/-- the rows' text -/
def rowsL (rs : List Str) : List Nat := linesL (rs.map (·.cps.toList))
def dueT (k : Int) (rs : List Str) : List Nat := linesL (rs.map fun y => lineL k y.cps.toList)
theorem law_eq {k : Int} {n : Nat} {s : Int} {text first source T z z' : Str} {rs : List Str} (ht : RowOk n text) (hf : first.cps.toList = firstL s text.cps.toList) (hr : ∀ r ∈ rs, RowOk 4 r) (hs : source.cps.toList = rowsL rs) (hk : 0 < k)
    (hT : T.cps.toList = first.cps.toList ++ dueT k rs) (h1 : StripRel (first.cps.toList ++ cleanL k source.cps.toList) z.cps.toList) (h2 : EndRel T.cps.toList z'.cps.toList) : z = z' := by
  have e : cleanL k source.cps.toList = dueT k rs := by
    rw [hs]
    unfold rowsL dueT
    rw [cleanL_lines hk (fun p hp => by obtain ⟨r, hr', rfl⟩ := List.mem_map.mp hp; exact (hr r hr').free), List.map_map]
    rfl
  rw [e, ← hT] at h1
  refine str_ext (strip_ended ?_ h1 h2)
  rw [hT, hf]
  exact (ht.first s).app (plain_lines fun l hl => by obtain ⟨r, hr', rfl⟩ := List.mem_map.mp hl; exact (hr r hr').line k)
theorem join_rows (rs : List Str) : (Txt.join (Str.ofString "") (rs.map fun y => y ++ Str.ofString "\n")).cps.toList = rowsL rs := by
  rw [join_empty_L]
  unfold rowsL linesL
  rw [List.flatMap_map, List.flatMap_map]
  congr 1
  funext y
  rw [app_L, ofString_nl]
theorem join_due (k : Int) (rs : List Str) : (Txt.join (Str.ofString "") (rs.map fun y => txt (lineL k y.cps.toList) ++ Str.ofString "\n")).cps.toList = dueT k rs := by
  rw [join_empty_L]
  unfold dueT linesL
  rw [List.flatMap_map, List.flatMap_map]
  congr 1
  funext y
  rw [app_L, ofString_nl]
  rfl
end Mine
end

section
open PySem PySem.W PySem.Calls PyProof.Rows
namespace Mine
section
variable {M : Model} {A : Around} {E : Value → Shared → Prop} {s : Shared} {h₀ : Heap} {L : Addr} {m : Str → Option Value} {news : List (Addr × Obj)} {e : PySem.Expr} {env : Env}
def IntPost (P : Int → Prop) (h₀ : Heap) (L : Addr) (m : Str → Option Value) (s : Shared) (news : List (Addr × Obj)) (v : Value) (s' : Shared) : Prop :=
  ∃ k t h tk, v = .int k t ∧ s' = { s with heap := h, toks := tk } ∧ P k ∧ Fr h₀ L h m ∧ News h₀ L h news
theorem IntPost.mk {P : Int → Prop} {k : Int} {t : Tok} {h : Heap} {tk : Nat} (hP : P k) (F : Fr h₀ L h m) (N : News h₀ L h news) : IntPost P h₀ L m s news (.int k t) { s with heap := h, toks := tk } := ⟨k, t, h, tk, rfl, rfl, hP, F, N⟩
theorem cut_int {Q : Value → Shared → Prop} (P : Int → Prop) (F : Fr h₀ L s.heap m) (N : News h₀ L s.heap news) (h1 : wpAny M A (eval e env) (IntPost P h₀ L m s news) E s)
    (h2 : ∀ k t h tk, P k → Fr h₀ L h m → News h₀ L h news → Q (.int k t) { s with heap := h, toks := tk }) : wpAny M A (eval e env) Q E s :=
  wpAny_mono h1 (by rintro v s' ⟨k, t, h, tk, rfl, rfl, hP, F', N'⟩; exact h2 k t h tk hP F' N') fun _ _ e => e
def LstPost (b : Nat) (h₀ : Heap) (L : Addr) (m : Str → Option Value) (s : Shared) (news : List (Addr × Obj)) (v : Value) (s' : Shared) : Prop :=
  ∃ D ws ns n h tk, v = .ref D ∧ s' = { s with heap := h, toks := tk } ∧ IntsAre ws ns ∧ ns ≠ [] ∧ ns.length ≤ b ∧ Fr h₀ L h m ∧ News h₀ L h ((D, W.listOf ws.toArray n) :: news)
theorem LstPost.one {b : Nat} {D : Addr} {ws : List Value} {ns : List Int} {n : Nat} {h : Heap} {tk : Nat} (h1 : IntsAre ws ns) (h2 : 0 < ns.length) (h3 : ns.length ≤ b) (F : Fr h₀ L h m) (N : News h₀ L h ((D, W.listOf ws.toArray n) :: news)) :
    LstPost b h₀ L m s news (.ref D) { s with heap := h, toks := tk } := ⟨D, ws, ns, n, h, tk, rfl, rfl, h1, List.ne_nil_of_length_pos h2, h3, F, N⟩
theorem LstPost.two {b : Nat} {D : Addr} {q : Addr × Obj} {ws : List Value} {ns : List Int} {n : Nat} {h : Heap} {tk : Nat} (h1 : IntsAre ws ns) (h2 : 0 < ns.length) (h3 : ns.length ≤ b) (F : Fr h₀ L h m) (N : News h₀ L h ((D, W.listOf ws.toArray n) :: q :: news)) :
    LstPost b h₀ L m s news (.ref D) { s with heap := h, toks := tk } := ⟨D, ws, ns, n, h, tk, rfl, rfl, h1, List.ne_nil_of_length_pos h2, h3, F, fun p hp => N p (by
      rcases List.mem_cons.mp hp with rfl | hp
      · exact List.mem_cons_self ..
      · exact List.mem_cons_of_mem _ (List.mem_cons_of_mem _ hp))⟩
theorem ints2 {a b : Int} {t u : Tok} : IntsAre [.int a t, .int b u] [a, b] := .cons _ _ (.cons _ _ .nil)
theorem ints3 {a b c : Int} {t u v : Tok} : IntsAre [.int a t, .int b u, .int c v] [a, b, c] := .cons _ _ (.cons _ _ (.cons _ _ .nil))
theorem LstPost.lit2 {D : Addr} {q : Addr × Obj} {a b : Int} {t u : Tok} {n : Nat} {h : Heap} {tk : Nat} (F : Fr h₀ L h m) (N : News h₀ L h ((D, W.listOf [Value.int a t, Value.int b u].toArray n) :: q :: news)) : LstPost 4 h₀ L m s news (.ref D) { s with heap := h, toks := tk } :=
  LstPost.two ints2 (Nat.zero_lt_succ _) (Nat.le_of_ble_eq_true rfl) F N
theorem LstPost.lit3 {D : Addr} {q : Addr × Obj} {a b c : Int} {t u v : Tok} {n : Nat} {h : Heap} {tk : Nat} (F : Fr h₀ L h m) (N : News h₀ L h ((D, W.listOf [Value.int a t, Value.int b u, Value.int c v].toArray n) :: q :: news)) : LstPost 9 h₀ L m s news (.ref D) { s with heap := h, toks := tk } :=
  LstPost.two ints3 (Nat.zero_lt_succ _) (Nat.le_of_ble_eq_true rfl) F N
theorem cut_list {Q : Value → Shared → Prop} (b : Nat) (F : Fr h₀ L s.heap m) (N : News h₀ L s.heap news) (h1 : wpAny M A (eval e env) (LstPost b h₀ L m s news) E s)
    (h2 : ∀ D ws ns n h tk, IntsAre ws ns → ns ≠ [] → ns.length ≤ b → Fr h₀ L h m → News h₀ L h ((D, W.listOf ws.toArray n) :: news) → Q (.ref D) { s with heap := h, toks := tk }) : wpAny M A (eval e env) Q E s :=
  wpAny_mono h1 (by rintro v s' ⟨D, ws, ns, n, h, tk, rfl, rfl, h1, h2', h3, F', N'⟩; exact h2 D ws ns n h tk h1 h2' h3 F' N') fun _ _ e => e
end
theorem body_small {b : List Nat} (h : b ∈ bodiesL) : ∀ c ∈ b, c < 1114112 := by
  have e : (bodiesL.all fun b => b.all fun c => decide (c < 1114112)) = true := by decide +kernel
  intro c hc
  exact of_decide_eq_true (List.all_eq_true.mp (List.all_eq_true.mp e b h) c hc)
theorem RowOk.firstOk {k : Nat} {x y : Str} {s : Int} (h : RowOk k x) (hy : y = txt (firstL s x.cps.toList)) : PyData.strOk y = true := by
  subst hy
  have hb := body_small h.drop
  have hs : ∀ n, ∀ c ∈ spaces n, c < 1114112 := fun n c hc => by rw [List.eq_of_mem_replicate hc]; decide
  have all : ∀ c ∈ firstL s x.cps.toList, c < 1114112 := by
    unfold firstL
    split
    · intro c hc; cases hc
    · split
      · intro c hc
        rcases List.mem_append.mp hc with hc | hc
        · rcases List.mem_append.mp hc with hc | hc
          · exact hs _ c hc
          · exact hb c hc
        · rw [List.mem_singleton.mp hc]; decide
      · intro c hc
        rcases List.mem_append.mp hc with hc | hc
        · exact hb c hc
        · rw [List.mem_singleton.mp hc]; decide
  unfold PyData.strOk txt
  rw [List.all_toArray]
  exact List.all_eq_true.mpr fun c hc => decide_eq_true (all c hc)
theorem pair_shaped {y : Str} (hy : PyData.strOk y = true) (j : Int) : SeqAt.shaped (.tuple [.str y, .int j]) = true := by simp [SeqAt.shaped, PyData.canLay0, PyData.canLayAll0, PyData.depth, PyData.depthAll, hy]
theorem ne_pair {k : Nat} {x : Str} {st : Int} {prog : Program} {w : World} {A : Around} {E : Value → Shared → Prop} {s : Shared} {h₀ : Heap} {L : Addr} {news : List (Addr × Obj)} {a b : Addr} {y : Str} {j : Int} {t u t' u' : Tok} {n1 n2 : Nat} {Q : Value → Shared → Prop} (N : News h₀ L s.heap news)
    (ha : (a, ({ cls := .type "tuple", data := .seq #[.str y t, .int j u] n1 } : Obj)) ∈ news) (hb : (b, ({ cls := .type "tuple", data := .seq #[.str y t', .int j u'] n2 } : Obj)) ∈ news) (hx : RowOk k x) (hy : y = txt (firstL st x.cps.toList)) (hu : A.units + 64 < cLine) (h : Q (.bool false) s) :
    wpAny (model prog w) A (compareOp .NotEq (.ref a) (.ref b)) Q E s := by
  refine ne_dataH (da := .tuple [.str y, .int j]) (db := .tuple [.str y, .int j]) (reads_tuple_at (News.get N ha) rfl rfl (ReadsAll.cons (Reads.str _ _) (ReadsAll.cons (Reads.int _ _) ReadsAll.nil))) (reads_tuple_at (News.get N hb) rfl rfl (ReadsAll.cons (Reads.str _ _) (ReadsAll.cons (Reads.int _ _) ReadsAll.nil))) (pair_shaped (hx.firstOk hy) j) (pair_shaped (hx.firstOk hy) j) hu ?_
  rw [show (!PyData.eqv (.tuple [.str y, .int j]) (.tuple [.str y, .int j])) = false by simp [PyData.eqv, PyData.eqvAll]]
  exact h
/-- the rows made so far -/
def RowsJ (i : Nat) (ys : List Value) : Prop := ∃ rs, StrsAre ys rs ∧ rs.length = i ∧ ∀ r ∈ rs, RowOk 4 r
theorem RowsJ.zero : RowsJ 0 [] := ⟨[], .nil, rfl, fun r hr => nomatch hr⟩
theorem RowsJ.step {i : Nat} {ys : List Value} {x y : Str} {t : Tok} (h : RowsJ i ys) (h1 : Lead 4 x) (h2 : Body y) : RowsJ (i + 1) (ys ++ [.str (x ++ y) t]) := by
  obtain ⟨rs, hs, hl, hr⟩ := h
  refine ⟨rs ++ [x ++ y], strs_end hs rfl, by rw [List.length_append, hl]; rfl, fun r hm => ?_⟩
  rcases List.mem_append.mp hm with hm | hm
  · exact hr r hm
  · rw [List.mem_singleton.mp hm]; exact .mk h1 h2
/-- a text for each row made so far -/
def MapJ (f : Str → Str) (rs : List Str) (i : Nat) (ys : List Value) : Prop := StrsAre ys ((rs.take i).map f)
theorem MapJ.zero (f : Str → Str) (rs : List Str) : MapJ f rs 0 [] := StrsAre.nil
theorem MapJ.step {f : Str → Str} {rs : List Str} {i : Nat} {ys : List Value} {x y : Str} {t : Tok} (h : MapJ f rs i ys) (hx : rs[i]? = some x) (hy : y = f x) : MapJ f rs (i + 1) (ys ++ [.str y t]) := by
  unfold MapJ
  rw [List.take_add_one, hx, List.map_append]
  exact strs_end h hy
theorem MapJ.all {f : Str → Str} {rs : List Str} {us ys : List Value} (hu : StrsAre us rs) (h : MapJ f rs us.toArray.size ys) : StrsAre ys (rs.map f) := by
  unfold MapJ at h
  rw [List.size_toArray, hu.length, List.take_length] at h
  exact h
theorem ints_at {us : List Value} {ns : List Int} {i : Nat} {v : Value} (h : IntsAre us ns) (hv : us.toArray[i]? = some v) : ∃ k t, v = .int k t := by
  have hv' : us[i]? = some v := by simpa using hv
  have hi : i < ns.length := by rw [← h.length]; exact (List.getElem?_eq_some_iff.mp hv').1
  obtain ⟨t, ht⟩ := h.get i ns[i] (List.getElem?_eq_getElem hi)
  exact ⟨ns[i], t, by rw [hv'] at ht; exact Option.some.inj ht⟩
theorem strs_at' {us : List Value} {ls : List Str} {i : Nat} {v : Value} (h : StrsAre us ls) (hv : us.toArray[i]? = some v) : ∃ y t, ls[i]? = some y ∧ v = .str y t := strs_at h (by simpa using hv)
theorem cend_drop {h₀ : Heap} {L : Addr} {m : Str → Option Value} {s : Shared} {X : List (Addr × Obj)} {q : Addr × Obj} {h : Heap} {tk : Nat} (F : Fr h₀ L h m) (N : News h₀ L h (q :: X)) : CEnd h₀ L m s X { s with heap := h, toks := tk } :=
  ⟨h, tk, rfl, F, fun p hp => N p (List.mem_cons_of_mem _ hp)⟩
theorem idx_lt {k : Int} (h : (k.fdiv 1458).fmod 7 < 6) : 0 ≤ 1 + (k.fdiv 1458).fmod 7 ∧ 1 + (k.fdiv 1458).fmod 7 < 7 := by
  rw [Int.fmod_eq_emod_of_nonneg _ (by decide)] at *; omega
theorem idx_mod (k : Int) : 0 ≤ k.fmod 7 ∧ k.fmod 7 < 7 := by
  rw [Int.fmod_eq_emod_of_nonneg _ (by decide)]; omega
theorem idx_two (k : Int) : 0 ≤ (k.fdiv 9).fmod 2 ∧ (k.fdiv 9).fmod 2 < 2 := by
  rw [Int.fmod_eq_emod_of_nonneg _ (by decide)]; omega
theorem start_in (k : Int) : 1 ≤ 1 + k.fmod 9 ∧ 1 + k.fmod 9 ≤ 9 := by
  rw [Int.fmod_eq_emod_of_nonneg _ (by decide)]; omega
theorem row5 {a b c : Str} (h1 : Lead 1 a) (h2 : Lead 4 b) (h3 : Body c) : RowOk 5 (a ++ b ++ c) := RowOk.mk (k := 5) (Lead.app (a := 1) (b := 4) h1 h2) h3
theorem lead_two : ∀ y ∈ [Str.ofString " ", Str.ofString "\t"], Lead 1 y := fun y hy => lead_items y (List.mem_cons_of_mem _ hy)
end Mine
end

section
open PySem PySem.W PySem.Calls PyProof.Rows PyProof.V PySem.Spec PyProof.Rows.LCg
namespace Mine
theorem Claim.up {w : World} {f : Addr} {c c' : Nat} {news : List (Addr × Obj)} {vs : List Value} {Post : Value → List (Addr × Obj) → Prop} (h : c ≤ c') (C : Claim w f c news vs Post) : Claim w f c' news vs Post := by
  intro dp un gd cn cs a ccd cl outer A₀ base h₀ L m s Q E mean mg mb B F X N T hk hd hu hret
  exact C dp un gd cn cs a ccd cl outer A₀ base h₀ L m s Q E mean mg mb B F X N T hk (by omega) (by omega) hret
theorem Claim.mem {w : World} {f : Addr} {c : Nat} {q : Addr × Obj} {nx : List (Addr × Obj)} {vs : List Value} {z : Str} {b : Nat} (hm : q ∈ nx) (C : Claim w f c (q :: nx) vs (GivesStr z b (q :: nx))) : Claim w f c nx vs (GivesStr z b nx) := by
  intro dp un gd cn cs a ccd cl outer A₀ base h₀ L m s Q E mean mg mb B F X N T hk hd hu hret
  refine C dp un gd cn cs a ccd cl outer A₀ base h₀ L m s Q E mean mg mb B F X (fun p hp => ?_) T hk hd hu fun v n' h' tk' hp F' N' => ?_
  · rcases List.mem_cons.mp hp with rfl | hp
    · exact N _ hm
    · exact N p hp
  · obtain ⟨h1, rfl⟩ := hp
    exact hret v nx h' tk' ⟨h1, rfl⟩ F' fun p hp => N' p (List.mem_cons_of_mem _ hp)
/-- a row's tokens, ready to be changed -/
theorem row_after {w : World} {n9 : List (Addr × Obj)} {ns : List Int} {us : List Value} {B : List Addr} (hR : Row w n9 ns us B) (hB : B.Nodup) (hne : ns ≠ []) (hl : ns.length ≤ 4) :
    ∃ a d S R, us = [.ref a] ∧ d ≤ 3 ∧ Tf w n9 d (.tok a) S R ∧ S.Nodup ∧ (∀ b ∈ S, b ∉ R) ∧ ∀ ny, Keep S n9 ny → Done w S ny → Shows w ny (2 * ns.length + 4) us (dueL ns true) := by
  cases ns with
  | nil => exact absurd rfl hne
  | cons n r =>
    obtain ⟨a, hu, S, R, hT, hnd, hSR, hSA, hRA, hrun⟩ := hR.tok hB
    exact ⟨a, r.length, S, R, hu, by simp at hl; omega, hT, hnd, hSR, fun ny hk hD => hrun ny (fun p hp _ hS => hk p hp hS) hD⟩
theorem Tf.dict {w : World} {nx : List (Addr × Obj)} {d : Nat} {x : What} {S R : List Addr} (h : Tf w nx d x S R) : ∀ b ∈ S, ∃ o t, (b, o) ∈ nx ∧ DictO w o [(kTy, .str sPar t)] := by
  induction h with
  | nil d => intro b hb; cases hb
  | par h1 h2 _ ih => intro b hb; rcases List.mem_cons.mp hb with rfl | hb; exact ⟨_, _, h1, h2⟩; exact ih b hb
  | oth h1 h2 h3 h4 h5 _ ih => exact ih
  | lst h1 h2 h3 _ _ ih1 ih2 => intro b hb; rcases List.mem_append.mp hb with hb | hb; exact ih1 b hb; exact ih2 b hb
  | inil d => intro b hb; cases hb
  | item h1 h2 h3 h4 _ _ ih1 ih2 => intro b hb; rcases List.mem_append.mp hb with hb | hb; exact ih1 b hb; exact ih2 b hb
  | loose h1 h2 h3 => intro b hb; cases hb
  | tight h1 h2 h3 h4 h5 _ ih => exact ih
theorem list_notin {w : World} {h₀ h : Heap} {L : Addr} {nx : List (Addr × Obj)} {d : Nat} {x : What} {S R : List Addr} {c : Addr} {vs : Array Value} {k : Nat} (hT : Tf w nx d x S R) (N : News h₀ L h nx) (hm : (c, W.listOf vs k) ∈ nx) : c ∉ S := by
  intro hc
  obtain ⟨o, t, ho, hD⟩ := hT.dict c hc
  have e : o = W.listOf vs k := by
    have h1 := (N _ ho).1
    have h2 := (N _ hm).1
    exact Option.some.inj (h1.symm.trans h2)
  subst e
  obtain ⟨es, ep, q1, q2, q3⟩ := hD
  cases q2
theorem eq_same {prog : Program} {w : World} {A : Around} {E : Value → Shared → Prop} {s : Shared} {x y : Str} {t u : Tok} {Q : Value → Shared → Prop} (e : x = y) (h : Q (.bool true) s) : wpAny (model prog w) A (compareOp .Eq (.str x t) (.str y u)) Q E s := by
  subst e
  refine PyProof.Rows.eq_str ?_
  rw [beq_self_eq_true]; exact h
theorem ne_same {prog : Program} {w : World} {A : Around} {E : Value → Shared → Prop} {s : Shared} {x y : Str} {t u : Tok} {Q : Value → Shared → Prop} (e : x = y) (h : Q (.bool false) s) : wpAny (model prog w) A (compareOp .NotEq (.str x t) (.str y u)) Q E s := by
  subst e
  refine PyProof.Rows.ne_str ?_
  rw [show (x != x) = false by simp]; exact h
theorem firstW_in {s j : Int} {l : List Nat} (h1 : 1 ≤ s) (h2 : s ≤ 9) (e : j = firstW s l) : 1 ≤ j ∧ j ≤ 13 := by
  subst e
  have := wid_ge' (c := s) (l := l)
  unfold firstW
  split
  · omega
  · split <;> omega
theorem sum_small : ∀ {ts : List Str}, (∀ y ∈ ts, y.length ≤ 36) → (ts.map (·.length)).sum ≤ 36 * ts.length
  | [], _ => by simp
  | a :: r, h => by
    have := sum_small (ts := r) fun y hy => h y (List.mem_cons_of_mem _ hy)
    have := h a (List.mem_cons_self ..)
    simp only [List.map_cons, List.sum_cons, List.length_cons]
    omega
theorem join_small {ts : List Str} (h : ∀ y ∈ ts, y.length ≤ 36) (hl : ts.length ≤ 9) : (Txt.join (Str.ofString "") ts).length ≤ 324 := by
  rw [len_L, join_empty_L, List.length_flatMap]
  have e : (ts.map fun x => x.cps.toList.length) = ts.map (·.length) := by
    apply List.map_congr_left; intro x _; rw [len_L]
  rw [e]
  have := sum_small h
  omega
theorem weight_small {ts : List Str} (h : ∀ y ∈ ts, y.length ≤ 36) (hl : ts.length ≤ 9) : (ts.map (·.length)).sum + ts.length ≤ 1048576 := by
  have := sum_small h
  omega
abbrev rowF (y : Str) : Str := y ++ Str.ofString "\n"
abbrev dueF (j : Int) (y : Str) : Str := txt (lineL j y.cps.toList) ++ Str.ofString "\n"
theorem nl_len : (Str.ofString "\n").length = 1 := by decide +kernel
theorem rowF_small {rs : List Str} (h : ∀ r ∈ rs, RowOk 4 r) : ∀ y ∈ rs.map rowF, y.length ≤ 36 := by
  intro y hy
  obtain ⟨r, hr, rfl⟩ := List.mem_map.mp hy
  have := (h r hr).len
  have := nl_len
  show (r ++ Str.ofString "\n").length ≤ 36
  rw [Str.length_append]; omega
theorem dueF_small {j : Int} (hj : 0 ≤ j) {rs : List Str} (h : ∀ r ∈ rs, RowOk 4 r) : ∀ y ∈ rs.map (dueF j), y.length ≤ 36 := by
  intro y hy
  obtain ⟨r, hr, rfl⟩ := List.mem_map.mp hy
  have := (h r hr).len
  have := nl_len
  have := lineL_len j hj r
  show (txt (lineL j r.cps.toList) ++ Str.ofString "\n").length ≤ 36
  rw [Str.length_append]; omega
section
variable {prog : Program} {w : World} {A : Around} {E : Value → Shared → Prop} {s : Shared} {h₀ : Heap} {L : Addr} {m : Str → Option Value} {env : Env}
theorem comp_rows {elt : Expr} {x : Str} {scope : Scope} {cl : List (Str × Addr)} {ax : Addr} {us : List Value} {ns : List Int} {news : List (Addr × Obj)} {Fin : List Value → List (Addr × Obj) → Prop} (hu : IntsAre us ns)
    (hS : SrcAt h₀ ax us.toArray news)
    (turn : ∀ i ys k t C oC m₂ h tk own E', RowsJ i ys → NsObj oC m₂ → m₂ x = some (.int k t) → Fr h₀ L h m → News h₀ L h ((C, oC) :: (news ++ own)) →
      wpAny (model prog w) A (eval elt (compEnvC scope cl C env)) (fun y s₂ => RowsJ (i + 1) (ys ++ [y]) ∧ CEnd h₀ L m { s with heap := h, toks := tk } ((C, oC) :: (news ++ own)) s₂) E' { s with heap := h, toks := tk })
    (fin : ∀ ys rs, StrsAre ys rs → rs.length = ns.length → (∀ r ∈ rs, RowOk 4 r) → Fin ys news) : CompRest prog w A h₀ L m env elt x scope cl s (SrcAt h₀ ax us.toArray) (fun i v => us.toArray[i]? = some v) Fin us.toArray.size 0 [] news := by
  refine comp_rest RowsJ hS ?_ ?_ _ 0 [] (Nat.zero_add _) RowsJ.zero
  · intro i ys v C oC m₂ h tk own E' hJ hv hC hx F N
    obtain ⟨k, t, rfl⟩ := ints_at hu hv
    exact turn i ys k t C oC m₂ h tk own E' hJ hC hx F N
  · rintro ys ⟨rs, hs, hl, hr⟩
    exact fin ys rs hs (by rw [hl, List.size_toArray, hu.length]) hr
theorem comp_map {elt : Expr} {x : Str} {scope : Scope} {cl : List (Str × Addr)} {ax : Addr} {us : List Value} {rs : List Str} {news : List (Addr × Obj)} {Fin : List Value → List (Addr × Obj) → Prop} (f : Str → Str) (hu : StrsAre us rs)
    (hS : SrcAt h₀ ax us.toArray news)
    (turn : ∀ i ys r t C oC m₂ h tk own E', MapJ f rs i ys → rs[i]? = some r → NsObj oC m₂ → m₂ x = some (.str r t) → Fr h₀ L h m → News h₀ L h ((C, oC) :: (news ++ own)) →
      wpAny (model prog w) A (eval elt (compEnvC scope cl C env)) (fun y s₂ => MapJ f rs (i + 1) (ys ++ [y]) ∧ CEnd h₀ L m { s with heap := h, toks := tk } ((C, oC) :: (news ++ own)) s₂) E' { s with heap := h, toks := tk })
    (fin : ∀ ys, StrsAre ys (rs.map f) → Fin ys news) : CompRest prog w A h₀ L m env elt x scope cl s (SrcAt h₀ ax us.toArray) (fun i v => us.toArray[i]? = some v) Fin us.toArray.size 0 [] news := by
  refine comp_rest (MapJ f rs) hS ?_ ?_ _ 0 [] (Nat.zero_add _) (MapJ.zero f rs)
  · intro i ys v C oC m₂ h tk own E' hJ hv hC hx F N
    obtain ⟨y, t, hy, rfl⟩ := strs_at' hu hv
    exact turn i ys y t C oC m₂ h tk own E' hJ hy hC hx F N
  · intro ys hJ
    exact fin ys (hJ.all hu)
end
theorem size_ok {us : List Value} {k : Nat} (h : us.length = k) (hk : k ≤ 9) : us.toArray.size ≤ sizeLine := by
  rw [List.size_toArray, h, PySem.sizeLine_eq]; omega
theorem comp_due {prog : Program} {w : World} {A : Around} {s : Shared} {h₀ : Heap} {L : Addr} {m : Str → Option Value} {env : Env} {elt : Expr} {x : Str} {scope : Scope} {cl : List (Str × Addr)} {ax : Addr} {us : List Value} {rs : List Str} {news : List (Addr × Obj)} {Fin : List Value → List (Addr × Obj) → Prop} {j : Int} (hj : 1 ≤ j ∧ j ≤ 13) (hu : StrsAre us rs)
    (hS : SrcAt h₀ ax us.toArray news)
    (turn : ∀ i ys r t C oC m₂ h tk own E', MapJ (dueF j) rs i ys → rs[i]? = some r → NsObj oC m₂ → m₂ x = some (.str r t) → Fr h₀ L h m → News h₀ L h ((C, oC) :: (news ++ own)) →
      wpAny (model prog w) A (eval elt (compEnvC scope cl C env)) (fun y s₂ => MapJ (dueF j) rs (i + 1) (ys ++ [y]) ∧ CEnd h₀ L m { s with heap := h, toks := tk } ((C, oC) :: (news ++ own)) s₂) E' { s with heap := h, toks := tk })
    (fin : ∀ ys, StrsAre ys (rs.map (dueF j)) → Fin ys news) : CompRest prog w A h₀ L m env elt x scope cl s (SrcAt h₀ ax us.toArray) (fun i v => us.toArray[i]? = some v) Fin us.toArray.size 0 [] news :=
  comp_map (dueF j) hu hS turn fin
def RowsAll (rs : List Str) : Prop := (∀ r ∈ rs, RowOk 4 r) ∧ rs.length ≤ 9
theorem RowsAll.mk' {rs : List Str} {ns : List Int} (h : ∀ r ∈ rs, RowOk 4 r) (e : rs.length = ns.length) (hl : ns.length ≤ 9) : RowsAll rs := ⟨h, e ▸ hl⟩
theorem RowsAll.len {rs : List Str} {r : Str} {i : Nat} (h : RowsAll rs) (hi : rs[i]? = some r) : r.length ≤ 7 := (h.1 r (List.mem_of_getElem? hi)).len
theorem RowsAll.size {rs : List Str} {us : List Value} (h : RowsAll rs) (hu : StrsAre us rs) : us.toArray.size ≤ sizeLine := size_ok hu.length h.2
theorem RowsAll.w1 {rs : List Str} (h : RowsAll rs) : ((rs.map rowF).map (·.length)).sum + (rs.map rowF).length ≤ 1048576 := weight_small (rowF_small h.1) (by rw [List.length_map]; exact h.2)
theorem RowsAll.w2 {rs : List Str} {j : Int} (h : RowsAll rs) (hj : 1 ≤ j ∧ j ≤ 13) : ((rs.map (dueF j)).map (·.length)).sum + (rs.map (dueF j)).length ≤ 1048576 := weight_small (dueF_small (by omega) h.1) (by rw [List.length_map]; exact h.2)
theorem RowsAll.j1 {rs : List Str} (h : RowsAll rs) : (Txt.join (Str.ofString "") (rs.map rowF)).length ≤ 324 := join_small (rowF_small h.1) (by rw [List.length_map]; exact h.2)
theorem RowsAll.j2 {rs : List Str} {j : Int} (h : RowsAll rs) (hj : 1 ≤ j ∧ j ≤ 13) : (Txt.join (Str.ofString "") (rs.map (dueF j))).length ≤ 324 := join_small (dueF_small (by omega) h.1) (by rw [List.length_map]; exact h.2)
theorem dueF_eq {j : Int} {r y : Str} (h : y = txt (lineL j r.cps.toList)) : y ++ Str.ofString "\n" = dueF j r := by subst h; rfl
theorem law_fin {rs : List Str} {text y9 z z' : Str} {s k : Int} (hA : RowsAll rs) (ht : RowOk 5 text) (hf : y9 = txt (firstL s text.cps.toList)) (hw : 1 ≤ k ∧ k ≤ 13)
    (h1 : StripRel (y9.cps.toList ++ cleanL k (Txt.join (Str.ofString "") (rs.map rowF)).cps.toList) z.cps.toList) (h2 : EndRel (y9 ++ Txt.join (Str.ofString "") (rs.map (dueF k))).cps.toList z'.cps.toList) : z = z' :=
  law_eq (first := y9) (source := Txt.join (Str.ofString "") (rs.map rowF)) (T := y9 ++ Txt.join (Str.ofString "") (rs.map (dueF k))) ht (by rw [hf]; rfl) hA.1 (join_rows rs) (by omega) (by rw [app_L, join_due]) h1 h2
/-- the row's tokens, made, with what stands to be changed -/
structure After (w : World) (nx : List (Addr × Obj)) (ns : List Int) (ws : List Value) (k : Nat) (r c a : Addr) (d : Nat) (S R : List Addr) : Prop where
  mem : (c, W.listOf [Value.ref a].toArray 0) ∈ nx
  row : (r, W.listOf ws.toArray k) ∈ nx
  hd : d ≤ 3
  hl : ns.length ≤ 4
  tf : Tf w nx d (.tok a) S R
  nd : S.Nodup
  sr : ∀ b ∈ S, b ∉ R
  off : c ∉ S
  offr : r ∉ S
  run : ∀ ny, Keep S nx ny → Done w S ny → Shows w ny (2 * ns.length + 4) [.ref a] (dueL ns true)
theorem after_of {w : World} {h₀ h : Heap} {L : Addr} {n9 rest : List (Addr × Obj)} {ns : List Int} {ws us : List Value} {k : Nat} {r c : Addr} {B : List Addr} (N : News h₀ L h n9) (hb : ∀ p ∈ (r, W.listOf ws.toArray k) :: rest, p ∈ n9)
    (hc : (c, W.listOf us.toArray 0) ∈ n9) (hR : Row w n9 ns us B) (hB : B.Nodup) (hne : ns ≠ []) (hl : ns.length ≤ 4) : ∃ a d S R, us = [.ref a] ∧ After w n9 ns ws k r c a d S R := by
  obtain ⟨a, d, S, R, rfl, hd, hT, hnd, hSR, hrun⟩ := row_after hR hB hne hl
  have hr := hb _ (List.mem_cons_self ..)
  exact ⟨a, d, S, R, rfl, hc, hr, hd, hl, hT, hnd, hSR, list_notin hT N hc, list_notin hT N hr, hrun⟩
theorem item_head {prog : Program} {w : World} {A : Around} {E : Value → Shared → Prop} {s : Shared} {h₀ : Heap} {L : Addr} {nx : List (Addr × Obj)} {value slice : PySem.Expr} {l a : Addr} {k : Nat} {u : Tok} {Q : Value → Shared → Prop} (N : News h₀ L s.heap nx) (hm : (l, W.listOf [Value.ref a].toArray k) ∈ nx) (h : Q (.ref a) s)
    (hs : subscripted slice false (.ref l) (.int 0 u) = operate [.ref l, .int 0 u] (getItem (.ref l) (.int 0 u)) := by with_unfolding_all rfl) (hg : ∀ r, letTemporaryGo value (.ref l) r = pure () := by intro _; with_unfolding_all rfl) :
    wpAny (model prog w) A (subscriptTail value slice (.ref l) (.int 0 u)) Q E s :=
  item_listL ⟨_, (N _ hm).1, rfl, _, rfl⟩ (by decide) (by decide) rfl h hs hg
end Mine
end

section
open PySem PySem.W PyProof.Rows
set_option maxRecDepth 100000
set_option maxHeartbeats 8000000
namespace Mine
local macro_rules | `(tactic| walk_at "mine pad 0") => `(tactic| skip)
local macro_rules | `(tactic| walk_at "mine pad 1") => `(tactic| skip)
local macro_rules | `(tactic| walk_at "mine pad 2") => `(tactic| skip)
local macro_rules | `(tactic| walk_at "mine pad 3") => `(tactic| skip)
local macro_rules | `(tactic| walk_at "mine pad 4") => `(tactic| skip)
local macro_rules | `(tactic| walk_at "mine pad 5") => `(tactic| skip)
local macro_rules | `(tactic| walk_at "mine pad 6") => `(tactic| skip)
theorem ci0 : AllB [] ∧ (0 : Int) = wid 0 (([] : List Int).map Int.toNat) := ⟨.nil, rfl⟩
theorem ci1 {pre : List Int} {n : Nat} {col c₀ : Int} (h : AllB pre) (e : col = wid c₀ (pre.map Int.toNat)) (q : (({ cps := #[n] } : Str) == Str.ofString " ") = true) :
    AllB (pre ++ [(n : Int)]) ∧ col + 1 = wid c₀ ((pre ++ [(n : Int)]).map Int.toNat) := by
  have := eq_space q; subst this
  refine ⟨h.snoc rfl, ?_⟩
  rw [List.map_append, List.map_singleton, Int.toNat_natCast, wid_snoc h rfl, ← e]; rfl
theorem ci2 {pre : List Int} {n : Nat} {col c₀ : Int} (h : AllB pre) (e : col = wid c₀ (pre.map Int.toNat)) (q : (({ cps := #[n] } : Str) == Str.ofString "\t") = true) :
    AllB (pre ++ [(n : Int)]) ∧ col + (4 - col.fmod 4) = wid c₀ ((pre ++ [(n : Int)]).map Int.toNat) := by
  have := eq_tab q; subst this
  refine ⟨h.snoc rfl, ?_⟩
  rw [List.map_append, List.map_singleton, Int.toNat_natCast, wid_snoc h rfl, ← e, Int.fmod_eq_emod_of_nonneg _ (by decide)]; rfl
theorem ci_stop {x : Str} {pre post : List Int} {n : Nat} {col c₀ : Int} (c : KStt.codes x = pre ++ (n : Int) :: post) (h : AllB pre) (e : col = wid c₀ (pre.map Int.toNat))
    (q1 : (({ cps := #[n] } : Str) == Str.ofString " ") = false) (q2 : (({ cps := #[n] } : Str) == Str.ofString "\t") = false) : col = wid c₀ x.cps.toList := by
  rw [← codes_toNat, c, List.map_append, List.map_cons, Int.toNat_natCast, wid_stop h (not_isB (ne_space q1) (ne_tab q2)), e]
theorem ci_all {x : Str} {col c₀ : Int} (e : col = wid c₀ ((KStt.codes x).map Int.toNat)) : col = wid c₀ x.cps.toList := by
  rw [← codes_toNat]; exact e

local macro_rules | `(tactic| walk_at "mine news") => `(tactic| first | k_asm | (refine' cb_drop ?cbN ?cbS; (case cbN => assumption); (case cbS => kcj_all)))
local macro_rules | `(tactic| walk_at "mine fill") => `(tactic| (
  have key : PySem.Challenge.rw_ci0011_01 = PySem.Challenge.rw_ci0011_01 ∧ hd.heap_39 = hd.heap_39 := ⟨rfl, rfl⟩
  revert key
  k_fill
  intro _))

theorem count_indent (w : World) (news : List (Addr × Obj)) (x : Str) (t : Tok) :
    Claim w 100 1 news [.str x t] (fun v n' => (∃ t', v = .int (wid 0 x.cps.toList) t') ∧ n' = news) := by
  walk_at "mine fill"
  intro dp un gd cn cs a ccd cl outer A₀ base h₀ L m s Q E mean mg mb B F X N T hk hd hu hret
  refine wpAny_call ?_
  k_dflt cell_enter
  w_top off
  k_with_none
  k_with "pyIter str" => k_state (fun pre col => AllB pre ∧ col = wid 0 (pre.map Int.toNat)) "column"
  k_with "state" => first | exact ci0 | exact ci1 (by assumption) (by assumption) (by assumption) | exact ci2 (by assumption) (by assumption) (by assumption)
  k_steps
  · exact hret _ news _ _ ⟨⟨_, congrArg (Value.int · _) (ci_stop (by assumption) (by assumption) (by assumption) (by assumption) (by assumption))⟩, rfl⟩ (by k_asm) (by walk_at "mine news")
  · exact hret _ news _ _ ⟨⟨_, congrArg (Value.int · _) (ci_all (by assumption))⟩, rfl⟩ (by k_asm) (by walk_at "mine news")
end Mine
end

section
open PySem PySem.W PyProof.Rows
set_option maxRecDepth 100000
set_option maxHeartbeats 8000000
namespace Mine
local macro_rules | `(tactic| walk_at "mine pad 0") => `(tactic| skip)
local macro_rules | `(tactic| walk_at "mine pad 1") => `(tactic| skip)
local macro_rules | `(tactic| walk_at "mine pad 2") => `(tactic| skip)
local macro_rules | `(tactic| walk_at "mine pad 3") => `(tactic| skip)
local macro_rules | `(tactic| walk_at "mine pad 4") => `(tactic| skip)
local macro_rules | `(tactic| walk_at "mine pad 5") => `(tactic| skip)
local macro_rules | `(tactic| walk_at "mine pad 6") => `(tactic| skip)
local macro_rules | `(tactic| walk_at "mine pad 7") => `(tactic| skip)
local macro_rules | `(tactic| walk_at "mine pad 8") => `(tactic| skip)
local macro_rules | `(tactic| walk_at "mine pad 9") => `(tactic| skip)
local macro_rules | `(tactic| walk_at "mine pad 10") => `(tactic| skip)
local macro_rules | `(tactic| walk_at "mine pad 11") => `(tactic| skip)
local macro_rules | `(tactic| walk_at "mine pad 12") => `(tactic| skip)
local macro_rules | `(tactic| walk_at "mine pad 13") => `(tactic| skip)
local macro_rules | `(tactic| walk_at "mine news") => `(tactic| first | k_asm | (refine' cb_drop ?cbN ?cbS; (case cbN => assumption); (case cbS => kcj_all)))
local macro_rules | `(tactic| walk_at "mine fill") => `(tactic| (
  have key : PySem.Challenge.rw_ci0011_01 = PySem.Challenge.rw_ci0011_01 ∧ hd.heap_39 = hd.heap_39 := ⟨rfl, rfl⟩
  revert key
  k_fill
  intro _))

theorem hi0 {k : Int} (h : 0 < k) : AllB [] ∧ (0 : Int) = wid 0 (([] : List Int).map Int.toNat) ∧ 0 < k := ⟨.nil, rfl, h⟩
theorem hi_mid {x : Str} {pre post : List Int} {n : Nat} {col c₀ : Int} (c : KStt.codes x = pre ++ (n : Int) :: post) (h0 : 0 ≤ col)
    (h : AllB (pre ++ [(n : Int)]) ∧ col = wid c₀ ((pre ++ [(n : Int)]).map Int.toNat)) : col ≤ wid c₀ x.cps.toList := by
  obtain ⟨h1, h2⟩ := h
  have e : x.cps.toList = (pre ++ [(n : Int)]).map Int.toNat ++ post.map Int.toNat := by
    rw [← codes_toNat, c]; simp
  rw [e, wid_append h1, ← h2]
  exact wid_ge h0
theorem ci_pos {pre : List Int} {col : Int} (e : col = wid 0 (pre.map Int.toNat)) : 0 ≤ col := e ▸ wid_ge (by decide)
theorem hi_yes {a b c : Int} (h1 : a ≤ b) (h2 : b ≤ c) : true = decide (a ≤ c) := (decide_eq_true (by omega)).symm
theorem hi_no {a b c : Int} (h1 : b < a) (h2 : b = c) : false = decide (a ≤ c) := (decide_eq_false (by omega)).symm
theorem tab_pos {c : Int} (h : 0 ≤ c) : 0 ≤ c + (4 - c.fmod 4) := by rw [Int.fmod_eq_emod_of_nonneg _ (by decide)]; omega

theorem has_indent (w : World) (news : List (Addr × Obj)) (x : Str) (t : Tok) (k : Int) (u : Tok) (hk0 : 0 < k) :
    Claim w 78 1 news [.str x t, .int k u] (fun v n' => v = .bool (decide (k ≤ wid 0 x.cps.toList)) ∧ n' = news) := by
  walk_at "mine fill"
  intro dp un gd cn cs a ccd cl outer A₀ base h₀ L m s Q E mean mg mb B F X N T hk hd hu hret
  refine wpAny_call ?_
  k_dflt cell_enter
  w_top off
  k_with_none
  k_with "pyIter str" => k_state (fun pre col => AllB pre ∧ col = wid 0 (pre.map Int.toNat) ∧ col < k) "width"
  k_with "state" => first
    | exact hi0 (by assumption)
    | exact and_assoc.mp ⟨ci1 (by assumption) (by assumption) (by assumption), by omega⟩
    | exact and_assoc.mp ⟨ci2 (by assumption) (by assumption) (by assumption), by omega⟩
  k_steps
  · exact hret _ news _ _ ⟨congrArg Value.bool (hi_yes (by assumption) (hi_mid (by assumption) (Int.add_nonneg (ci_pos (by assumption)) (by decide)) (ci1 (by assumption) (by assumption) (by assumption)))), rfl⟩ (by k_asm) (by walk_at "mine news")
  · exact hret _ news _ _ ⟨congrArg Value.bool (hi_yes (by assumption) (hi_mid (by assumption) (tab_pos (ci_pos (by assumption))) (ci2 (by assumption) (by assumption) (by assumption)))), rfl⟩ (by k_asm) (by walk_at "mine news")
  · exact hret _ news _ _ ⟨congrArg Value.bool (hi_no (by assumption) (ci_stop (by assumption) (by assumption) (by assumption) (by assumption) (by assumption))), rfl⟩ (by k_asm) (by walk_at "mine news")
  · exact hret _ news _ _ ⟨congrArg Value.bool (hi_no (by assumption) (ci_all (by assumption))), rfl⟩ (by k_asm) (by walk_at "mine news")
end Mine
end

section
open PySem PySem.W PyProof.Rows
set_option maxRecDepth 100000
set_option maxHeartbeats 8000000
namespace Mine
local macro_rules | `(tactic| walk_at "mine pad 0") => `(tactic| skip)
local macro_rules | `(tactic| walk_at "mine pad 1") => `(tactic| skip)
local macro_rules | `(tactic| walk_at "mine pad 2") => `(tactic| skip)
local macro_rules | `(tactic| walk_at "mine pad 3") => `(tactic| skip)
local macro_rules | `(tactic| walk_at "mine pad 4") => `(tactic| skip)
local macro_rules | `(tactic| walk_at "mine pad 5") => `(tactic| skip)
local macro_rules | `(tactic| walk_at "mine pad 6") => `(tactic| skip)
local macro_rules | `(tactic| walk_at "mine pad 7") => `(tactic| skip)
local macro_rules | `(tactic| walk_at "mine pad 8") => `(tactic| skip)
local macro_rules | `(tactic| walk_at "mine pad 9") => `(tactic| skip)
local macro_rules | `(tactic| walk_at "mine pad 10") => `(tactic| skip)
local macro_rules | `(tactic| walk_at "mine pad 11") => `(tactic| skip)
local macro_rules | `(tactic| walk_at "mine pad 12") => `(tactic| skip)
local macro_rules | `(tactic| walk_at "mine pad 13") => `(tactic| skip)
local macro_rules | `(tactic| walk_at "mine pad 14") => `(tactic| skip)
local macro_rules | `(tactic| walk_at "mine pad 15") => `(tactic| skip)
local macro_rules | `(tactic| walk_at "mine pad 16") => `(tactic| skip)
local macro_rules | `(tactic| walk_at "mine pad 17") => `(tactic| skip)
local macro_rules | `(tactic| walk_at "mine pad 18") => `(tactic| skip)
local macro_rules | `(tactic| walk_at "mine pad 19") => `(tactic| skip)
local macro_rules | `(tactic| walk_at "mine pad 20") => `(tactic| skip)
local macro_rules | `(tactic| walk_at "mine news") => `(tactic| first | k_asm | (refine' cb_drop ?cbN ?cbS; (case cbN => assumption); (case cbS => kcj_all)))
local macro_rules | `(tactic| walk_at "mine fill") => `(tactic| (
  have key : PySem.Challenge.rw_ci0011_01 = PySem.Challenge.rw_ci0011_01 ∧ hd.heap_39 = hd.heap_39 := ⟨rfl, rfl⟩
  revert key
  k_fill
  intro _))
local macro_rules | `(tactic| walk_at "mine enter") => `(tactic| (
  refine' code_def ?k1 ?k2 ?k3 ?k4 ?k5 ?kA ?kF ?kK ?k6 ?k7 ?k8 ?k9 ?kB ?_ ?c2 ?c3 ?c4 ?c5
  (case kA => exact rfl)
  (case kF => exact rfl)
  (case kK => assumption)
  (case k1 => k_asm)
  (case k2 => k_asm)
  (case k3 => k_asm)
  (case k4 => k_asm)
  (case k5 => k_asm)
  (case k6 => k_is)
  (case k7 => k_is)
  (case k8 => ktr_room)
  (case k9 => first | exact BindsTo.of_eq rfl | exact binds_K (by k_in) rfl (by k_is) rfl rfl rfl)
  (case c5 => decide)
  (case kB => exact locs rfl)
  (case c2 => exact rfl)
  (case c3 => exact rfl)
  (case c4 => exact rfl)
  k_whole
  intro g' L' h' FG' F' N' B' X' T'
  (try dsimp only)
  (try k_lift B')
  (try k_fold)))
local macro_rules | `(tactic| walk_at "exec While Compare cons nil") => `(tactic| k_extra "mine while")
local macro_rules | `(tactic| walk_at "exec While BoolOp cons nil") => `(tactic| k_extra "mine while")
local macro_rules | `(tactic| kst_facts) => `(tactic| first | exact PyProof.Rows.StrsAre.nil | exact PyProof.Rows.StrsAre.append' (by assumption) (.cons _ _ .nil) | fail "no facts")
local macro_rules | `(tactic| walk_at "call builtin:str.join") => `(tactic| (k_here; (with_reducible show wpAny _ _ (call (Value.builtin "str.join") [Value.str _ _, Value.ref _]) _ _ _); k_dflt (refine join_listW (by is_list) (by first | assumption | k_extra "mine strs") (by decide +kernel) ?mj ?_; (case mj => k_extra "mine join"); intro _ _; (try k_extra "mine joined"))))
local macro_rules | `(tactic| walk_at "binaryOp Add str str") => `(tactic| (k_here; (with_reducible show wpAny _ _ (binaryOp Operator.Add (Value.str _ _) (Value.str _ _)) _ _ _); (refine SBL.add (hsz := ?hsz) ?_; (case hsz => (rw [PySem.sizeLine_eq]; first | omega | k_extra "mine add")); intro _ _ _)))
local macro_rules | `(tactic| walk_at "call ref") => `(tactic| (k_here; k_dflt (
  refine' Claim.use ?kc ?k1 ?k2 ?k3 ?k4 ?k5 ?kK ?kd ?ku ?_
  (case k2 => k_asm)
  (case k4 => k_asm)
  (case kc => k_extra "mine claim")
  (case k1 => k_asm)
  (case k3 => k_asm)
  (case k5 => k_asm)
  (case kK => first | exact rfl | assumption)
  (case kd => ktr_room)
  (case ku => ktr_units)
  k_whole
  intro v9 n9 h9 tk9 hp9 F9 N9
  (first | k_extra "mine post" | (obtain ⟨⟨y9, t9, e9, hy9, hl9⟩, e9'⟩ := hp9; subst e9; replace e9' := Eq.symm e9'; subst e9') | (obtain ⟨⟨t9, e9⟩, e9'⟩ := hp9; subst e9; replace e9' := Eq.symm e9'; subst e9') | (obtain ⟨e9, e9'⟩ := hp9; subst e9; replace e9' := Eq.symm e9'; subst e9') | (obtain ⟨a9, j9, t9, y9, u9, e9, e9', hj9, hy9, hl9, ⟨lo9, hi9⟩, lt9⟩ := hp9; subst e9; subst e9'; (try k_lt lt9)))
  (try dsimp only)
  (try k_fold))))
local macro_rules | `(tactic| walk_at "call builtin:str.split") => `(tactic| (k_here; (with_reducible show wpAny _ _ (call (Value.builtin "str.split") _) _ _ _); refine KSpl.split1 (by k_asm) (by k_asm) (by decide +kernel) ?_ (by rw [PySem.sizeLine_eq]; omega); intro D' l' h' k' e' a' F' N' l1; (try k_lt l1); rw [e'] at a'; generalize (strValues l') = us' at *; clear e'))
local macro_rules | `(tactic| walk_at "exec For Name Name cons nil") => `(tactic| (k_extra "mine for"; k_here; (rename Fr _ _ _ _ => lF'); (with_unfolding_all refine' For_invVF lF' ?k1 ?k2 ?_; (case k1 => exact rfl); (case k2 => exact rfl); k_whole)))
local macro_rules | `(tactic| walk_at "pyIter ref") => `(tactic| (k_here; (with_reducible show wpAny _ _ (pyIter (Value.ref _)) (fun it s₂ => LoopAtV _ _ _ _ _ _ _ _ _ it s₂) _ _); k_extra "mine iter"; (all_goals (try k_fold))))
local macro_rules | `(tactic| walk_at "TbPost") => `(tactic| (dsimp only [TbPost]))
local macro_rules | `(tactic| walk_at "TbEnd") => `(tactic| k_extra "mine turn")
local macro_rules | `(tactic| walk_at "eval ListComp") => `(tactic| (k_here; k_extra "mine comp"))
local macro_rules | `(tactic| walk_at "call type:enumerate") => `(tactic| (k_here; k_extra "mine enum"))
local macro_rules | `(tactic| walk_at "subscriptTail Name Slice ref ref") => `(tactic| (k_here; k_extra "mine slice"))
local macro_rules | `(tactic| walk_at "binaryOp Add ref ref") => `(tactic| (k_here; k_extra "mine addl"))
local macro_rules | `(tactic| walk_at "CEnd") => `(tactic| exact ⟨_, _, rfl, by k_asm, by k_asm⟩)
local macro_rules | `(tactic| walk_at "IntsAre") => `(tactic| k_extra "mine ints")
theorem expand_tabs (w : World) (news : List (Addr × Obj)) (x : Str) (t : Tok) (k : Int) (u : Tok) (hx : x.length ≤ 65536) :
    Claim w 93 1 news [.str x t, .int k u] (GivesStr (txt (expandL k x.cps.toList)) (5 * x.length) news) := by
  walk_at "mine fill"
  intro dp un gd cn cs a ccd cl outer A₀ base h₀ L m s Q E mean mg mb B F X N T hk hd hu hret
  refine wpAny_call ?_
  k_dflt walk_at "mine enter"
  w_top off
  k_with_none
  k_with "mine while" => k_while (fun _ i col parts => 0 ≤ i ∧ i ≤ x.length ∧ (parts.length : Int) = i ∧ k ≤ col ∧ col ≤ k + 4 * i ∧ ExpI k x i col parts) (fun _ i col parts => x.length - i.toNat) "index" "column" "parts$"
  k_with "mine join" => exact ExpI.weight (by assumption) (by assumption)
  k_with "mine joined" => have hj := ExpI.join_len (by assumption) hx
  k_with "state" => first
    | exact ExpI.out exp0
    | exact ExpI.out (exp_sp (by assumption) (by assumption) (by assumption))
    | exact ExpI.out (exp_tab (by assumption) (by assumption) (by assumption))
  k_steps
  · exact hret _ news _ _ (.mk (exp_stop (by assumption) (by assumption) (by assumption) (by assumption)) (expandL_len _ _)) (by k_asm) (by walk_at "mine news")
  · exact hret _ news _ _ (.mk (exp_all (by assumption) (by assumption)) (expandL_len _ _)) (by k_asm) (by walk_at "mine news")

theorem expand_tabs0 (w : World) (news : List (Addr × Obj)) (x : Str) (t : Tok) (hx : x.length ≤ 65536) :
    Claim w 93 1 news [.str x t] (GivesStr (txt (expandL 0 x.cps.toList)) (5 * x.length) news) := by
  walk_at "mine fill"
  intro dp un gd cn cs a ccd cl outer A₀ base h₀ L m s Q E mean mg mb B F X N T hk hd hu hret
  refine wpAny_call ?_
  k_dflt walk_at "mine enter"
  w_top off
  k_with_none
  k_with "mine while" => k_while (fun _ i col parts => 0 ≤ i ∧ i ≤ x.length ∧ (parts.length : Int) = i ∧ 0 ≤ col ∧ col ≤ 0 + 4 * i ∧ ExpI 0 x i col parts) (fun _ i col parts => x.length - i.toNat) "index" "column" "parts$"
  k_with "mine join" => exact ExpI.weight (by assumption) (by assumption)
  k_with "mine joined" => have hj := ExpI.join_len (by assumption) hx
  k_with "state" => first
    | exact ExpI.out exp0
    | exact ExpI.out (exp_sp (by assumption) (by assumption) (by assumption))
    | exact ExpI.out (exp_tab (by assumption) (by assumption) (by assumption))
  k_steps
  · exact hret _ news _ _ (.mk (exp_stop (by assumption) (by assumption) (by assumption) (by assumption)) (expandL_len _ _)) (by k_asm) (by walk_at "mine news")
  · exact hret _ news _ _ (.mk (exp_all (by assumption) (by assumption)) (expandL_len _ _)) (by k_asm) (by walk_at "mine news")

end Mine
end

section
open PySem PySem.W PyProof.Rows
set_option maxRecDepth 100000
set_option maxHeartbeats 8000000
namespace Mine
local macro_rules | `(tactic| walk_at "mine pad 0") => `(tactic| skip)
local macro_rules | `(tactic| walk_at "mine pad 1") => `(tactic| skip)
local macro_rules | `(tactic| walk_at "mine pad 2") => `(tactic| skip)
local macro_rules | `(tactic| walk_at "mine pad 3") => `(tactic| skip)
local macro_rules | `(tactic| walk_at "mine pad 4") => `(tactic| skip)
local macro_rules | `(tactic| walk_at "mine pad 5") => `(tactic| skip)
local macro_rules | `(tactic| walk_at "mine pad 6") => `(tactic| skip)
local macro_rules | `(tactic| walk_at "mine pad 7") => `(tactic| skip)
local macro_rules | `(tactic| walk_at "mine pad 8") => `(tactic| skip)
local macro_rules | `(tactic| walk_at "mine pad 9") => `(tactic| skip)
local macro_rules | `(tactic| walk_at "mine pad 10") => `(tactic| skip)
local macro_rules | `(tactic| walk_at "mine pad 11") => `(tactic| skip)
local macro_rules | `(tactic| walk_at "mine pad 12") => `(tactic| skip)
local macro_rules | `(tactic| walk_at "mine pad 13") => `(tactic| skip)
local macro_rules | `(tactic| walk_at "mine pad 14") => `(tactic| skip)
local macro_rules | `(tactic| walk_at "mine pad 15") => `(tactic| skip)
local macro_rules | `(tactic| walk_at "mine pad 16") => `(tactic| skip)
local macro_rules | `(tactic| walk_at "mine pad 17") => `(tactic| skip)
local macro_rules | `(tactic| walk_at "mine pad 18") => `(tactic| skip)
local macro_rules | `(tactic| walk_at "mine pad 19") => `(tactic| skip)
local macro_rules | `(tactic| walk_at "mine pad 20") => `(tactic| skip)
local macro_rules | `(tactic| walk_at "mine pad 21") => `(tactic| skip)
local macro_rules | `(tactic| walk_at "mine pad 22") => `(tactic| skip)
local macro_rules | `(tactic| walk_at "mine pad 23") => `(tactic| skip)
local macro_rules | `(tactic| walk_at "mine pad 24") => `(tactic| skip)
local macro_rules | `(tactic| walk_at "mine pad 25") => `(tactic| skip)
local macro_rules | `(tactic| walk_at "mine pad 26") => `(tactic| skip)
local macro_rules | `(tactic| walk_at "mine pad 27") => `(tactic| skip)
local macro_rules | `(tactic| walk_at "mine news") => `(tactic| first | k_asm | (refine' cb_drop ?cbN ?cbS; (case cbN => assumption); (case cbS => kcj_all)))
local macro_rules | `(tactic| walk_at "mine fill") => `(tactic| (
  have key : PySem.Challenge.rw_ci0011_01 = PySem.Challenge.rw_ci0011_01 ∧ hd.heap_39 = hd.heap_39 := ⟨rfl, rfl⟩
  revert key
  k_fill
  intro _))
local macro_rules | `(tactic| walk_at "mine enter") => `(tactic| (
  refine' code_def ?k1 ?k2 ?k3 ?k4 ?k5 ?kA ?kF ?kK ?k6 ?k7 ?k8 ?k9 ?kB ?_ ?c2 ?c3 ?c4 ?c5
  (case kA => exact rfl)
  (case kF => exact rfl)
  (case kK => assumption)
  (case k1 => k_asm)
  (case k2 => k_asm)
  (case k3 => k_asm)
  (case k4 => k_asm)
  (case k5 => k_asm)
  (case k6 => k_is)
  (case k7 => k_is)
  (case k8 => ktr_room)
  (case k9 => first | exact BindsTo.of_eq rfl | exact binds_K (by k_in) rfl (by k_is) rfl rfl rfl)
  (case c5 => decide)
  (case kB => exact locs rfl)
  (case c2 => exact rfl)
  (case c3 => exact rfl)
  (case c4 => exact rfl)
  k_whole
  intro g' L' h' FG' F' N' B' X' T'
  (try dsimp only)
  (try k_lift B')
  (try k_fold)))
local macro_rules | `(tactic| walk_at "exec While Compare cons nil") => `(tactic| k_extra "mine while")
local macro_rules | `(tactic| walk_at "exec While BoolOp cons nil") => `(tactic| k_extra "mine while")
local macro_rules | `(tactic| kst_facts) => `(tactic| first | exact PyProof.Rows.StrsAre.nil | exact PyProof.Rows.StrsAre.append' (by assumption) (.cons _ _ .nil) | fail "no facts")
local macro_rules | `(tactic| walk_at "call builtin:str.join") => `(tactic| (k_here; (with_reducible show wpAny _ _ (call (Value.builtin "str.join") [Value.str _ _, Value.ref _]) _ _ _); k_dflt (refine join_listW (by is_list) (by first | assumption | k_extra "mine strs") (by decide +kernel) ?mj ?_; (case mj => k_extra "mine join"); intro _ _; (try k_extra "mine joined"))))
local macro_rules | `(tactic| walk_at "binaryOp Add str str") => `(tactic| (k_here; (with_reducible show wpAny _ _ (binaryOp Operator.Add (Value.str _ _) (Value.str _ _)) _ _ _); (refine SBL.add (hsz := ?hsz) ?_; (case hsz => (rw [PySem.sizeLine_eq]; first | omega | k_extra "mine add")); intro _ _ _)))
local macro_rules | `(tactic| walk_at "call ref") => `(tactic| (k_here; k_dflt (
  refine' Claim.use ?kc ?k1 ?k2 ?k3 ?k4 ?k5 ?kK ?kd ?ku ?_
  (case k2 => k_asm)
  (case k4 => k_asm)
  (case kc => k_extra "mine claim")
  (case k1 => k_asm)
  (case k3 => k_asm)
  (case k5 => k_asm)
  (case kK => first | exact rfl | assumption)
  (case kd => ktr_room)
  (case ku => ktr_units)
  k_whole
  intro v9 n9 h9 tk9 hp9 F9 N9
  (first | k_extra "mine post" | (obtain ⟨⟨y9, t9, e9, hy9, hl9⟩, e9'⟩ := hp9; subst e9; replace e9' := Eq.symm e9'; subst e9') | (obtain ⟨⟨t9, e9⟩, e9'⟩ := hp9; subst e9; replace e9' := Eq.symm e9'; subst e9') | (obtain ⟨e9, e9'⟩ := hp9; subst e9; replace e9' := Eq.symm e9'; subst e9') | (obtain ⟨a9, j9, t9, y9, u9, e9, e9', hj9, hy9, hl9, ⟨lo9, hi9⟩, lt9⟩ := hp9; subst e9; subst e9'; (try k_lt lt9)))
  (try dsimp only)
  (try k_fold))))
local macro_rules | `(tactic| walk_at "call builtin:str.split") => `(tactic| (k_here; (with_reducible show wpAny _ _ (call (Value.builtin "str.split") _) _ _ _); refine KSpl.split1 (by k_asm) (by k_asm) (by decide +kernel) ?_ (by rw [PySem.sizeLine_eq]; omega); intro D' l' h' k' e' a' F' N' l1; (try k_lt l1); rw [e'] at a'; generalize (strValues l') = us' at *; clear e'))
local macro_rules | `(tactic| walk_at "exec For Name Name cons nil") => `(tactic| (k_extra "mine for"; k_here; (rename Fr _ _ _ _ => lF'); (with_unfolding_all refine' For_invVF lF' ?k1 ?k2 ?_; (case k1 => exact rfl); (case k2 => exact rfl); k_whole)))
local macro_rules | `(tactic| walk_at "pyIter ref") => `(tactic| (k_here; (with_reducible show wpAny _ _ (pyIter (Value.ref _)) (fun it s₂ => LoopAtV _ _ _ _ _ _ _ _ _ it s₂) _ _); k_extra "mine iter"; (all_goals (try k_fold))))
local macro_rules | `(tactic| walk_at "TbPost") => `(tactic| (dsimp only [TbPost]))
local macro_rules | `(tactic| walk_at "TbEnd") => `(tactic| k_extra "mine turn")
local macro_rules | `(tactic| walk_at "eval ListComp") => `(tactic| (k_here; k_extra "mine comp"))
local macro_rules | `(tactic| walk_at "call type:enumerate") => `(tactic| (k_here; k_extra "mine enum"))
local macro_rules | `(tactic| walk_at "subscriptTail Name Slice ref ref") => `(tactic| (k_here; k_extra "mine slice"))
local macro_rules | `(tactic| walk_at "binaryOp Add ref ref") => `(tactic| (k_here; k_extra "mine addl"))
local macro_rules | `(tactic| walk_at "CEnd") => `(tactic| exact ⟨_, _, rfl, by k_asm, by k_asm⟩)
local macro_rules | `(tactic| walk_at "IntsAre") => `(tactic| k_extra "mine ints")
theorem strip_indent (w : World) (news : List (Addr × Obj)) (x : Str) (t : Tok) (k : Int) (u : Tok) (hk0 : 0 ≤ k) (hk1 : k ≤ wid 0 x.cps.toList) (hx : x.length ≤ 65536) :
    Claim w 85 2 news [.str x t, .int k u] (GivesStr (txt (lessL k x.cps.toList)) (5 * x.length) news) := by
  walk_at "mine fill"
  intro dp un gd cn cs a ccd cl outer A₀ base h₀ L m s Q E mean mg mb B F X N T hk hd hu hret
  refine wpAny_call ?_
  k_dflt walk_at "mine enter"
  w_top off
  k_with_none
  k_with "mine while" => k_while (fun _ i col => 0 ≤ i ∧ i ≤ x.length ∧ 0 ≤ col ∧ col ≤ 4 * i ∧ StI x i col) (fun _ i col => x.length - i.toNat) "index" "width"
  k_with "state" => first
    | exact st0
    | exact st_sp (by assumption) (by assumption) (by assumption) (by assumption) (by assumption) (by assumption)
    | exact st_tab (by assumption) (by assumption) (by assumption) (by assumption) (by assumption) (by assumption)
  k_with "mine claim" => exact expand_tabs _ _ _ _ _ _ (by omega)
  k_steps
  · exact (st_break (by assumption) (by assumption) (by assumption) (by assumption) hk1 (by assumption) (by assumption)).elim
  · exact hret _ news _ _ (.mk (st_nt (by assumption) (by assumption) (by assumption) (by assumption) (by assumption)) (lessL_len _ hk0 _)) (by k_asm) (by walk_at "mine news")
  · exact hret _ news _ _ (.mk (st_expand (by assumption) (by assumption) (by assumption) (by assumption) (by assumption)) (lessL_len _ hk0 _)) (by k_asm) (by walk_at "mine news")
  · exact hret _ news _ _ (.mk (st_over (by assumption) (by assumption) (by assumption) (by omega) (by assumption)) (lessL_len _ hk0 _)) (by k_asm) (by walk_at "mine news")
  · exact hret _ news _ _ (.mk (st_stop (by assumption) (by assumption) (by assumption) (by assumption) (by assumption) (by assumption)) (lessL_len _ hk0 _)) (by k_asm) (by walk_at "mine news")
  · exact hret _ news _ _ (.mk (st_expand (by assumption) (by assumption) (by assumption) (by assumption) (by assumption)) (lessL_len _ hk0 _)) (by k_asm) (by walk_at "mine news")
  · exact (st_short (by assumption) (by assumption) (by assumption) (by assumption) hk1).elim
  · exact hret _ news _ _ (.mk (st_over (by assumption) (by assumption) (by assumption) (by omega) (by assumption)) (lessL_len _ hk0 _)) (by k_asm) (by walk_at "mine news")
  · exact hret _ news _ _ (.mk (st_over (by assumption) (by assumption) (by assumption) (by omega) (by assumption)) (lessL_len _ hk0 _)) (by k_asm) (by walk_at "mine news")
end Mine
end

section
open PySem PySem.W PyProof.Rows
set_option maxRecDepth 100000
set_option maxHeartbeats 8000000
namespace Mine
local macro_rules | `(tactic| walk_at "mine pad 0") => `(tactic| skip)
local macro_rules | `(tactic| walk_at "mine pad 1") => `(tactic| skip)
local macro_rules | `(tactic| walk_at "mine pad 2") => `(tactic| skip)
local macro_rules | `(tactic| walk_at "mine pad 3") => `(tactic| skip)
local macro_rules | `(tactic| walk_at "mine pad 4") => `(tactic| skip)
local macro_rules | `(tactic| walk_at "mine pad 5") => `(tactic| skip)
local macro_rules | `(tactic| walk_at "mine pad 6") => `(tactic| skip)
local macro_rules | `(tactic| walk_at "mine pad 7") => `(tactic| skip)
local macro_rules | `(tactic| walk_at "mine pad 8") => `(tactic| skip)
local macro_rules | `(tactic| walk_at "mine pad 9") => `(tactic| skip)
local macro_rules | `(tactic| walk_at "mine pad 10") => `(tactic| skip)
local macro_rules | `(tactic| walk_at "mine pad 11") => `(tactic| skip)
local macro_rules | `(tactic| walk_at "mine pad 12") => `(tactic| skip)
local macro_rules | `(tactic| walk_at "mine pad 13") => `(tactic| skip)
local macro_rules | `(tactic| walk_at "mine pad 14") => `(tactic| skip)
local macro_rules | `(tactic| walk_at "mine pad 15") => `(tactic| skip)
local macro_rules | `(tactic| walk_at "mine pad 16") => `(tactic| skip)
local macro_rules | `(tactic| walk_at "mine pad 17") => `(tactic| skip)
local macro_rules | `(tactic| walk_at "mine pad 18") => `(tactic| skip)
local macro_rules | `(tactic| walk_at "mine pad 19") => `(tactic| skip)
local macro_rules | `(tactic| walk_at "mine pad 20") => `(tactic| skip)
local macro_rules | `(tactic| walk_at "mine pad 21") => `(tactic| skip)
local macro_rules | `(tactic| walk_at "mine pad 22") => `(tactic| skip)
local macro_rules | `(tactic| walk_at "mine pad 23") => `(tactic| skip)
local macro_rules | `(tactic| walk_at "mine pad 24") => `(tactic| skip)
local macro_rules | `(tactic| walk_at "mine pad 25") => `(tactic| skip)
local macro_rules | `(tactic| walk_at "mine pad 26") => `(tactic| skip)
local macro_rules | `(tactic| walk_at "mine pad 27") => `(tactic| skip)
local macro_rules | `(tactic| walk_at "mine pad 28") => `(tactic| skip)
local macro_rules | `(tactic| walk_at "mine pad 29") => `(tactic| skip)
local macro_rules | `(tactic| walk_at "mine pad 30") => `(tactic| skip)
local macro_rules | `(tactic| walk_at "mine pad 31") => `(tactic| skip)
local macro_rules | `(tactic| walk_at "mine pad 32") => `(tactic| skip)
local macro_rules | `(tactic| walk_at "mine pad 33") => `(tactic| skip)
local macro_rules | `(tactic| walk_at "mine pad 34") => `(tactic| skip)
local macro_rules | `(tactic| walk_at "mine news") => `(tactic| first | k_asm | (refine' cb_drop ?cbN ?cbS; (case cbN => assumption); (case cbS => kcj_all)))
local macro_rules | `(tactic| walk_at "mine fill") => `(tactic| (
  have key : PySem.Challenge.rw_ci0011_01 = PySem.Challenge.rw_ci0011_01 ∧ hd.heap_39 = hd.heap_39 := ⟨rfl, rfl⟩
  revert key
  k_fill
  intro _))
local macro_rules | `(tactic| walk_at "mine enter") => `(tactic| (
  refine' code_def ?k1 ?k2 ?k3 ?k4 ?k5 ?kA ?kF ?kK ?k6 ?k7 ?k8 ?k9 ?kB ?_ ?c2 ?c3 ?c4 ?c5
  (case kA => exact rfl)
  (case kF => exact rfl)
  (case kK => assumption)
  (case k1 => k_asm)
  (case k2 => k_asm)
  (case k3 => k_asm)
  (case k4 => k_asm)
  (case k5 => k_asm)
  (case k6 => k_is)
  (case k7 => k_is)
  (case k8 => ktr_room)
  (case k9 => first | exact BindsTo.of_eq rfl | exact binds_K (by k_in) rfl (by k_is) rfl rfl rfl)
  (case c5 => decide)
  (case kB => exact locs rfl)
  (case c2 => exact rfl)
  (case c3 => exact rfl)
  (case c4 => exact rfl)
  k_whole
  intro g' L' h' FG' F' N' B' X' T'
  (try dsimp only)
  (try k_lift B')
  (try k_fold)))
local macro_rules | `(tactic| walk_at "exec While Compare cons nil") => `(tactic| k_extra "mine while")
local macro_rules | `(tactic| walk_at "exec While BoolOp cons nil") => `(tactic| k_extra "mine while")
local macro_rules | `(tactic| kst_facts) => `(tactic| first | exact PyProof.Rows.StrsAre.nil | exact PyProof.Rows.StrsAre.append' (by assumption) (.cons _ _ .nil) | fail "no facts")
local macro_rules | `(tactic| walk_at "call builtin:str.join") => `(tactic| (k_here; (with_reducible show wpAny _ _ (call (Value.builtin "str.join") [Value.str _ _, Value.ref _]) _ _ _); k_dflt (refine join_listW (by is_list) (by first | assumption | k_extra "mine strs") (by decide +kernel) ?mj ?_; (case mj => k_extra "mine join"); intro _ _; (try k_extra "mine joined"))))
local macro_rules | `(tactic| walk_at "binaryOp Add str str") => `(tactic| (k_here; (with_reducible show wpAny _ _ (binaryOp Operator.Add (Value.str _ _) (Value.str _ _)) _ _ _); (refine SBL.add (hsz := ?hsz) ?_; (case hsz => (rw [PySem.sizeLine_eq]; first | omega | k_extra "mine add")); intro _ _ _)))
local macro_rules | `(tactic| walk_at "call ref") => `(tactic| (k_here; k_dflt (
  refine' Claim.use ?kc ?k1 ?k2 ?k3 ?k4 ?k5 ?kK ?kd ?ku ?_
  (case k2 => k_asm)
  (case k4 => k_asm)
  (case kc => k_extra "mine claim")
  (case k1 => k_asm)
  (case k3 => k_asm)
  (case k5 => k_asm)
  (case kK => first | exact rfl | assumption)
  (case kd => ktr_room)
  (case ku => ktr_units)
  k_whole
  intro v9 n9 h9 tk9 hp9 F9 N9
  (first | k_extra "mine post" | (obtain ⟨⟨y9, t9, e9, hy9, hl9⟩, e9'⟩ := hp9; subst e9; replace e9' := Eq.symm e9'; subst e9') | (obtain ⟨⟨t9, e9⟩, e9'⟩ := hp9; subst e9; replace e9' := Eq.symm e9'; subst e9') | (obtain ⟨e9, e9'⟩ := hp9; subst e9; replace e9' := Eq.symm e9'; subst e9') | (obtain ⟨a9, j9, t9, y9, u9, e9, e9', hj9, hy9, hl9, ⟨lo9, hi9⟩, lt9⟩ := hp9; subst e9; subst e9'; (try k_lt lt9)))
  (try dsimp only)
  (try k_fold))))
local macro_rules | `(tactic| walk_at "call builtin:str.split") => `(tactic| (k_here; (with_reducible show wpAny _ _ (call (Value.builtin "str.split") _) _ _ _); refine KSpl.split1 (by k_asm) (by k_asm) (by decide +kernel) ?_ (by rw [PySem.sizeLine_eq]; omega); intro D' l' h' k' e' a' F' N' l1; (try k_lt l1); rw [e'] at a'; generalize (strValues l') = us' at *; clear e'))
local macro_rules | `(tactic| walk_at "exec For Name Name cons nil") => `(tactic| (k_extra "mine for"; k_here; (rename Fr _ _ _ _ => lF'); (with_unfolding_all refine' For_invVF lF' ?k1 ?k2 ?_; (case k1 => exact rfl); (case k2 => exact rfl); k_whole)))
local macro_rules | `(tactic| walk_at "pyIter ref") => `(tactic| (k_here; (with_reducible show wpAny _ _ (pyIter (Value.ref _)) (fun it s₂ => LoopAtV _ _ _ _ _ _ _ _ _ it s₂) _ _); k_extra "mine iter"; (all_goals (try k_fold))))
local macro_rules | `(tactic| walk_at "TbPost") => `(tactic| (dsimp only [TbPost]))
local macro_rules | `(tactic| walk_at "TbEnd") => `(tactic| k_extra "mine turn")
local macro_rules | `(tactic| walk_at "eval ListComp") => `(tactic| (k_here; k_extra "mine comp"))
local macro_rules | `(tactic| walk_at "call type:enumerate") => `(tactic| (k_here; k_extra "mine enum"))
local macro_rules | `(tactic| walk_at "subscriptTail Name Slice ref ref") => `(tactic| (k_here; k_extra "mine slice"))
local macro_rules | `(tactic| walk_at "binaryOp Add ref ref") => `(tactic| (k_here; k_extra "mine addl"))
local macro_rules | `(tactic| walk_at "CEnd") => `(tactic| exact ⟨_, _, rfl, by k_asm, by k_asm⟩)
local macro_rules | `(tactic| walk_at "IntsAre") => `(tactic| k_extra "mine ints")
theorem law_columns (w : World) (news : List (Addr × Obj)) (x : Str) (t : Tok) (k : Int) (u : Tok) (hx : x.length ≤ 65536) (hk0 : 0 ≤ k) (hk1 : k ≤ 65536) :
    Claim w 121 1 news [.str x t, .int k u] (GivesIS (wid k x.cps.toList - k) (txt (dropB x.cps.toList)) x.length news) := by
  walk_at "mine fill"
  intro dp un gd cn cs a ccd cl outer A₀ base h₀ L m s Q E mean mg mb B F X N T hk hd hu hret
  refine wpAny_call ?_
  k_dflt walk_at "mine enter"
  w_top off
  k_with_none
  k_with "mine while" => k_while (fun _ i col => 0 ≤ i ∧ i ≤ x.length ∧ k ≤ col ∧ col ≤ k + 4 * i ∧ CoI k x i col) (fun _ i col => x.length - i.toNat) "k" "column"
  k_with "state" => first
    | exact co0
    | exact co_sp (by assumption) (by assumption) (by assumption) (by assumption) (by assumption) (by assumption)
    | exact co_tab (by assumption) (by assumption) (by assumption) (by assumption) (by assumption) (by assumption) (by assumption)
  k_steps
  · have hc := co_stop (by assumption) (by assumption) (by assumption) (by assumption)
    exact hret _ _ _ _ (.mk (by rw [← hc.1]) hc.2 (txt_dropB_len _) (wid_bounds _ _) (by assumption)) (by k_asm) (by k_asm)
  · have hc := co_over (by assumption) (by assumption) (by assumption) (by assumption)
    exact hret _ _ _ _ (.mk (by rw [← hc.1]) hc.2 (txt_dropB_len _) (wid_bounds _ _) (by assumption)) (by k_asm) (by k_asm)
theorem law_less (w : World) (news : List (Addr × Obj)) (x : Str) (t : Tok) (k : Int) (u : Tok) (hx : x.length ≤ 65536) (hk0 : 0 ≤ k) (hk1 : k ≤ 65536) :
    Claim w 135 2 news [.str x t, .int k u] (GivesStr (txt (lineL k x.cps.toList)) (5 * x.length) news) := by
  walk_at "mine fill"
  intro dp un gd cn cs a ccd cl outer A₀ base h₀ L m s Q E mean mg mb B F X N T hk hd hu hret
  refine wpAny_call ?_
  k_dflt walk_at "mine enter"
  w_top off
  k_with_none
  k_with "mine claim" => exact law_columns _ _ _ _ _ _ (by omega) (by omega) (by omega)
  k_steps
  · exact hret _ news _ _ (.mk (less_yes (by assumption) (by assumption) (by assumption)) (lineL_len _ hk0 _)) (by k_asm) (by walk_at "mine news")
  · exact hret _ news _ _ (.mk (less_no (by assumption) (by assumption) (by assumption) (by assumption)) (lineL_len _ hk0 _)) (by k_asm) (by walk_at "mine news")
theorem law_first (w : World) (news : List (Addr × Obj)) (x : Str) (t : Tok) (k : Int) (u : Tok) (hx : x.length ≤ 65536) (hk0 : 0 ≤ k) (hk1 : k ≤ 65536) :
    Claim w 128 2 news [.str x t, .int k u] (GivesSI (txt (firstL k x.cps.toList)) (firstW k x.cps.toList) (5 * x.length + 1) news) := by
  walk_at "mine fill"
  intro dp un gd cn cs a ccd cl outer A₀ base h₀ L m s Q E mean mg mb B F X N T hk hd hu hret
  refine wpAny_call ?_
  k_dflt walk_at "mine enter"
  w_top off
  k_with_none
  k_with "mine claim" => exact law_columns _ _ _ _ _ _ (by omega) (by omega) (by omega)
  k_steps
  · have hf := first_nil (k := k) (by assumption) (by assumption)
    exact hret _ _ _ _ (.mk (news := news) hf.2 hf.1 (firstL_len _ _) (kst_ltOf (And.right (by assumption)))) (by k_asm) (by walk_at "mine news")
  · have hf := first_far (by assumption) (by assumption) (by assumption) (by assumption)
    exact hret _ _ _ _ (.mk (news := news) hf.2 hf.1 (firstL_len _ _) (kst_ltOf (And.right (by assumption)))) (by k_asm) (by walk_at "mine news")
  · have hf := first_near (by assumption) (by assumption) (by assumption) (by assumption)
    exact hret _ _ _ _ (.mk (news := news) hf.2 hf.1 (firstL_len _ _) (kst_ltOf (And.right (by assumption)))) (by k_asm) (by walk_at "mine news")
end Mine
end

section
open PySem PySem.W PyProof.Rows
set_option maxRecDepth 100000
set_option maxHeartbeats 8000000
namespace Mine
local macro_rules | `(tactic| walk_at "mine pad 0") => `(tactic| skip)
local macro_rules | `(tactic| walk_at "mine pad 1") => `(tactic| skip)
local macro_rules | `(tactic| walk_at "mine pad 2") => `(tactic| skip)
local macro_rules | `(tactic| walk_at "mine pad 3") => `(tactic| skip)
local macro_rules | `(tactic| walk_at "mine pad 4") => `(tactic| skip)
local macro_rules | `(tactic| walk_at "mine pad 5") => `(tactic| skip)
local macro_rules | `(tactic| walk_at "mine pad 6") => `(tactic| skip)
local macro_rules | `(tactic| walk_at "mine pad 7") => `(tactic| skip)
local macro_rules | `(tactic| walk_at "mine pad 8") => `(tactic| skip)
local macro_rules | `(tactic| walk_at "mine pad 9") => `(tactic| skip)
local macro_rules | `(tactic| walk_at "mine pad 10") => `(tactic| skip)
local macro_rules | `(tactic| walk_at "mine pad 11") => `(tactic| skip)
local macro_rules | `(tactic| walk_at "mine pad 12") => `(tactic| skip)
local macro_rules | `(tactic| walk_at "mine pad 13") => `(tactic| skip)
local macro_rules | `(tactic| walk_at "mine pad 14") => `(tactic| skip)
local macro_rules | `(tactic| walk_at "mine pad 15") => `(tactic| skip)
local macro_rules | `(tactic| walk_at "mine pad 16") => `(tactic| skip)
local macro_rules | `(tactic| walk_at "mine pad 17") => `(tactic| skip)
local macro_rules | `(tactic| walk_at "mine pad 18") => `(tactic| skip)
local macro_rules | `(tactic| walk_at "mine pad 19") => `(tactic| skip)
local macro_rules | `(tactic| walk_at "mine pad 20") => `(tactic| skip)
local macro_rules | `(tactic| walk_at "mine pad 21") => `(tactic| skip)
local macro_rules | `(tactic| walk_at "mine pad 22") => `(tactic| skip)
local macro_rules | `(tactic| walk_at "mine pad 23") => `(tactic| skip)
local macro_rules | `(tactic| walk_at "mine pad 24") => `(tactic| skip)
local macro_rules | `(tactic| walk_at "mine pad 25") => `(tactic| skip)
local macro_rules | `(tactic| walk_at "mine pad 26") => `(tactic| skip)
local macro_rules | `(tactic| walk_at "mine pad 27") => `(tactic| skip)
local macro_rules | `(tactic| walk_at "mine pad 28") => `(tactic| skip)
local macro_rules | `(tactic| walk_at "mine pad 29") => `(tactic| skip)
local macro_rules | `(tactic| walk_at "mine pad 30") => `(tactic| skip)
local macro_rules | `(tactic| walk_at "mine pad 31") => `(tactic| skip)
local macro_rules | `(tactic| walk_at "mine pad 32") => `(tactic| skip)
local macro_rules | `(tactic| walk_at "mine pad 33") => `(tactic| skip)
local macro_rules | `(tactic| walk_at "mine pad 34") => `(tactic| skip)
local macro_rules | `(tactic| walk_at "mine pad 35") => `(tactic| skip)
local macro_rules | `(tactic| walk_at "mine pad 36") => `(tactic| skip)
local macro_rules | `(tactic| walk_at "mine pad 37") => `(tactic| skip)
local macro_rules | `(tactic| walk_at "mine pad 38") => `(tactic| skip)
local macro_rules | `(tactic| walk_at "mine pad 39") => `(tactic| skip)
local macro_rules | `(tactic| walk_at "mine pad 40") => `(tactic| skip)
local macro_rules | `(tactic| walk_at "mine pad 41") => `(tactic| skip)
local macro_rules | `(tactic| walk_at "mine news") => `(tactic| first | k_asm | (refine' cb_drop ?cbN ?cbS; (case cbN => assumption); (case cbS => kcj_all)))
local macro_rules | `(tactic| walk_at "mine fill") => `(tactic| (
  have key : PySem.Challenge.rw_ci0011_01 = PySem.Challenge.rw_ci0011_01 ∧ hd.heap_39 = hd.heap_39 := ⟨rfl, rfl⟩
  revert key
  k_fill
  intro _))
local macro_rules | `(tactic| walk_at "mine enter") => `(tactic| (
  refine' code_def ?k1 ?k2 ?k3 ?k4 ?k5 ?kA ?kF ?kK ?k6 ?k7 ?k8 ?k9 ?kB ?_ ?c2 ?c3 ?c4 ?c5
  (case kA => exact rfl)
  (case kF => exact rfl)
  (case kK => assumption)
  (case k1 => k_asm)
  (case k2 => k_asm)
  (case k3 => k_asm)
  (case k4 => k_asm)
  (case k5 => k_asm)
  (case k6 => k_is)
  (case k7 => k_is)
  (case k8 => ktr_room)
  (case k9 => first | exact BindsTo.of_eq rfl | exact binds_K (by k_in) rfl (by k_is) rfl rfl rfl)
  (case c5 => decide)
  (case kB => exact locs rfl)
  (case c2 => exact rfl)
  (case c3 => exact rfl)
  (case c4 => exact rfl)
  k_whole
  intro g' L' h' FG' F' N' B' X' T'
  (try dsimp only)
  (try k_lift B')
  (try k_fold)))
local macro_rules | `(tactic| walk_at "exec While Compare cons nil") => `(tactic| k_extra "mine while")
local macro_rules | `(tactic| walk_at "exec While BoolOp cons nil") => `(tactic| k_extra "mine while")
local macro_rules | `(tactic| kst_facts) => `(tactic| first | exact PyProof.Rows.StrsAre.nil | exact PyProof.Rows.StrsAre.append' (by assumption) (.cons _ _ .nil) | fail "no facts")
local macro_rules | `(tactic| walk_at "call builtin:str.join") => `(tactic| (k_here; (with_reducible show wpAny _ _ (call (Value.builtin "str.join") [Value.str _ _, Value.ref _]) _ _ _); k_dflt (refine join_listW (by is_list) (by first | assumption | k_extra "mine strs") (by decide +kernel) ?mj ?_; (case mj => k_extra "mine join"); intro _ _; (try k_extra "mine joined"))))
local macro_rules | `(tactic| walk_at "binaryOp Add str str") => `(tactic| (k_here; (with_reducible show wpAny _ _ (binaryOp Operator.Add (Value.str _ _) (Value.str _ _)) _ _ _); (refine SBL.add (hsz := ?hsz) ?_; (case hsz => (rw [PySem.sizeLine_eq]; first | omega | k_extra "mine add")); intro _ _ _)))
local macro_rules | `(tactic| walk_at "call ref") => `(tactic| (k_here; k_dflt (
  refine' Claim.use ?kc ?k1 ?k2 ?k3 ?k4 ?k5 ?kK ?kd ?ku ?_
  (case k2 => k_asm)
  (case k4 => k_asm)
  (case kc => k_extra "mine claim")
  (case k1 => k_asm)
  (case k3 => k_asm)
  (case k5 => k_asm)
  (case kK => first | exact rfl | assumption)
  (case kd => ktr_room)
  (case ku => ktr_units)
  k_whole
  intro v9 n9 h9 tk9 hp9 F9 N9
  (first | k_extra "mine post" | (obtain ⟨⟨y9, t9, e9, hy9, hl9⟩, e9'⟩ := hp9; subst e9; replace e9' := Eq.symm e9'; subst e9') | (obtain ⟨⟨t9, e9⟩, e9'⟩ := hp9; subst e9; replace e9' := Eq.symm e9'; subst e9') | (obtain ⟨e9, e9'⟩ := hp9; subst e9; replace e9' := Eq.symm e9'; subst e9') | (obtain ⟨a9, j9, t9, y9, u9, e9, e9', hj9, hy9, hl9, ⟨lo9, hi9⟩, lt9⟩ := hp9; subst e9; subst e9'; (try k_lt lt9)))
  (try dsimp only)
  (try k_fold))))
local macro_rules | `(tactic| walk_at "call builtin:str.split") => `(tactic| (k_here; (with_reducible show wpAny _ _ (call (Value.builtin "str.split") _) _ _ _); refine KSpl.split1 (by k_asm) (by k_asm) (by decide +kernel) ?_ (by rw [PySem.sizeLine_eq]; omega); intro D' l' h' k' e' a' F' N' l1; (try k_lt l1); rw [e'] at a'; generalize (strValues l') = us' at *; clear e'))
local macro_rules | `(tactic| walk_at "exec For Name Name cons nil") => `(tactic| (k_extra "mine for"; k_here; (rename Fr _ _ _ _ => lF'); (with_unfolding_all refine' For_invVF lF' ?k1 ?k2 ?_; (case k1 => exact rfl); (case k2 => exact rfl); k_whole)))
local macro_rules | `(tactic| walk_at "pyIter ref") => `(tactic| (k_here; (with_reducible show wpAny _ _ (pyIter (Value.ref _)) (fun it s₂ => LoopAtV _ _ _ _ _ _ _ _ _ it s₂) _ _); k_extra "mine iter"; (all_goals (try k_fold))))
local macro_rules | `(tactic| walk_at "TbPost") => `(tactic| (dsimp only [TbPost]))
local macro_rules | `(tactic| walk_at "TbEnd") => `(tactic| k_extra "mine turn")
local macro_rules | `(tactic| walk_at "eval ListComp") => `(tactic| (k_here; k_extra "mine comp"))
local macro_rules | `(tactic| walk_at "call type:enumerate") => `(tactic| (k_here; k_extra "mine enum"))
local macro_rules | `(tactic| walk_at "subscriptTail Name Slice ref ref") => `(tactic| (k_here; k_extra "mine slice"))
local macro_rules | `(tactic| walk_at "binaryOp Add ref ref") => `(tactic| (k_here; k_extra "mine addl"))
local macro_rules | `(tactic| walk_at "CEnd") => `(tactic| exact ⟨_, _, rfl, by k_asm, by k_asm⟩)
local macro_rules | `(tactic| walk_at "IntsAre") => `(tactic| k_extra "mine ints")
local macro_rules | `(tactic| walk_at "subscriptTail Name BinOp ref int") => `(tactic| (k_here; k_extra "mine item"))
local macro_rules | `(tactic| walk_at "binaryOp FloorDiv int int") => `(tactic| (k_here; k_extra "mine div"))
theorem law_bodies (w : World) (news : List (Addr × Obj)) :
    Claim w 107 1 news [] (GivesBodies news) := by
  walk_at "mine fill"
  intro dp un gd cn cs a ccd cl outer A₀ base h₀ L m s Q E mean mg mb B F X N T hk hd hu hret
  refine wpAny_call ?_
  k_dflt walk_at "mine enter"
  w_top off
  k_with_none
  k_steps
  refine' hret _ _ _ _ ?zp (by k_asm) ?zn
  (case zn => k_asm)
  (case zp => refine .mk (news := news) ?zq (by assumption); unfold bodies; repeat constructor)
theorem law_lead (w : World) (news : List (Addr × Obj)) (k : Int) (u : Tok) :
    Claim w 114 1 news [.int k u] (GivesLead news) := by
  walk_at "mine fill"
  intro dp un gd cn cs a ccd cl outer A₀ base h₀ L m s Q E mean mg mb B F X N T hk hd hu hret
  refine wpAny_call ?_
  k_dflt walk_at "mine enter"
  w_top off
  k_with_none
  k_with "exec For Name Call cons nil" => kpr_for
  k_with "pyIter ref" => k_state_short (fun pre y => y.length ≤ pre.length ∧ Lead pre.length y) "text"
  k_with "state" => first
    | exact lead0
    | exact lead1 (by assumption) (by assumption)
  k_with "mine div" => (have hp3 := pow3_small (by assumption) (by assumption); refine floordiv_int hp3.1 ?_ (Or.inl (PyProof.noPylong_small hp3.2)))
  k_with "mine item" => (k_dflt (refine' item_of (ws := [Str.ofString "", Str.ofString " ", Str.ofString "\t"]) ?il ?iw lead_items (fmod3 _ _).1 (fmod3 _ _).2 (Int.lt_trans (fmod3 _ _).2 (by decide)) ?_; (case il => is_list); (case iw => repeat constructor); intro y8 t8 hy8; have hl8 := hy8.2))
  k_steps
  exact hret _ news _ _ (.mk (lead_four (by assumption))) (by k_asm) (by walk_at "mine news")
end Mine
end

section
open PySem PySem.W PyProof.Rows
set_option maxRecDepth 100000
set_option maxHeartbeats 8000000
namespace Mine
local macro_rules | `(tactic| walk_at "mine pad 0") => `(tactic| skip)
local macro_rules | `(tactic| walk_at "mine pad 1") => `(tactic| skip)
local macro_rules | `(tactic| walk_at "mine pad 2") => `(tactic| skip)
local macro_rules | `(tactic| walk_at "mine pad 3") => `(tactic| skip)
local macro_rules | `(tactic| walk_at "mine pad 4") => `(tactic| skip)
local macro_rules | `(tactic| walk_at "mine pad 5") => `(tactic| skip)
local macro_rules | `(tactic| walk_at "mine pad 6") => `(tactic| skip)
local macro_rules | `(tactic| walk_at "mine pad 7") => `(tactic| skip)
local macro_rules | `(tactic| walk_at "mine pad 8") => `(tactic| skip)
local macro_rules | `(tactic| walk_at "mine pad 9") => `(tactic| skip)
local macro_rules | `(tactic| walk_at "mine pad 10") => `(tactic| skip)
local macro_rules | `(tactic| walk_at "mine pad 11") => `(tactic| skip)
local macro_rules | `(tactic| walk_at "mine pad 12") => `(tactic| skip)
local macro_rules | `(tactic| walk_at "mine pad 13") => `(tactic| skip)
local macro_rules | `(tactic| walk_at "mine pad 14") => `(tactic| skip)
local macro_rules | `(tactic| walk_at "mine pad 15") => `(tactic| skip)
local macro_rules | `(tactic| walk_at "mine pad 16") => `(tactic| skip)
local macro_rules | `(tactic| walk_at "mine pad 17") => `(tactic| skip)
local macro_rules | `(tactic| walk_at "mine pad 18") => `(tactic| skip)
local macro_rules | `(tactic| walk_at "mine pad 19") => `(tactic| skip)
local macro_rules | `(tactic| walk_at "mine pad 20") => `(tactic| skip)
local macro_rules | `(tactic| walk_at "mine pad 21") => `(tactic| skip)
local macro_rules | `(tactic| walk_at "mine pad 22") => `(tactic| skip)
local macro_rules | `(tactic| walk_at "mine pad 23") => `(tactic| skip)
local macro_rules | `(tactic| walk_at "mine pad 24") => `(tactic| skip)
local macro_rules | `(tactic| walk_at "mine pad 25") => `(tactic| skip)
local macro_rules | `(tactic| walk_at "mine pad 26") => `(tactic| skip)
local macro_rules | `(tactic| walk_at "mine pad 27") => `(tactic| skip)
local macro_rules | `(tactic| walk_at "mine pad 28") => `(tactic| skip)
local macro_rules | `(tactic| walk_at "mine pad 29") => `(tactic| skip)
local macro_rules | `(tactic| walk_at "mine pad 30") => `(tactic| skip)
local macro_rules | `(tactic| walk_at "mine pad 31") => `(tactic| skip)
local macro_rules | `(tactic| walk_at "mine pad 32") => `(tactic| skip)
local macro_rules | `(tactic| walk_at "mine pad 33") => `(tactic| skip)
local macro_rules | `(tactic| walk_at "mine pad 34") => `(tactic| skip)
local macro_rules | `(tactic| walk_at "mine pad 35") => `(tactic| skip)
local macro_rules | `(tactic| walk_at "mine pad 36") => `(tactic| skip)
local macro_rules | `(tactic| walk_at "mine pad 37") => `(tactic| skip)
local macro_rules | `(tactic| walk_at "mine pad 38") => `(tactic| skip)
local macro_rules | `(tactic| walk_at "mine pad 39") => `(tactic| skip)
local macro_rules | `(tactic| walk_at "mine pad 40") => `(tactic| skip)
local macro_rules | `(tactic| walk_at "mine pad 41") => `(tactic| skip)
local macro_rules | `(tactic| walk_at "mine pad 42") => `(tactic| skip)
local macro_rules | `(tactic| walk_at "mine pad 43") => `(tactic| skip)
local macro_rules | `(tactic| walk_at "mine pad 44") => `(tactic| skip)
local macro_rules | `(tactic| walk_at "mine pad 45") => `(tactic| skip)
local macro_rules | `(tactic| walk_at "mine pad 46") => `(tactic| skip)
local macro_rules | `(tactic| walk_at "mine pad 47") => `(tactic| skip)
local macro_rules | `(tactic| walk_at "mine pad 48") => `(tactic| skip)
local macro_rules | `(tactic| walk_at "mine news") => `(tactic| first | k_asm | (refine' cb_drop ?cbN ?cbS; (case cbN => assumption); (case cbS => kcj_all)))
local macro_rules | `(tactic| walk_at "mine fill") => `(tactic| (
  have key : PySem.Challenge.rw_ci0011_01 = PySem.Challenge.rw_ci0011_01 ∧ hd.heap_39 = hd.heap_39 := ⟨rfl, rfl⟩
  revert key
  k_fill
  intro _))
local macro_rules | `(tactic| walk_at "mine enter") => `(tactic| (
  refine' code_def ?k1 ?k2 ?k3 ?k4 ?k5 ?kA ?kF ?kK ?k6 ?k7 ?k8 ?k9 ?kB ?_ ?c2 ?c3 ?c4 ?c5
  (case kA => exact rfl)
  (case kF => exact rfl)
  (case kK => assumption)
  (case k1 => k_asm)
  (case k2 => k_asm)
  (case k3 => k_asm)
  (case k4 => k_asm)
  (case k5 => k_asm)
  (case k6 => k_is)
  (case k7 => k_is)
  (case k8 => ktr_room)
  (case k9 => first | exact BindsTo.of_eq rfl | exact binds_K (by k_in) rfl (by k_is) rfl rfl rfl)
  (case c5 => decide)
  (case kB => exact locs rfl)
  (case c2 => exact rfl)
  (case c3 => exact rfl)
  (case c4 => exact rfl)
  k_whole
  intro g' L' h' FG' F' N' B' X' T'
  (try dsimp only)
  (try k_lift B')
  (try k_fold)))
local macro_rules | `(tactic| walk_at "exec While Compare cons nil") => `(tactic| k_extra "mine while")
local macro_rules | `(tactic| walk_at "exec While BoolOp cons nil") => `(tactic| k_extra "mine while")
local macro_rules | `(tactic| kst_facts) => `(tactic| first | exact PyProof.Rows.StrsAre.nil | exact PyProof.Rows.StrsAre.append' (by assumption) (.cons _ _ .nil) | fail "no facts")
local macro_rules | `(tactic| walk_at "call builtin:str.join") => `(tactic| (k_here; (with_reducible show wpAny _ _ (call (Value.builtin "str.join") [Value.str _ _, Value.ref _]) _ _ _); k_dflt (refine join_listW (by is_list) (by first | assumption | k_extra "mine strs") (by decide +kernel) ?mj ?_; (case mj => k_extra "mine join"); intro _ _; (try k_extra "mine joined"))))
local macro_rules | `(tactic| walk_at "binaryOp Add str str") => `(tactic| (k_here; (with_reducible show wpAny _ _ (binaryOp Operator.Add (Value.str _ _) (Value.str _ _)) _ _ _); (refine SBL.add (hsz := ?hsz) ?_; (case hsz => (rw [PySem.sizeLine_eq]; first | omega | k_extra "mine add")); intro _ _ _)))
local macro_rules | `(tactic| walk_at "call ref") => `(tactic| (k_here; k_dflt (
  refine' Claim.use ?kc ?k1 ?k2 ?k3 ?k4 ?k5 ?kK ?kd ?ku ?_
  (case k2 => k_asm)
  (case k4 => k_asm)
  (case kc => k_extra "mine claim")
  (case k1 => k_asm)
  (case k3 => k_asm)
  (case k5 => k_asm)
  (case kK => first | exact rfl | assumption)
  (case kd => ktr_room)
  (case ku => ktr_units)
  k_whole
  intro v9 n9 h9 tk9 hp9 F9 N9
  (first | k_extra "mine post" | (obtain ⟨⟨y9, t9, e9, hy9, hl9⟩, e9'⟩ := hp9; subst e9; replace e9' := Eq.symm e9'; subst e9') | (obtain ⟨⟨t9, e9⟩, e9'⟩ := hp9; subst e9; replace e9' := Eq.symm e9'; subst e9') | (obtain ⟨e9, e9'⟩ := hp9; subst e9; replace e9' := Eq.symm e9'; subst e9') | (obtain ⟨a9, j9, t9, y9, u9, e9, e9', hj9, hy9, hl9, ⟨lo9, hi9⟩, lt9⟩ := hp9; subst e9; subst e9'; (try k_lt lt9)))
  (try dsimp only)
  (try k_fold))))
local macro_rules | `(tactic| walk_at "call builtin:str.split") => `(tactic| (k_here; (with_reducible show wpAny _ _ (call (Value.builtin "str.split") _) _ _ _); refine KSpl.split1 (by k_asm) (by k_asm) (by decide +kernel) ?_ (by rw [PySem.sizeLine_eq]; omega); intro D' l' h' k' e' a' F' N' l1; (try k_lt l1); rw [e'] at a'; generalize (strValues l') = us' at *; clear e'))
local macro_rules | `(tactic| walk_at "exec For Name Name cons nil") => `(tactic| (k_extra "mine for"; k_here; (rename Fr _ _ _ _ => lF'); (with_unfolding_all refine' For_invVF lF' ?k1 ?k2 ?_; (case k1 => exact rfl); (case k2 => exact rfl); k_whole)))
local macro_rules | `(tactic| walk_at "pyIter ref") => `(tactic| (k_here; (with_reducible show wpAny _ _ (pyIter (Value.ref _)) (fun it s₂ => LoopAtV _ _ _ _ _ _ _ _ _ it s₂) _ _); k_extra "mine iter"; (all_goals (try k_fold))))
local macro_rules | `(tactic| walk_at "TbPost") => `(tactic| (dsimp only [TbPost]))
local macro_rules | `(tactic| walk_at "TbEnd") => `(tactic| k_extra "mine turn")
local macro_rules | `(tactic| walk_at "eval ListComp") => `(tactic| (k_here; k_extra "mine comp"))
local macro_rules | `(tactic| walk_at "call type:enumerate") => `(tactic| (k_here; k_extra "mine enum"))
local macro_rules | `(tactic| walk_at "subscriptTail Name Slice ref ref") => `(tactic| (k_here; k_extra "mine slice"))
local macro_rules | `(tactic| walk_at "binaryOp Add ref ref") => `(tactic| (k_here; k_extra "mine addl"))
local macro_rules | `(tactic| walk_at "CEnd") => `(tactic| exact ⟨_, _, rfl, by k_asm, by k_asm⟩)
local macro_rules | `(tactic| walk_at "IntsAre") => `(tactic| k_extra "mine ints")
theorem strip_end (w : World) (news : List (Addr × Obj)) (x : Str) (t : Tok) (hx : x.length ≤ 1048576) :
    Claim w 38 1 news [.str x t] (GivesStrP (fun y => StripRel x.cps.toList y.cps.toList) (x.length + 1) news) := by
  walk_at "mine fill"
  intro dp un gd cn cs a ccd cl outer A₀ base h₀ L m s Q E mean mg mb B F X N T hk hd hu hret
  refine wpAny_call ?_
  k_dflt walk_at "mine enter"
  w_top off
  k_with_none
  k_with "mine while" => k_while (fun _ e => 0 ≤ e ∧ e ≤ x.length ∧ SpI x e) (fun _ e => e.toNat) "end"
  k_with "state" => first
    | exact se0
    | exact se1 (by assumption) (by assumption) (by assumption) (by assumption) (by assumption)
  k_steps
  · exact hret _ news _ _ (.mk (se_yes (by assumption) (by assumption) (by assumption) (se_stop (by assumption) (by assumption) (by assumption) (by assumption)) (by assumption)) (by have := (show (Str.ofString "\n").length = 1 by decide +kernel); omega)) (by k_asm) (by walk_at "mine news")
  · exact hret _ news _ _ (.mk (se_no (by assumption) (by assumption) (by assumption) (se_stop (by assumption) (by assumption) (by assumption) (by assumption)) (by assumption)) (by omega)) (by k_asm) (by walk_at "mine news")
  · exact hret _ news _ _ (.mk (se_yes (by assumption) (by assumption) (by assumption) (se_zero (by assumption)) (by assumption)) (by have := (show (Str.ofString "\n").length = 1 by decide +kernel); omega)) (by k_asm) (by walk_at "mine news")
  · exact hret _ news _ _ (.mk (se_no (by assumption) (by assumption) (by assumption) (se_zero (by assumption)) (by assumption)) (by omega)) (by k_asm) (by walk_at "mine news")
end Mine
end

section
open PySem PySem.W PyProof.Rows
set_option maxRecDepth 100000
set_option maxHeartbeats 8000000
namespace Mine
local macro_rules | `(tactic| walk_at "mine pad 0") => `(tactic| skip)
local macro_rules | `(tactic| walk_at "mine pad 1") => `(tactic| skip)
local macro_rules | `(tactic| walk_at "mine pad 2") => `(tactic| skip)
local macro_rules | `(tactic| walk_at "mine pad 3") => `(tactic| skip)
local macro_rules | `(tactic| walk_at "mine pad 4") => `(tactic| skip)
local macro_rules | `(tactic| walk_at "mine pad 5") => `(tactic| skip)
local macro_rules | `(tactic| walk_at "mine pad 6") => `(tactic| skip)
local macro_rules | `(tactic| walk_at "mine pad 7") => `(tactic| skip)
local macro_rules | `(tactic| walk_at "mine pad 8") => `(tactic| skip)
local macro_rules | `(tactic| walk_at "mine pad 9") => `(tactic| skip)
local macro_rules | `(tactic| walk_at "mine pad 10") => `(tactic| skip)
local macro_rules | `(tactic| walk_at "mine pad 11") => `(tactic| skip)
local macro_rules | `(tactic| walk_at "mine pad 12") => `(tactic| skip)
local macro_rules | `(tactic| walk_at "mine pad 13") => `(tactic| skip)
local macro_rules | `(tactic| walk_at "mine pad 14") => `(tactic| skip)
local macro_rules | `(tactic| walk_at "mine pad 15") => `(tactic| skip)
local macro_rules | `(tactic| walk_at "mine pad 16") => `(tactic| skip)
local macro_rules | `(tactic| walk_at "mine pad 17") => `(tactic| skip)
local macro_rules | `(tactic| walk_at "mine pad 18") => `(tactic| skip)
local macro_rules | `(tactic| walk_at "mine pad 19") => `(tactic| skip)
local macro_rules | `(tactic| walk_at "mine pad 20") => `(tactic| skip)
local macro_rules | `(tactic| walk_at "mine pad 21") => `(tactic| skip)
local macro_rules | `(tactic| walk_at "mine pad 22") => `(tactic| skip)
local macro_rules | `(tactic| walk_at "mine pad 23") => `(tactic| skip)
local macro_rules | `(tactic| walk_at "mine pad 24") => `(tactic| skip)
local macro_rules | `(tactic| walk_at "mine pad 25") => `(tactic| skip)
local macro_rules | `(tactic| walk_at "mine pad 26") => `(tactic| skip)
local macro_rules | `(tactic| walk_at "mine pad 27") => `(tactic| skip)
local macro_rules | `(tactic| walk_at "mine pad 28") => `(tactic| skip)
local macro_rules | `(tactic| walk_at "mine pad 29") => `(tactic| skip)
local macro_rules | `(tactic| walk_at "mine pad 30") => `(tactic| skip)
local macro_rules | `(tactic| walk_at "mine pad 31") => `(tactic| skip)
local macro_rules | `(tactic| walk_at "mine pad 32") => `(tactic| skip)
local macro_rules | `(tactic| walk_at "mine pad 33") => `(tactic| skip)
local macro_rules | `(tactic| walk_at "mine pad 34") => `(tactic| skip)
local macro_rules | `(tactic| walk_at "mine pad 35") => `(tactic| skip)
local macro_rules | `(tactic| walk_at "mine pad 36") => `(tactic| skip)
local macro_rules | `(tactic| walk_at "mine pad 37") => `(tactic| skip)
local macro_rules | `(tactic| walk_at "mine pad 38") => `(tactic| skip)
local macro_rules | `(tactic| walk_at "mine pad 39") => `(tactic| skip)
local macro_rules | `(tactic| walk_at "mine pad 40") => `(tactic| skip)
local macro_rules | `(tactic| walk_at "mine pad 41") => `(tactic| skip)
local macro_rules | `(tactic| walk_at "mine pad 42") => `(tactic| skip)
local macro_rules | `(tactic| walk_at "mine pad 43") => `(tactic| skip)
local macro_rules | `(tactic| walk_at "mine pad 44") => `(tactic| skip)
local macro_rules | `(tactic| walk_at "mine pad 45") => `(tactic| skip)
local macro_rules | `(tactic| walk_at "mine pad 46") => `(tactic| skip)
local macro_rules | `(tactic| walk_at "mine pad 47") => `(tactic| skip)
local macro_rules | `(tactic| walk_at "mine pad 48") => `(tactic| skip)
local macro_rules | `(tactic| walk_at "mine pad 49") => `(tactic| skip)
local macro_rules | `(tactic| walk_at "mine pad 50") => `(tactic| skip)
local macro_rules | `(tactic| walk_at "mine pad 51") => `(tactic| skip)
local macro_rules | `(tactic| walk_at "mine pad 52") => `(tactic| skip)
local macro_rules | `(tactic| walk_at "mine pad 53") => `(tactic| skip)
local macro_rules | `(tactic| walk_at "mine pad 54") => `(tactic| skip)
local macro_rules | `(tactic| walk_at "mine pad 55") => `(tactic| skip)
local macro_rules | `(tactic| walk_at "mine news") => `(tactic| first | k_asm | (refine' cb_drop ?cbN ?cbS; (case cbN => assumption); (case cbS => kcj_all)))
local macro_rules | `(tactic| walk_at "mine fill") => `(tactic| (
  have key : PySem.Challenge.rw_ci0011_01 = PySem.Challenge.rw_ci0011_01 ∧ hd.heap_39 = hd.heap_39 := ⟨rfl, rfl⟩
  revert key
  k_fill
  intro _))
local macro_rules | `(tactic| walk_at "mine enter") => `(tactic| (
  refine' code_def ?k1 ?k2 ?k3 ?k4 ?k5 ?kA ?kF ?kK ?k6 ?k7 ?k8 ?k9 ?kB ?_ ?c2 ?c3 ?c4 ?c5
  (case kA => exact rfl)
  (case kF => exact rfl)
  (case kK => assumption)
  (case k1 => k_asm)
  (case k2 => k_asm)
  (case k3 => k_asm)
  (case k4 => k_asm)
  (case k5 => k_asm)
  (case k6 => k_is)
  (case k7 => k_is)
  (case k8 => ktr_room)
  (case k9 => first | exact BindsTo.of_eq rfl | exact binds_K (by k_in) rfl (by k_is) rfl rfl rfl)
  (case c5 => decide)
  (case kB => exact locs rfl)
  (case c2 => exact rfl)
  (case c3 => exact rfl)
  (case c4 => exact rfl)
  k_whole
  intro g' L' h' FG' F' N' B' X' T'
  (try dsimp only)
  (try k_lift B')
  (try k_fold)))
local macro_rules | `(tactic| walk_at "exec While Compare cons nil") => `(tactic| k_extra "mine while")
local macro_rules | `(tactic| walk_at "exec While BoolOp cons nil") => `(tactic| k_extra "mine while")
local macro_rules | `(tactic| kst_facts) => `(tactic| first | exact PyProof.Rows.StrsAre.nil | exact PyProof.Rows.StrsAre.append' (by assumption) (.cons _ _ .nil) | fail "no facts")
local macro_rules | `(tactic| walk_at "call builtin:str.join") => `(tactic| (k_here; (with_reducible show wpAny _ _ (call (Value.builtin "str.join") [Value.str _ _, Value.ref _]) _ _ _); k_dflt (refine join_listW (by is_list) (by first | assumption | k_extra "mine strs") (by decide +kernel) ?mj ?_; (case mj => k_extra "mine join"); intro _ _; (try k_extra "mine joined"))))
local macro_rules | `(tactic| walk_at "binaryOp Add str str") => `(tactic| (k_here; (with_reducible show wpAny _ _ (binaryOp Operator.Add (Value.str _ _) (Value.str _ _)) _ _ _); (refine SBL.add (hsz := ?hsz) ?_; (case hsz => (rw [PySem.sizeLine_eq]; first | omega | k_extra "mine add")); intro _ _ _)))
local macro_rules | `(tactic| walk_at "call ref") => `(tactic| (k_here; k_dflt (
  refine' Claim.use ?kc ?k1 ?k2 ?k3 ?k4 ?k5 ?kK ?kd ?ku ?_
  (case k2 => k_asm)
  (case k4 => k_asm)
  (case kc => k_extra "mine claim")
  (case k1 => k_asm)
  (case k3 => k_asm)
  (case k5 => k_asm)
  (case kK => first | exact rfl | assumption)
  (case kd => ktr_room)
  (case ku => ktr_units)
  k_whole
  intro v9 n9 h9 tk9 hp9 F9 N9
  (first | k_extra "mine post" | (obtain ⟨⟨y9, t9, e9, hy9, hl9⟩, e9'⟩ := hp9; subst e9; replace e9' := Eq.symm e9'; subst e9') | (obtain ⟨⟨t9, e9⟩, e9'⟩ := hp9; subst e9; replace e9' := Eq.symm e9'; subst e9') | (obtain ⟨e9, e9'⟩ := hp9; subst e9; replace e9' := Eq.symm e9'; subst e9') | (obtain ⟨a9, j9, t9, y9, u9, e9, e9', hj9, hy9, hl9, ⟨lo9, hi9⟩, lt9⟩ := hp9; subst e9; subst e9'; (try k_lt lt9)))
  (try dsimp only)
  (try k_fold))))
local macro_rules | `(tactic| walk_at "call builtin:str.split") => `(tactic| (k_here; (with_reducible show wpAny _ _ (call (Value.builtin "str.split") _) _ _ _); refine KSpl.split1 (by k_asm) (by k_asm) (by decide +kernel) ?_ (by rw [PySem.sizeLine_eq]; omega); intro D' l' h' k' e' a' F' N' l1; (try k_lt l1); rw [e'] at a'; generalize (strValues l') = us' at *; clear e'))
local macro_rules | `(tactic| walk_at "exec For Name Name cons nil") => `(tactic| (k_extra "mine for"; k_here; (rename Fr _ _ _ _ => lF'); (with_unfolding_all refine' For_invVF lF' ?k1 ?k2 ?_; (case k1 => exact rfl); (case k2 => exact rfl); k_whole)))
local macro_rules | `(tactic| walk_at "pyIter ref") => `(tactic| (k_here; (with_reducible show wpAny _ _ (pyIter (Value.ref _)) (fun it s₂ => LoopAtV _ _ _ _ _ _ _ _ _ it s₂) _ _); k_extra "mine iter"; (all_goals (try k_fold))))
local macro_rules | `(tactic| walk_at "TbPost") => `(tactic| (dsimp only [TbPost]))
local macro_rules | `(tactic| walk_at "TbEnd") => `(tactic| k_extra "mine turn")
local macro_rules | `(tactic| walk_at "eval ListComp") => `(tactic| (k_here; k_extra "mine comp"))
local macro_rules | `(tactic| walk_at "call type:enumerate") => `(tactic| (k_here; k_extra "mine enum"))
local macro_rules | `(tactic| walk_at "subscriptTail Name Slice ref ref") => `(tactic| (k_here; k_extra "mine slice"))
local macro_rules | `(tactic| walk_at "binaryOp Add ref ref") => `(tactic| (k_here; k_extra "mine addl"))
local macro_rules | `(tactic| walk_at "CEnd") => `(tactic| exact ⟨_, _, rfl, by k_asm, by k_asm⟩)
local macro_rules | `(tactic| walk_at "IntsAre") => `(tactic| k_extra "mine ints")
theorem clean_src (w : World) (news : List (Addr × Obj)) (x : Str) (t : Tok) (k : Int) (u : Tok) (hx : x.length ≤ 65536) (hk0 : 0 < k) (hk1 : k ≤ 65536) :
    Claim w 71 3 news [.str x t, .int k u] (GivesStr (txt (cleanL k x.cps.toList)) (6 * x.length + 6) news) := by
  walk_at "mine fill"
  intro dp un gd cn cs a ccd cl outer A₀ base h₀ L m s Q E mean mg mb B F X N T hk hd hu hret
  refine wpAny_call ?_
  k_dflt walk_at "mine enter"
  w_top off
  k_with_none
  k_with "mine for" => skip
  k_with "mine iter" => (k_dflt (refine' lo_texts (fun y => txt (lineL k y.cps.toList)) rfl ?ls ?lf ?ln ?l0 ?lt ?ld; (case lf => k_asm); (case ln => k_asm); (case ls => assumption); (case l0 => exact rfl)); (case' lt => intro i9 y9 t9 us9 ws9 n9 h9 tk9 own9 hy9 hi9 hS9 hw9 hl9 ho9 F9 N9; have kMark := kstMark; have hsc := split_count x; have hsi := split_item hy9; have hLen := PyProof.Rows.StrsAre.length hS9); (case' ld => intro us9 n9 u9 h9 tk9 hS9 F9 N9))
  k_with "mine claim" => first
    | exact has_indent _ _ _ _ _ _ (by assumption)
    | exact strip_indent _ _ _ _ _ _ (by omega) (by first | assumption | exact of_decide_eq_true (by assumption)) (by omega)
    | exact expand_tabs0 _ _ _ _ (by omega)
  k_with "mine join" => (have hcw := clean_weight (x := x) (Int.le_of_lt hk0) hx; omega)
  k_with "mine joined" => have hj := clean_eq k x
  k_with "mine turn" => ((rename News _ _ _ _ => nE'); (try simp only [List.push_toArray] at nE'); refine' lo_texts_end ?eF nE' ?en ?eo ?eS ?em; (case eF => k_asm); (case en => exact fun p hp => hp); (case eo => assumption); (case eS => first | exact strs_end hS9 (line_yes (by assumption) (by first | assumption | exact of_decide_eq_true (by assumption))) | exact strs_end hS9 (line_no (by assumption) (by first | assumption | exact of_decide_eq_false (by assumption)))); (case em => intro z hz; (first | rfl | (simp [hz]; done))))
  k_steps
  exact hret _ news _ _ (.mk hj (cleanL_len (Int.le_of_lt hk0) hx)) (by k_asm) (by walk_at "mine news")
end Mine
end

section
open PySem PySem.W PyProof.Rows
set_option maxRecDepth 100000
set_option maxHeartbeats 8000000
namespace Mine
local macro_rules | `(tactic| walk_at "mine pad 0") => `(tactic| skip)
local macro_rules | `(tactic| walk_at "mine pad 1") => `(tactic| skip)
local macro_rules | `(tactic| walk_at "mine pad 2") => `(tactic| skip)
local macro_rules | `(tactic| walk_at "mine pad 3") => `(tactic| skip)
local macro_rules | `(tactic| walk_at "mine pad 4") => `(tactic| skip)
local macro_rules | `(tactic| walk_at "mine pad 5") => `(tactic| skip)
local macro_rules | `(tactic| walk_at "mine pad 6") => `(tactic| skip)
local macro_rules | `(tactic| walk_at "mine pad 7") => `(tactic| skip)
local macro_rules | `(tactic| walk_at "mine pad 8") => `(tactic| skip)
local macro_rules | `(tactic| walk_at "mine pad 9") => `(tactic| skip)
local macro_rules | `(tactic| walk_at "mine pad 10") => `(tactic| skip)
local macro_rules | `(tactic| walk_at "mine pad 11") => `(tactic| skip)
local macro_rules | `(tactic| walk_at "mine pad 12") => `(tactic| skip)
local macro_rules | `(tactic| walk_at "mine pad 13") => `(tactic| skip)
local macro_rules | `(tactic| walk_at "mine pad 14") => `(tactic| skip)
local macro_rules | `(tactic| walk_at "mine pad 15") => `(tactic| skip)
local macro_rules | `(tactic| walk_at "mine pad 16") => `(tactic| skip)
local macro_rules | `(tactic| walk_at "mine pad 17") => `(tactic| skip)
local macro_rules | `(tactic| walk_at "mine pad 18") => `(tactic| skip)
local macro_rules | `(tactic| walk_at "mine pad 19") => `(tactic| skip)
local macro_rules | `(tactic| walk_at "mine pad 20") => `(tactic| skip)
local macro_rules | `(tactic| walk_at "mine pad 21") => `(tactic| skip)
local macro_rules | `(tactic| walk_at "mine pad 22") => `(tactic| skip)
local macro_rules | `(tactic| walk_at "mine pad 23") => `(tactic| skip)
local macro_rules | `(tactic| walk_at "mine pad 24") => `(tactic| skip)
local macro_rules | `(tactic| walk_at "mine pad 25") => `(tactic| skip)
local macro_rules | `(tactic| walk_at "mine pad 26") => `(tactic| skip)
local macro_rules | `(tactic| walk_at "mine pad 27") => `(tactic| skip)
local macro_rules | `(tactic| walk_at "mine pad 28") => `(tactic| skip)
local macro_rules | `(tactic| walk_at "mine pad 29") => `(tactic| skip)
local macro_rules | `(tactic| walk_at "mine pad 30") => `(tactic| skip)
local macro_rules | `(tactic| walk_at "mine pad 31") => `(tactic| skip)
local macro_rules | `(tactic| walk_at "mine pad 32") => `(tactic| skip)
local macro_rules | `(tactic| walk_at "mine pad 33") => `(tactic| skip)
local macro_rules | `(tactic| walk_at "mine pad 34") => `(tactic| skip)
local macro_rules | `(tactic| walk_at "mine pad 35") => `(tactic| skip)
local macro_rules | `(tactic| walk_at "mine pad 36") => `(tactic| skip)
local macro_rules | `(tactic| walk_at "mine pad 37") => `(tactic| skip)
local macro_rules | `(tactic| walk_at "mine pad 38") => `(tactic| skip)
local macro_rules | `(tactic| walk_at "mine pad 39") => `(tactic| skip)
local macro_rules | `(tactic| walk_at "mine pad 40") => `(tactic| skip)
local macro_rules | `(tactic| walk_at "mine pad 41") => `(tactic| skip)
local macro_rules | `(tactic| walk_at "mine pad 42") => `(tactic| skip)
local macro_rules | `(tactic| walk_at "mine pad 43") => `(tactic| skip)
local macro_rules | `(tactic| walk_at "mine pad 44") => `(tactic| skip)
local macro_rules | `(tactic| walk_at "mine pad 45") => `(tactic| skip)
local macro_rules | `(tactic| walk_at "mine pad 46") => `(tactic| skip)
local macro_rules | `(tactic| walk_at "mine pad 47") => `(tactic| skip)
local macro_rules | `(tactic| walk_at "mine pad 48") => `(tactic| skip)
local macro_rules | `(tactic| walk_at "mine pad 49") => `(tactic| skip)
local macro_rules | `(tactic| walk_at "mine pad 50") => `(tactic| skip)
local macro_rules | `(tactic| walk_at "mine pad 51") => `(tactic| skip)
local macro_rules | `(tactic| walk_at "mine pad 52") => `(tactic| skip)
local macro_rules | `(tactic| walk_at "mine pad 53") => `(tactic| skip)
local macro_rules | `(tactic| walk_at "mine pad 54") => `(tactic| skip)
local macro_rules | `(tactic| walk_at "mine pad 55") => `(tactic| skip)
local macro_rules | `(tactic| walk_at "mine pad 56") => `(tactic| skip)
local macro_rules | `(tactic| walk_at "mine pad 57") => `(tactic| skip)
local macro_rules | `(tactic| walk_at "mine pad 58") => `(tactic| skip)
local macro_rules | `(tactic| walk_at "mine pad 59") => `(tactic| skip)
local macro_rules | `(tactic| walk_at "mine pad 60") => `(tactic| skip)
local macro_rules | `(tactic| walk_at "mine pad 61") => `(tactic| skip)
local macro_rules | `(tactic| walk_at "mine pad 62") => `(tactic| skip)
local macro_rules | `(tactic| walk_at "mine news") => `(tactic| first | k_asm | (refine' cb_drop ?cbN ?cbS; (case cbN => assumption); (case cbS => kcj_all)))
local macro_rules | `(tactic| walk_at "mine fill") => `(tactic| (
  have key : PySem.Challenge.rw_ci0011_01 = PySem.Challenge.rw_ci0011_01 ∧ hd.heap_39 = hd.heap_39 := ⟨rfl, rfl⟩
  revert key
  k_fill
  intro _))
local macro_rules | `(tactic| walk_at "mine enter") => `(tactic| (
  refine' code_def ?k1 ?k2 ?k3 ?k4 ?k5 ?kA ?kF ?kK ?k6 ?k7 ?k8 ?k9 ?kB ?_ ?c2 ?c3 ?c4 ?c5
  (case kA => exact rfl)
  (case kF => exact rfl)
  (case kK => assumption)
  (case k1 => k_asm)
  (case k2 => k_asm)
  (case k3 => k_asm)
  (case k4 => k_asm)
  (case k5 => k_asm)
  (case k6 => k_is)
  (case k7 => k_is)
  (case k8 => ktr_room)
  (case k9 => first | exact BindsTo.of_eq rfl | exact binds_K (by k_in) rfl (by k_is) rfl rfl rfl)
  (case c5 => decide)
  (case kB => exact locs rfl)
  (case c2 => exact rfl)
  (case c3 => exact rfl)
  (case c4 => exact rfl)
  k_whole
  intro g' L' h' FG' F' N' B' X' T'
  (try dsimp only)
  (try k_lift B')
  (try k_fold)))
local macro_rules | `(tactic| walk_at "exec While Compare cons nil") => `(tactic| k_extra "mine while")
local macro_rules | `(tactic| walk_at "exec While BoolOp cons nil") => `(tactic| k_extra "mine while")
local macro_rules | `(tactic| kst_facts) => `(tactic| first | exact PyProof.Rows.StrsAre.nil | exact PyProof.Rows.StrsAre.append' (by assumption) (.cons _ _ .nil) | fail "no facts")
local macro_rules | `(tactic| walk_at "call builtin:str.join") => `(tactic| (k_here; (with_reducible show wpAny _ _ (call (Value.builtin "str.join") [Value.str _ _, Value.ref _]) _ _ _); k_dflt (refine join_listW (by is_list) (by first | assumption | k_extra "mine strs") (by decide +kernel) ?mj ?_; (case mj => k_extra "mine join"); intro _ _; (try k_extra "mine joined"))))
local macro_rules | `(tactic| walk_at "binaryOp Add str str") => `(tactic| (k_here; (with_reducible show wpAny _ _ (binaryOp Operator.Add (Value.str _ _) (Value.str _ _)) _ _ _); (refine SBL.add (hsz := ?hsz) ?_; (case hsz => (rw [PySem.sizeLine_eq]; first | omega | k_extra "mine add")); intro _ _ _)))
local macro_rules | `(tactic| walk_at "call ref") => `(tactic| (k_here; k_dflt (
  refine' Claim.use ?kc ?k1 ?k2 ?k3 ?k4 ?k5 ?kK ?kd ?ku ?_
  (case k2 => k_asm)
  (case k4 => k_asm)
  (case kc => k_extra "mine claim")
  (case k1 => k_asm)
  (case k3 => k_asm)
  (case k5 => k_asm)
  (case kK => first | exact rfl | assumption)
  (case kd => ktr_room)
  (case ku => ktr_units)
  k_whole
  intro v9 n9 h9 tk9 hp9 F9 N9
  (first | k_extra "mine post" | (obtain ⟨⟨y9, t9, e9, hy9, hl9⟩, e9'⟩ := hp9; subst e9; replace e9' := Eq.symm e9'; subst e9') | (obtain ⟨⟨t9, e9⟩, e9'⟩ := hp9; subst e9; replace e9' := Eq.symm e9'; subst e9') | (obtain ⟨e9, e9'⟩ := hp9; subst e9; replace e9' := Eq.symm e9'; subst e9') | (obtain ⟨a9, j9, t9, y9, u9, e9, e9', hj9, hy9, hl9, ⟨lo9, hi9⟩, lt9⟩ := hp9; subst e9; subst e9'; (try k_lt lt9)))
  (try dsimp only)
  (try k_fold))))
local macro_rules | `(tactic| walk_at "call builtin:str.split") => `(tactic| (k_here; (with_reducible show wpAny _ _ (call (Value.builtin "str.split") _) _ _ _); refine KSpl.split1 (by k_asm) (by k_asm) (by decide +kernel) ?_ (by rw [PySem.sizeLine_eq]; omega); intro D' l' h' k' e' a' F' N' l1; (try k_lt l1); rw [e'] at a'; generalize (strValues l') = us' at *; clear e'))
local macro_rules | `(tactic| walk_at "exec For Name Name cons nil") => `(tactic| (k_extra "mine for"; k_here; (rename Fr _ _ _ _ => lF'); (with_unfolding_all refine' For_invVF lF' ?k1 ?k2 ?_; (case k1 => exact rfl); (case k2 => exact rfl); k_whole)))
local macro_rules | `(tactic| walk_at "pyIter ref") => `(tactic| (k_here; (with_reducible show wpAny _ _ (pyIter (Value.ref _)) (fun it s₂ => LoopAtV _ _ _ _ _ _ _ _ _ it s₂) _ _); k_extra "mine iter"; (all_goals (try k_fold))))
local macro_rules | `(tactic| walk_at "TbPost") => `(tactic| (dsimp only [TbPost]))
local macro_rules | `(tactic| walk_at "TbEnd") => `(tactic| k_extra "mine turn")
local macro_rules | `(tactic| walk_at "eval ListComp") => `(tactic| (k_here; k_extra "mine comp"))
local macro_rules | `(tactic| walk_at "call type:enumerate") => `(tactic| (k_here; k_extra "mine enum"))
local macro_rules | `(tactic| walk_at "subscriptTail Name Slice ref ref") => `(tactic| (k_here; k_extra "mine slice"))
local macro_rules | `(tactic| walk_at "binaryOp Add ref ref") => `(tactic| (k_here; k_extra "mine addl"))
local macro_rules | `(tactic| walk_at "CEnd") => `(tactic| exact ⟨_, _, rfl, by k_asm, by k_asm⟩)
local macro_rules | `(tactic| walk_at "IntsAre") => `(tactic| k_extra "mine ints")
theorem build_source (w : World) (news : List (Addr × Obj)) (x : Str) (t : Tok) (y : Str) (t' : Tok) (k : Int) (u : Tok) (hx : x.length ≤ 65536) (hy : y.length ≤ 65536) (hk0 : 0 < k) (hk1 : k ≤ 65536) :
    Claim w 57 4 news [.str x t, .str y t', .int k u] (GivesStrP (fun z => StripRel (x.cps.toList ++ cleanL k y.cps.toList) z.cps.toList) (x.length + 6 * y.length + 7) news) := by
  walk_at "mine fill"
  intro dp un gd cn cs a ccd cl outer A₀ base h₀ L m s Q E mean mg mb B F X N T hk hd hu hret
  refine wpAny_call ?_
  k_dflt walk_at "mine enter"
  w_top off
  k_with_none
  k_with "mine claim" => first
    | exact clean_src _ _ _ _ _ _ (by omega) (by omega) (by omega)
    | exact strip_end _ _ _ _ (by omega)
  k_steps
  exact hret _ news _ _ (.mk (strip_of (by assumption) (by assumption)) (by omega)) (by k_asm) (by walk_at "mine news")
end Mine
end

section
open PySem PySem.W PyProof.Rows
set_option maxRecDepth 100000
set_option maxHeartbeats 8000000
namespace Mine
local macro_rules | `(tactic| walk_at "mine pad 0") => `(tactic| skip)
local macro_rules | `(tactic| walk_at "mine pad 1") => `(tactic| skip)
local macro_rules | `(tactic| walk_at "mine pad 2") => `(tactic| skip)
local macro_rules | `(tactic| walk_at "mine pad 3") => `(tactic| skip)
local macro_rules | `(tactic| walk_at "mine pad 4") => `(tactic| skip)
local macro_rules | `(tactic| walk_at "mine pad 5") => `(tactic| skip)
local macro_rules | `(tactic| walk_at "mine pad 6") => `(tactic| skip)
local macro_rules | `(tactic| walk_at "mine pad 7") => `(tactic| skip)
local macro_rules | `(tactic| walk_at "mine pad 8") => `(tactic| skip)
local macro_rules | `(tactic| walk_at "mine pad 9") => `(tactic| skip)
local macro_rules | `(tactic| walk_at "mine pad 10") => `(tactic| skip)
local macro_rules | `(tactic| walk_at "mine pad 11") => `(tactic| skip)
local macro_rules | `(tactic| walk_at "mine pad 12") => `(tactic| skip)
local macro_rules | `(tactic| walk_at "mine pad 13") => `(tactic| skip)
local macro_rules | `(tactic| walk_at "mine pad 14") => `(tactic| skip)
local macro_rules | `(tactic| walk_at "mine pad 15") => `(tactic| skip)
local macro_rules | `(tactic| walk_at "mine pad 16") => `(tactic| skip)
local macro_rules | `(tactic| walk_at "mine pad 17") => `(tactic| skip)
local macro_rules | `(tactic| walk_at "mine pad 18") => `(tactic| skip)
local macro_rules | `(tactic| walk_at "mine pad 19") => `(tactic| skip)
local macro_rules | `(tactic| walk_at "mine pad 20") => `(tactic| skip)
local macro_rules | `(tactic| walk_at "mine pad 21") => `(tactic| skip)
local macro_rules | `(tactic| walk_at "mine pad 22") => `(tactic| skip)
local macro_rules | `(tactic| walk_at "mine pad 23") => `(tactic| skip)
local macro_rules | `(tactic| walk_at "mine pad 24") => `(tactic| skip)
local macro_rules | `(tactic| walk_at "mine pad 25") => `(tactic| skip)
local macro_rules | `(tactic| walk_at "mine pad 26") => `(tactic| skip)
local macro_rules | `(tactic| walk_at "mine pad 27") => `(tactic| skip)
local macro_rules | `(tactic| walk_at "mine pad 28") => `(tactic| skip)
local macro_rules | `(tactic| walk_at "mine pad 29") => `(tactic| skip)
local macro_rules | `(tactic| walk_at "mine pad 30") => `(tactic| skip)
local macro_rules | `(tactic| walk_at "mine pad 31") => `(tactic| skip)
local macro_rules | `(tactic| walk_at "mine pad 32") => `(tactic| skip)
local macro_rules | `(tactic| walk_at "mine pad 33") => `(tactic| skip)
local macro_rules | `(tactic| walk_at "mine pad 34") => `(tactic| skip)
local macro_rules | `(tactic| walk_at "mine pad 35") => `(tactic| skip)
local macro_rules | `(tactic| walk_at "mine pad 36") => `(tactic| skip)
local macro_rules | `(tactic| walk_at "mine pad 37") => `(tactic| skip)
local macro_rules | `(tactic| walk_at "mine pad 38") => `(tactic| skip)
local macro_rules | `(tactic| walk_at "mine pad 39") => `(tactic| skip)
local macro_rules | `(tactic| walk_at "mine pad 40") => `(tactic| skip)
local macro_rules | `(tactic| walk_at "mine pad 41") => `(tactic| skip)
local macro_rules | `(tactic| walk_at "mine pad 42") => `(tactic| skip)
local macro_rules | `(tactic| walk_at "mine pad 43") => `(tactic| skip)
local macro_rules | `(tactic| walk_at "mine pad 44") => `(tactic| skip)
local macro_rules | `(tactic| walk_at "mine pad 45") => `(tactic| skip)
local macro_rules | `(tactic| walk_at "mine pad 46") => `(tactic| skip)
local macro_rules | `(tactic| walk_at "mine pad 47") => `(tactic| skip)
local macro_rules | `(tactic| walk_at "mine pad 48") => `(tactic| skip)
local macro_rules | `(tactic| walk_at "mine pad 49") => `(tactic| skip)
local macro_rules | `(tactic| walk_at "mine pad 50") => `(tactic| skip)
local macro_rules | `(tactic| walk_at "mine pad 51") => `(tactic| skip)
local macro_rules | `(tactic| walk_at "mine pad 52") => `(tactic| skip)
local macro_rules | `(tactic| walk_at "mine pad 53") => `(tactic| skip)
local macro_rules | `(tactic| walk_at "mine pad 54") => `(tactic| skip)
local macro_rules | `(tactic| walk_at "mine pad 55") => `(tactic| skip)
local macro_rules | `(tactic| walk_at "mine pad 56") => `(tactic| skip)
local macro_rules | `(tactic| walk_at "mine pad 57") => `(tactic| skip)
local macro_rules | `(tactic| walk_at "mine pad 58") => `(tactic| skip)
local macro_rules | `(tactic| walk_at "mine pad 59") => `(tactic| skip)
local macro_rules | `(tactic| walk_at "mine pad 60") => `(tactic| skip)
local macro_rules | `(tactic| walk_at "mine pad 61") => `(tactic| skip)
local macro_rules | `(tactic| walk_at "mine pad 62") => `(tactic| skip)
local macro_rules | `(tactic| walk_at "mine pad 63") => `(tactic| skip)
local macro_rules | `(tactic| walk_at "mine pad 64") => `(tactic| skip)
local macro_rules | `(tactic| walk_at "mine pad 65") => `(tactic| skip)
local macro_rules | `(tactic| walk_at "mine pad 66") => `(tactic| skip)
local macro_rules | `(tactic| walk_at "mine pad 67") => `(tactic| skip)
local macro_rules | `(tactic| walk_at "mine pad 68") => `(tactic| skip)
local macro_rules | `(tactic| walk_at "mine pad 69") => `(tactic| skip)
local macro_rules | `(tactic| walk_at "mine news") => `(tactic| first | k_asm | (refine' cb_drop ?cbN ?cbS; (case cbN => assumption); (case cbS => kcj_all)))
local macro_rules | `(tactic| walk_at "mine fill") => `(tactic| (
  have key : PySem.Challenge.rw_ci0011_01 = PySem.Challenge.rw_ci0011_01 ∧ hd.heap_39 = hd.heap_39 := ⟨rfl, rfl⟩
  revert key
  k_fill
  intro _))
local macro_rules | `(tactic| walk_at "mine enter") => `(tactic| (
  refine' code_def ?k1 ?k2 ?k3 ?k4 ?k5 ?kA ?kF ?kK ?k6 ?k7 ?k8 ?k9 ?kB ?_ ?c2 ?c3 ?c4 ?c5
  (case kA => exact rfl)
  (case kF => exact rfl)
  (case kK => assumption)
  (case k1 => k_asm)
  (case k2 => k_asm)
  (case k3 => k_asm)
  (case k4 => k_asm)
  (case k5 => k_asm)
  (case k6 => k_is)
  (case k7 => k_is)
  (case k8 => ktr_room)
  (case k9 => first | exact BindsTo.of_eq rfl | exact binds_K (by k_in) rfl (by k_is) rfl rfl rfl)
  (case c5 => decide)
  (case kB => exact locs rfl)
  (case c2 => exact rfl)
  (case c3 => exact rfl)
  (case c4 => exact rfl)
  k_whole
  intro g' L' h' FG' F' N' B' X' T'
  (try dsimp only)
  (try k_lift B')
  (try k_fold)))
local macro_rules | `(tactic| walk_at "exec While Compare cons nil") => `(tactic| k_extra "mine while")
local macro_rules | `(tactic| walk_at "exec While BoolOp cons nil") => `(tactic| k_extra "mine while")
local macro_rules | `(tactic| kst_facts) => `(tactic| first | exact PyProof.Rows.StrsAre.nil | exact PyProof.Rows.StrsAre.append' (by assumption) (.cons _ _ .nil) | fail "no facts")
local macro_rules | `(tactic| walk_at "call builtin:str.join") => `(tactic| (k_here; (with_reducible show wpAny _ _ (call (Value.builtin "str.join") [Value.str _ _, Value.ref _]) _ _ _); k_dflt (refine join_listW (by is_list) (by first | assumption | k_extra "mine strs") (by decide +kernel) ?mj ?_; (case mj => k_extra "mine join"); intro _ _; (try k_extra "mine joined"))))
local macro_rules | `(tactic| walk_at "binaryOp Add str str") => `(tactic| (k_here; (with_reducible show wpAny _ _ (binaryOp Operator.Add (Value.str _ _) (Value.str _ _)) _ _ _); (refine SBL.add (hsz := ?hsz) ?_; (case hsz => (rw [PySem.sizeLine_eq]; first | omega | k_extra "mine add")); intro _ _ _)))
local macro_rules | `(tactic| walk_at "call ref") => `(tactic| (k_here; k_dflt (
  refine' Claim.use ?kc ?k1 ?k2 ?k3 ?k4 ?k5 ?kK ?kd ?ku ?_
  (case k2 => k_asm)
  (case k4 => k_asm)
  (case kc => k_extra "mine claim")
  (case k1 => k_asm)
  (case k3 => k_asm)
  (case k5 => k_asm)
  (case kK => first | exact rfl | assumption)
  (case kd => ktr_room)
  (case ku => ktr_units)
  k_whole
  intro v9 n9 h9 tk9 hp9 F9 N9
  (first | k_extra "mine post" | (obtain ⟨⟨y9, t9, e9, hy9, hl9⟩, e9'⟩ := hp9; subst e9; replace e9' := Eq.symm e9'; subst e9') | (obtain ⟨⟨t9, e9⟩, e9'⟩ := hp9; subst e9; replace e9' := Eq.symm e9'; subst e9') | (obtain ⟨e9, e9'⟩ := hp9; subst e9; replace e9' := Eq.symm e9'; subst e9') | (obtain ⟨a9, j9, t9, y9, u9, e9, e9', hj9, hy9, hl9, ⟨lo9, hi9⟩, lt9⟩ := hp9; subst e9; subst e9'; (try k_lt lt9)))
  (try dsimp only)
  (try k_fold))))
local macro_rules | `(tactic| walk_at "call builtin:str.split") => `(tactic| (k_here; (with_reducible show wpAny _ _ (call (Value.builtin "str.split") _) _ _ _); refine KSpl.split1 (by k_asm) (by k_asm) (by decide +kernel) ?_ (by rw [PySem.sizeLine_eq]; omega); intro D' l' h' k' e' a' F' N' l1; (try k_lt l1); rw [e'] at a'; generalize (strValues l') = us' at *; clear e'))
local macro_rules | `(tactic| walk_at "exec For Name Name cons nil") => `(tactic| (k_extra "mine for"; k_here; (rename Fr _ _ _ _ => lF'); (with_unfolding_all refine' For_invVF lF' ?k1 ?k2 ?_; (case k1 => exact rfl); (case k2 => exact rfl); k_whole)))
local macro_rules | `(tactic| walk_at "pyIter ref") => `(tactic| (k_here; (with_reducible show wpAny _ _ (pyIter (Value.ref _)) (fun it s₂ => LoopAtV _ _ _ _ _ _ _ _ _ it s₂) _ _); k_extra "mine iter"; (all_goals (try k_fold))))
local macro_rules | `(tactic| walk_at "TbPost") => `(tactic| (dsimp only [TbPost]))
local macro_rules | `(tactic| walk_at "TbEnd") => `(tactic| k_extra "mine turn")
local macro_rules | `(tactic| walk_at "eval ListComp") => `(tactic| (k_here; k_extra "mine comp"))
local macro_rules | `(tactic| walk_at "call type:enumerate") => `(tactic| (k_here; k_extra "mine enum"))
local macro_rules | `(tactic| walk_at "subscriptTail Name Slice ref ref") => `(tactic| (k_here; k_extra "mine slice"))
local macro_rules | `(tactic| walk_at "binaryOp Add ref ref") => `(tactic| (k_here; k_extra "mine addl"))
local macro_rules | `(tactic| walk_at "CEnd") => `(tactic| exact ⟨_, _, rfl, by k_asm, by k_asm⟩)
local macro_rules | `(tactic| walk_at "IntsAre") => `(tactic| k_extra "mine ints")
theorem len_many {prog : Program} {w : World} {A : Around} {E : Value → Shared → Prop} {s : Shared} {l : Addr} {items : Array Value} {k : Nat} {Q : Value → Shared → Prop} (hl : s.heap.IsList l items) (hk : items.size = k) (hz : k ≤ 16777216) (h : Q (.int k (s.toks + 1)) { s with toks := s.toks + 1 + 1 }) :
    wpAny (model prog w) A (call (.builtin "len") [.ref l]) Q E s := by
  subst hk
  exact len_list hl (by omega) h
local macro_rules | `(tactic| walk_at "call builtin:len") => `(tactic| (k_here; (with_reducible show wpAny _ _ (call (Value.builtin "len") [Value.ref _]) _ _ _);  (k_dflt (refine' len_many ?k1 ?k2 ?k3 ?_; (case k1 => exact News.isList (by k_asm) (by k_mem)); (case k2 => (k_extra "mine len")); (case k3 => (k_extra "mine lens")); k_whole))))
theorem end_yes {x : Str} {M : Int} (ha : M ∈ [0] ++ nbIdx (Txt.split x (Str.ofString "\n")) (Txt.split x (Str.ofString "\n")).length)
    (hb : ∀ a ∈ [0] ++ nbIdx (Txt.split x (Str.ofString "\n")) (Txt.split x (Str.ofString "\n")).length, a ≤ M) (hq : M + 1 < ((Txt.split x (Str.ofString "\n")).length : Int)) :
    EndRel x.cps.toList (Txt.join (Str.ofString "\n") ((Txt.split x (Str.ofString "\n")).take (M + 1).toNat) ++ (Str.ofString "\n")).cps.toList :=
  end_rel ⟨ha, hb⟩ (tl := [10]) (by rw [if_pos hq]) (by rw [app_L, ofString_nl])
theorem end_no {x : Str} {M : Int} (ha : M ∈ [0] ++ nbIdx (Txt.split x (Str.ofString "\n")) (Txt.split x (Str.ofString "\n")).length)
    (hb : ∀ a ∈ [0] ++ nbIdx (Txt.split x (Str.ofString "\n")) (Txt.split x (Str.ofString "\n")).length, a ≤ M) (hq : ¬ M + 1 < ((Txt.split x (Str.ofString "\n")).length : Int)) :
    EndRel x.cps.toList (Txt.join (Str.ofString "\n") ((Txt.split x (Str.ofString "\n")).take (M + 1).toNat) ++ (Str.ofString "")).cps.toList :=
  end_rel ⟨ha, hb⟩ (tl := []) (by rw [if_neg hq]) (by rw [app_L, ofString_nil])
theorem end_len {x y : Str} {k : Nat} (hy : y.length ≤ 1) : (Txt.join (Str.ofString "\n") ((Txt.split x (Str.ofString "\n")).take k) ++ y).length ≤ x.length + 2 := by
  have h := take_join_len x k
  rw [len_L, app_L, List.length_append, ← len_L, ← len_L]; omega
theorem law_ended (w : World) (news : List (Addr × Obj)) (x : Str) (t : Tok) (hx : x.length ≤ 1000000) :
    Claim w 140 1 news [.str x t] (GivesStrP (fun z => EndRel x.cps.toList z.cps.toList) (x.length + 2) news) := by
  walk_at "mine fill"
  intro dp un gd cn cs a ccd cl outer A₀ base h₀ L m s Q E mean mg mb B F X N T hk hd hu hret
  refine wpAny_call ?_
  k_dflt walk_at "mine enter"
  w_top off
  k_with_none
  k_with "mine comp" => (k_dflt (refine listcomp_enum (cl := []) (by rfl) (by rfl) (by decide) ?_))
  k_with "mine enum" =>  (k_dflt (refine' enum_comp (fun i ys => IntsAre ys (nbIdx (Txt.split x (Str.ofString "\n")) i)) rfl ?qf ?qn ?qm ?qc ?qd ?qs (by decide) rfl (by rfl) (by rfl) (by decide) IntsAre.nil ?qt ?qz; (case qf => k_asm); (case qn => k_asm); (case qm => k_mem); (case qc => exact rfl); (case qd => exact rfl); (case qs => (rw [PyProof.Rows.StrsAre.length (by assumption), PySem.sizeLine_eq]; have hsc := split_count x; omega))); (case' qt => intro i9 ys9 v9 t9 C9 oC9 m9 h9 tk9 own9 E9 hJ9 hv9 hC9 ha9 hb9 F9 N9; obtain ⟨y9, u9, hy9, rfl⟩ := strs_at (by assumption) hv9; have kMark := kstMark; have hsi := split_item hy9); (case' qz => intro ys9 D9 h9 tk9 hJ9 F9 N9 l9))
  k_with "mine ints" => first
    | exact nb_step_yes (by assumption) (by assumption) (by assumption)
    | exact nb_step_no (by assumption) (by assumption) (by assumption)
  k_with "mine addl" => (have hsc := split_count x; have hlu := PyProof.Rows.StrsAre.length (by assumption : StrsAre _ (Txt.split x (Str.ofString "\n"))); rw [hlu] at hJ9; have hni := nbIdx_len (Txt.split x (Str.ofString "\n")) (Txt.split x (Str.ofString "\n")).length; k_dflt (refine' kmk_add_ints ?al1 ?al2 ?al3 ?al4 ?al5 ?al6 ?_ ?al7; (case al1 => k_asm); (case al2 => k_asm); (case al3 => kmk_list); (case al4 => kmk_list); (case al5 => l_ints); (case al6 => assumption); (case al7 => (rw [PySem.sizeLine_eq]; simp only [List.length_cons, List.length_nil]; omega))); intro D' ws' h' F' N' l1 hI'; (try k_lt l1))
  k_with "mine slice" => (have hlb := LastNb.bounds (lines := Txt.split x (Str.ofString "\n")) ⟨(by assumption), (by assumption)⟩; first | (exfalso; omega) | skip; k_dflt (refine' kmk_slice_lit ?sl1 ?sl2 ?sl3 ?sl4 ?sl5 ?sl6 ?_ ?sl7 ?sl8 ?sl9; (case sl1 => k_asm); (case sl2 => k_asm); (case sl3 => kmk_list); (case sl4 => kmk_part); (case sl5 => kmk_part); (case sl6 => exact pick_upto (by omega)); (case sl7 => with_unfolding_all rfl); (case sl8 => kmk_pure); (case sl9 => (rw [List.size_toArray, PySem.sizeLine_eq]; omega))); intro D' h' F' N' l1; (try k_lt l1); have hS8 := strs_take (by assumption : StrsAre _ (Txt.split x (Str.ofString "\n"))))
  k_with "mine strs" => exact hS8 _
  k_with "mine join" => exact Nat.le_trans (take_weight x _) (by omega)
  k_with "mine joined" => skip
  k_with "mine len" => exact Eq.trans List.size_toArray hlu
  k_with "mine lens" => exact Nat.le_trans hsc (by omega)
  k_with "mine add" => exact Nat.le_trans (Nat.add_le_add (take_join_len x _) (show _ ≤ 1 by decide +kernel)) (by omega)
  k_steps
  · exact hret _ news _ _ (.mk (end_yes (by assumption) (by assumption) (by assumption)) (end_len (by decide +kernel))) (by k_asm) (by walk_at "mine news")
  · exact hret _ news _ _ (.mk (end_no (by assumption) (by assumption) (by assumption)) (end_len (by decide +kernel))) (by k_asm) (by walk_at "mine news")
end Mine
end

section
open PySem PySem.W PyProof.Rows
set_option maxRecDepth 100000
set_option maxHeartbeats 8000000
namespace Mine
local macro_rules | `(tactic| walk_at "mine pad 0") => `(tactic| skip)
local macro_rules | `(tactic| walk_at "mine pad 1") => `(tactic| skip)
local macro_rules | `(tactic| walk_at "mine pad 2") => `(tactic| skip)
local macro_rules | `(tactic| walk_at "mine pad 3") => `(tactic| skip)
local macro_rules | `(tactic| walk_at "mine pad 4") => `(tactic| skip)
local macro_rules | `(tactic| walk_at "mine pad 5") => `(tactic| skip)
local macro_rules | `(tactic| walk_at "mine pad 6") => `(tactic| skip)
local macro_rules | `(tactic| walk_at "mine pad 7") => `(tactic| skip)
local macro_rules | `(tactic| walk_at "mine pad 8") => `(tactic| skip)
local macro_rules | `(tactic| walk_at "mine pad 9") => `(tactic| skip)
local macro_rules | `(tactic| walk_at "mine pad 10") => `(tactic| skip)
local macro_rules | `(tactic| walk_at "mine pad 11") => `(tactic| skip)
local macro_rules | `(tactic| walk_at "mine pad 12") => `(tactic| skip)
local macro_rules | `(tactic| walk_at "mine pad 13") => `(tactic| skip)
local macro_rules | `(tactic| walk_at "mine pad 14") => `(tactic| skip)
local macro_rules | `(tactic| walk_at "mine pad 15") => `(tactic| skip)
local macro_rules | `(tactic| walk_at "mine pad 16") => `(tactic| skip)
local macro_rules | `(tactic| walk_at "mine pad 17") => `(tactic| skip)
local macro_rules | `(tactic| walk_at "mine pad 18") => `(tactic| skip)
local macro_rules | `(tactic| walk_at "mine pad 19") => `(tactic| skip)
local macro_rules | `(tactic| walk_at "mine pad 20") => `(tactic| skip)
local macro_rules | `(tactic| walk_at "mine pad 21") => `(tactic| skip)
local macro_rules | `(tactic| walk_at "mine pad 22") => `(tactic| skip)
local macro_rules | `(tactic| walk_at "mine pad 23") => `(tactic| skip)
local macro_rules | `(tactic| walk_at "mine pad 24") => `(tactic| skip)
local macro_rules | `(tactic| walk_at "mine pad 25") => `(tactic| skip)
local macro_rules | `(tactic| walk_at "mine pad 26") => `(tactic| skip)
local macro_rules | `(tactic| walk_at "mine pad 27") => `(tactic| skip)
local macro_rules | `(tactic| walk_at "mine pad 28") => `(tactic| skip)
local macro_rules | `(tactic| walk_at "mine pad 29") => `(tactic| skip)
local macro_rules | `(tactic| walk_at "mine pad 30") => `(tactic| skip)
local macro_rules | `(tactic| walk_at "mine pad 31") => `(tactic| skip)
local macro_rules | `(tactic| walk_at "mine pad 32") => `(tactic| skip)
local macro_rules | `(tactic| walk_at "mine pad 33") => `(tactic| skip)
local macro_rules | `(tactic| walk_at "mine pad 34") => `(tactic| skip)
local macro_rules | `(tactic| walk_at "mine pad 35") => `(tactic| skip)
local macro_rules | `(tactic| walk_at "mine pad 36") => `(tactic| skip)
local macro_rules | `(tactic| walk_at "mine pad 37") => `(tactic| skip)
local macro_rules | `(tactic| walk_at "mine pad 38") => `(tactic| skip)
local macro_rules | `(tactic| walk_at "mine pad 39") => `(tactic| skip)
local macro_rules | `(tactic| walk_at "mine pad 40") => `(tactic| skip)
local macro_rules | `(tactic| walk_at "mine pad 41") => `(tactic| skip)
local macro_rules | `(tactic| walk_at "mine pad 42") => `(tactic| skip)
local macro_rules | `(tactic| walk_at "mine pad 43") => `(tactic| skip)
local macro_rules | `(tactic| walk_at "mine pad 44") => `(tactic| skip)
local macro_rules | `(tactic| walk_at "mine pad 45") => `(tactic| skip)
local macro_rules | `(tactic| walk_at "mine pad 46") => `(tactic| skip)
local macro_rules | `(tactic| walk_at "mine pad 47") => `(tactic| skip)
local macro_rules | `(tactic| walk_at "mine pad 48") => `(tactic| skip)
local macro_rules | `(tactic| walk_at "mine pad 49") => `(tactic| skip)
local macro_rules | `(tactic| walk_at "mine pad 50") => `(tactic| skip)
local macro_rules | `(tactic| walk_at "mine pad 51") => `(tactic| skip)
local macro_rules | `(tactic| walk_at "mine pad 52") => `(tactic| skip)
local macro_rules | `(tactic| walk_at "mine pad 53") => `(tactic| skip)
local macro_rules | `(tactic| walk_at "mine pad 54") => `(tactic| skip)
local macro_rules | `(tactic| walk_at "mine pad 55") => `(tactic| skip)
local macro_rules | `(tactic| walk_at "mine pad 56") => `(tactic| skip)
local macro_rules | `(tactic| walk_at "mine pad 57") => `(tactic| skip)
local macro_rules | `(tactic| walk_at "mine pad 58") => `(tactic| skip)
local macro_rules | `(tactic| walk_at "mine pad 59") => `(tactic| skip)
local macro_rules | `(tactic| walk_at "mine pad 60") => `(tactic| skip)
local macro_rules | `(tactic| walk_at "mine pad 61") => `(tactic| skip)
local macro_rules | `(tactic| walk_at "mine pad 62") => `(tactic| skip)
local macro_rules | `(tactic| walk_at "mine pad 63") => `(tactic| skip)
local macro_rules | `(tactic| walk_at "mine pad 64") => `(tactic| skip)
local macro_rules | `(tactic| walk_at "mine pad 65") => `(tactic| skip)
local macro_rules | `(tactic| walk_at "mine pad 66") => `(tactic| skip)
local macro_rules | `(tactic| walk_at "mine pad 67") => `(tactic| skip)
local macro_rules | `(tactic| walk_at "mine pad 68") => `(tactic| skip)
local macro_rules | `(tactic| walk_at "mine pad 69") => `(tactic| skip)
local macro_rules | `(tactic| walk_at "mine pad 70") => `(tactic| skip)
local macro_rules | `(tactic| walk_at "mine pad 71") => `(tactic| skip)
local macro_rules | `(tactic| walk_at "mine pad 72") => `(tactic| skip)
local macro_rules | `(tactic| walk_at "mine pad 73") => `(tactic| skip)
local macro_rules | `(tactic| walk_at "mine pad 74") => `(tactic| skip)
local macro_rules | `(tactic| walk_at "mine pad 75") => `(tactic| skip)
local macro_rules | `(tactic| walk_at "mine pad 76") => `(tactic| skip)
local macro_rules | `(tactic| walk_at "mine news") => `(tactic| first | k_asm | (refine' cb_drop ?cbN ?cbS; (case cbN => assumption); (case cbS => kcj_all)))
local macro_rules | `(tactic| walk_at "mine fill") => `(tactic| (
  have key : PySem.Challenge.rw_ci0011_01 = PySem.Challenge.rw_ci0011_01 ∧ hd.heap_39 = hd.heap_39 := ⟨rfl, rfl⟩
  revert key
  k_fill
  intro _))
local macro_rules | `(tactic| walk_at "mine enter") => `(tactic| (
  refine' code_def ?k1 ?k2 ?k3 ?k4 ?k5 ?kA ?kF ?kK ?k6 ?k7 ?k8 ?k9 ?kB ?_ ?c2 ?c3 ?c4 ?c5
  (case kA => exact rfl)
  (case kF => exact rfl)
  (case kK => assumption)
  (case k1 => k_asm)
  (case k2 => k_asm)
  (case k3 => k_asm)
  (case k4 => k_asm)
  (case k5 => k_asm)
  (case k6 => k_is)
  (case k7 => k_is)
  (case k8 => ktr_room)
  (case k9 => first | exact BindsTo.of_eq rfl | exact binds_K (by k_in) rfl (by k_is) rfl rfl rfl)
  (case c5 => decide)
  (case kB => exact locs rfl)
  (case c2 => exact rfl)
  (case c3 => exact rfl)
  (case c4 => exact rfl)
  k_whole
  intro g' L' h' FG' F' N' B' X' T'
  (try dsimp only)
  (try k_lift B')
  (try k_fold)))
local macro_rules | `(tactic| walk_at "exec While Compare cons nil") => `(tactic| k_extra "mine while")
local macro_rules | `(tactic| walk_at "exec While BoolOp cons nil") => `(tactic| k_extra "mine while")
local macro_rules | `(tactic| kst_facts) => `(tactic| first | exact PyProof.Rows.StrsAre.nil | exact PyProof.Rows.StrsAre.append' (by assumption) (.cons _ _ .nil) | fail "no facts")
local macro_rules | `(tactic| walk_at "call builtin:str.join") => `(tactic| (k_here; (with_reducible show wpAny _ _ (call (Value.builtin "str.join") [Value.str _ _, Value.ref _]) _ _ _); k_dflt (refine join_listW (by is_list) (by first | assumption | k_extra "mine strs") (by decide +kernel) ?mj ?_; (case mj => k_extra "mine join"); intro _ _; (try k_extra "mine joined"))))
local macro_rules | `(tactic| walk_at "binaryOp Add str str") => `(tactic| (k_here; (with_reducible show wpAny _ _ (binaryOp Operator.Add (Value.str _ _) (Value.str _ _)) _ _ _); (refine SBL.add (hsz := ?hsz) ?_; (case hsz => (rw [PySem.sizeLine_eq]; first | omega | k_extra "mine add")); intro _ _ _)))
local macro_rules | `(tactic| walk_at "call ref") => `(tactic| (k_here; k_dflt (
  refine' Claim.use ?kc ?k1 ?k2 ?k3 ?k4 ?k5 ?kK ?kd ?ku ?_
  (case k2 => k_asm)
  (case k4 => k_asm)
  (case kc => k_extra "mine claim")
  (case k1 => k_asm)
  (case k3 => k_asm)
  (case k5 => k_asm)
  (case kK => first | exact rfl | assumption)
  (case kd => ktr_room)
  (case ku => ktr_units)
  k_whole
  intro v9 n9 h9 tk9 hp9 F9 N9
  (first | k_extra "mine post" | (obtain ⟨⟨y9, t9, e9, hy9, hl9⟩, e9'⟩ := hp9; subst e9; replace e9' := Eq.symm e9'; subst e9') | (obtain ⟨⟨t9, e9⟩, e9'⟩ := hp9; subst e9; replace e9' := Eq.symm e9'; subst e9') | (obtain ⟨e9, e9'⟩ := hp9; subst e9; replace e9' := Eq.symm e9'; subst e9') | (obtain ⟨a9, j9, t9, y9, u9, e9, e9', hj9, hy9, hl9, ⟨lo9, hi9⟩, lt9⟩ := hp9; subst e9; subst e9'; (try k_lt lt9)))
  (try dsimp only)
  (try k_fold))))
local macro_rules | `(tactic| walk_at "call builtin:str.split") => `(tactic| (k_here; (with_reducible show wpAny _ _ (call (Value.builtin "str.split") _) _ _ _); refine KSpl.split1 (by k_asm) (by k_asm) (by decide +kernel) ?_ (by rw [PySem.sizeLine_eq]; omega); intro D' l' h' k' e' a' F' N' l1; (try k_lt l1); rw [e'] at a'; generalize (strValues l') = us' at *; clear e'))
local macro_rules | `(tactic| walk_at "exec For Name Name cons nil") => `(tactic| (k_extra "mine for"; k_here; (rename Fr _ _ _ _ => lF'); (with_unfolding_all refine' For_invVF lF' ?k1 ?k2 ?_; (case k1 => exact rfl); (case k2 => exact rfl); k_whole)))
local macro_rules | `(tactic| walk_at "pyIter ref") => `(tactic| (k_here; (with_reducible show wpAny _ _ (pyIter (Value.ref _)) (fun it s₂ => LoopAtV _ _ _ _ _ _ _ _ _ it s₂) _ _); k_extra "mine iter"; (all_goals (try k_fold))))
local macro_rules | `(tactic| walk_at "TbPost") => `(tactic| (dsimp only [TbPost]))
local macro_rules | `(tactic| walk_at "TbEnd") => `(tactic| k_extra "mine turn")
local macro_rules | `(tactic| walk_at "eval ListComp") => `(tactic| (k_here; k_extra "mine comp"))
local macro_rules | `(tactic| walk_at "call type:enumerate") => `(tactic| (k_here; k_extra "mine enum"))
local macro_rules | `(tactic| walk_at "subscriptTail Name Slice ref ref") => `(tactic| (k_here; k_extra "mine slice"))
local macro_rules | `(tactic| walk_at "binaryOp Add ref ref") => `(tactic| (k_here; k_extra "mine addl"))
local macro_rules | `(tactic| walk_at "CEnd") => `(tactic| exact ⟨_, _, rfl, by k_asm, by k_asm⟩)
local macro_rules | `(tactic| walk_at "IntsAre") => `(tactic| k_extra "mine ints")
theorem re_txt {y : Str} {l : List Nat} {b : Bool} (h : y = txt l) (hr : reGood l b = true) : reGood y.cps.toList b = true := by rw [h]; exact hr
local macro_rules | `(tactic| walk_at "getMethod ref") => `(tactic| (k_here; k_extra "mine getm"))
local macro_rules | `(tactic| walk_at "call builtin:re.Pattern.match") => `(tactic| (k_here; k_extra "mine match"))
local macro_rules | `(tactic| walk_at "truthy ref") => `(tactic| (k_here; refine truthy_match (by k_asm) (by k_mem) ?_))
theorem compile_width (w : World) (news : List (Addr × Obj)) (x : Str) (t : Tok) (k : Int) (u : Tok) (b : Bool) (hb0 : b = !(dropB x.cps.toList).isEmpty) (hre : reGood (expandL k x.cps.toList) b = true) (hx : x.length ≤ 1000) (hk1 : 1 ≤ k) (hk9 : k ≤ 9) :
    Claim w 64 2 news [.str x t, .int k u] (GivesSI (txt (firstL k x.cps.toList)) (firstW k x.cps.toList) (5 * x.length + 1) news) := by
  walk_at "mine fill"
  intro dp un gd cn cs a ccd cl outer A₀ base h₀ L m s Q E mean mg mb B F X N T hk hd hu hret
  refine wpAny_call ?_
  k_dflt walk_at "mine enter"
  rename Frag.In _ _ => X9
  have hPat := X9 43 _ rfl
  have hCode := X9 42 _ rfl
  w_top off
  k_with_none
  k_with "mine getm" => (k_dflt (refine getMethod_match (by k_asm) hPat ?_))
  k_with "mine match" => (k_dflt (refine re_matchK (b := b) (by k_asm) (by k_asm) hPat hCode (by rfl) (by rfl) (by rfl) (by decide +kernel) (by omega) (re_txt (by assumption) hre) ?_ ?_); (first | (intro hb D' vs' h' F' N' l1; k_lt l1) | intro hb))
  k_with "mine claim" => first
    | exact expand_tabs _ _ _ _ _ _ (by omega)
    | exact count_indent _ _ _ _
  k_steps
  · have hf := cw_far (by assumption) hb0 (by assumption) (by assumption)
    exact hret _ _ _ _ (.mk (news := news) hf.2 hf.1 (firstL_len _ _) (kst_ltOf (And.right (by assumption)))) (by k_asm) (by walk_at "mine news")
  · have hf := cw_near (by assumption) hb0 (by assumption) (by assumption)
    exact hret _ _ _ _ (.mk (news := news) hf.2 hf.1 (firstL_len _ _) (kst_ltOf (And.right (by assumption)))) (by k_asm) (by walk_at "mine news")
  · have hf := cw_none (k := k) hb0 (by assumption)
    exact hret _ _ _ _ (.mk (news := news) hf.2 hf.1 (firstL_len _ _) (by assumption)) (by k_asm) (by walk_at "mine news")
end Mine
end

section
open PySem PySem.W PyProof.Rows
set_option maxRecDepth 100000
set_option maxHeartbeats 8000000
namespace Mine
local macro_rules | `(tactic| walk_at "mine pad 0") => `(tactic| skip)
local macro_rules | `(tactic| walk_at "mine pad 1") => `(tactic| skip)
local macro_rules | `(tactic| walk_at "mine pad 2") => `(tactic| skip)
local macro_rules | `(tactic| walk_at "mine pad 3") => `(tactic| skip)
local macro_rules | `(tactic| walk_at "mine pad 4") => `(tactic| skip)
local macro_rules | `(tactic| walk_at "mine pad 5") => `(tactic| skip)
local macro_rules | `(tactic| walk_at "mine pad 6") => `(tactic| skip)
local macro_rules | `(tactic| walk_at "mine pad 7") => `(tactic| skip)
local macro_rules | `(tactic| walk_at "mine pad 8") => `(tactic| skip)
local macro_rules | `(tactic| walk_at "mine pad 9") => `(tactic| skip)
local macro_rules | `(tactic| walk_at "mine pad 10") => `(tactic| skip)
local macro_rules | `(tactic| walk_at "mine pad 11") => `(tactic| skip)
local macro_rules | `(tactic| walk_at "mine pad 12") => `(tactic| skip)
local macro_rules | `(tactic| walk_at "mine pad 13") => `(tactic| skip)
local macro_rules | `(tactic| walk_at "mine pad 14") => `(tactic| skip)
local macro_rules | `(tactic| walk_at "mine pad 15") => `(tactic| skip)
local macro_rules | `(tactic| walk_at "mine pad 16") => `(tactic| skip)
local macro_rules | `(tactic| walk_at "mine pad 17") => `(tactic| skip)
local macro_rules | `(tactic| walk_at "mine pad 18") => `(tactic| skip)
local macro_rules | `(tactic| walk_at "mine pad 19") => `(tactic| skip)
local macro_rules | `(tactic| walk_at "mine pad 20") => `(tactic| skip)
local macro_rules | `(tactic| walk_at "mine pad 21") => `(tactic| skip)
local macro_rules | `(tactic| walk_at "mine pad 22") => `(tactic| skip)
local macro_rules | `(tactic| walk_at "mine pad 23") => `(tactic| skip)
local macro_rules | `(tactic| walk_at "mine pad 24") => `(tactic| skip)
local macro_rules | `(tactic| walk_at "mine pad 25") => `(tactic| skip)
local macro_rules | `(tactic| walk_at "mine pad 26") => `(tactic| skip)
local macro_rules | `(tactic| walk_at "mine pad 27") => `(tactic| skip)
local macro_rules | `(tactic| walk_at "mine pad 28") => `(tactic| skip)
local macro_rules | `(tactic| walk_at "mine pad 29") => `(tactic| skip)
local macro_rules | `(tactic| walk_at "mine pad 30") => `(tactic| skip)
local macro_rules | `(tactic| walk_at "mine pad 31") => `(tactic| skip)
local macro_rules | `(tactic| walk_at "mine pad 32") => `(tactic| skip)
local macro_rules | `(tactic| walk_at "mine pad 33") => `(tactic| skip)
local macro_rules | `(tactic| walk_at "mine pad 34") => `(tactic| skip)
local macro_rules | `(tactic| walk_at "mine pad 35") => `(tactic| skip)
local macro_rules | `(tactic| walk_at "mine pad 36") => `(tactic| skip)
local macro_rules | `(tactic| walk_at "mine pad 37") => `(tactic| skip)
local macro_rules | `(tactic| walk_at "mine pad 38") => `(tactic| skip)
local macro_rules | `(tactic| walk_at "mine pad 39") => `(tactic| skip)
local macro_rules | `(tactic| walk_at "mine pad 40") => `(tactic| skip)
local macro_rules | `(tactic| walk_at "mine pad 41") => `(tactic| skip)
local macro_rules | `(tactic| walk_at "mine pad 42") => `(tactic| skip)
local macro_rules | `(tactic| walk_at "mine pad 43") => `(tactic| skip)
local macro_rules | `(tactic| walk_at "mine pad 44") => `(tactic| skip)
local macro_rules | `(tactic| walk_at "mine pad 45") => `(tactic| skip)
local macro_rules | `(tactic| walk_at "mine pad 46") => `(tactic| skip)
local macro_rules | `(tactic| walk_at "mine pad 47") => `(tactic| skip)
local macro_rules | `(tactic| walk_at "mine pad 48") => `(tactic| skip)
local macro_rules | `(tactic| walk_at "mine pad 49") => `(tactic| skip)
local macro_rules | `(tactic| walk_at "mine pad 50") => `(tactic| skip)
local macro_rules | `(tactic| walk_at "mine pad 51") => `(tactic| skip)
local macro_rules | `(tactic| walk_at "mine pad 52") => `(tactic| skip)
local macro_rules | `(tactic| walk_at "mine pad 53") => `(tactic| skip)
local macro_rules | `(tactic| walk_at "mine pad 54") => `(tactic| skip)
local macro_rules | `(tactic| walk_at "mine pad 55") => `(tactic| skip)
local macro_rules | `(tactic| walk_at "mine pad 56") => `(tactic| skip)
local macro_rules | `(tactic| walk_at "mine pad 57") => `(tactic| skip)
local macro_rules | `(tactic| walk_at "mine pad 58") => `(tactic| skip)
local macro_rules | `(tactic| walk_at "mine pad 59") => `(tactic| skip)
local macro_rules | `(tactic| walk_at "mine pad 60") => `(tactic| skip)
local macro_rules | `(tactic| walk_at "mine pad 61") => `(tactic| skip)
local macro_rules | `(tactic| walk_at "mine pad 62") => `(tactic| skip)
local macro_rules | `(tactic| walk_at "mine pad 63") => `(tactic| skip)
local macro_rules | `(tactic| walk_at "mine pad 64") => `(tactic| skip)
local macro_rules | `(tactic| walk_at "mine pad 65") => `(tactic| skip)
local macro_rules | `(tactic| walk_at "mine pad 66") => `(tactic| skip)
local macro_rules | `(tactic| walk_at "mine pad 67") => `(tactic| skip)
local macro_rules | `(tactic| walk_at "mine pad 68") => `(tactic| skip)
local macro_rules | `(tactic| walk_at "mine pad 69") => `(tactic| skip)
local macro_rules | `(tactic| walk_at "mine pad 70") => `(tactic| skip)
local macro_rules | `(tactic| walk_at "mine pad 71") => `(tactic| skip)
local macro_rules | `(tactic| walk_at "mine pad 72") => `(tactic| skip)
local macro_rules | `(tactic| walk_at "mine pad 73") => `(tactic| skip)
local macro_rules | `(tactic| walk_at "mine pad 74") => `(tactic| skip)
local macro_rules | `(tactic| walk_at "mine pad 75") => `(tactic| skip)
local macro_rules | `(tactic| walk_at "mine pad 76") => `(tactic| skip)
local macro_rules | `(tactic| walk_at "mine pad 77") => `(tactic| skip)
local macro_rules | `(tactic| walk_at "mine pad 78") => `(tactic| skip)
local macro_rules | `(tactic| walk_at "mine pad 79") => `(tactic| skip)
local macro_rules | `(tactic| walk_at "mine pad 80") => `(tactic| skip)
local macro_rules | `(tactic| walk_at "mine pad 81") => `(tactic| skip)
local macro_rules | `(tactic| walk_at "mine pad 82") => `(tactic| skip)
local macro_rules | `(tactic| walk_at "mine pad 83") => `(tactic| skip)
local macro_rules | `(tactic| walk_at "mine news") => `(tactic| first | k_asm | (refine' cb_drop ?cbN ?cbS; (case cbN => assumption); (case cbS => kcj_all)))
local macro_rules | `(tactic| walk_at "mine fill") => `(tactic| (
  have key : PySem.Challenge.rw_ci0011_01 = PySem.Challenge.rw_ci0011_01 ∧ hd.heap_39 = hd.heap_39 := ⟨rfl, rfl⟩
  revert key
  k_fill
  intro _))
local macro_rules | `(tactic| walk_at "mine enter") => `(tactic| (
  refine' code_def ?k1 ?k2 ?k3 ?k4 ?k5 ?kA ?kF ?kK ?k6 ?k7 ?k8 ?k9 ?kB ?_ ?c2 ?c3 ?c4 ?c5
  (case kA => exact rfl)
  (case kF => exact rfl)
  (case kK => assumption)
  (case k1 => k_asm)
  (case k2 => k_asm)
  (case k3 => k_asm)
  (case k4 => k_asm)
  (case k5 => k_asm)
  (case k6 => k_is)
  (case k7 => k_is)
  (case k8 => ktr_room)
  (case k9 => first | exact BindsTo.of_eq rfl | exact binds_K (by k_in) rfl (by k_is) rfl rfl rfl)
  (case c5 => decide)
  (case kB => exact locs rfl)
  (case c2 => exact rfl)
  (case c3 => exact rfl)
  (case c4 => exact rfl)
  k_whole
  intro g' L' h' FG' F' N' B' X' T'
  (try dsimp only)
  (try k_lift B')
  (try k_fold)))
local macro_rules | `(tactic| walk_at "exec While Compare cons nil") => `(tactic| k_extra "mine while")
local macro_rules | `(tactic| walk_at "exec While BoolOp cons nil") => `(tactic| k_extra "mine while")
local macro_rules | `(tactic| kst_facts) => `(tactic| first | exact PyProof.Rows.StrsAre.nil | exact PyProof.Rows.StrsAre.append' (by assumption) (.cons _ _ .nil) | fail "no facts")
local macro_rules | `(tactic| walk_at "call builtin:str.join") => `(tactic| (k_here; (with_reducible show wpAny _ _ (call (Value.builtin "str.join") [Value.str _ _, Value.ref _]) _ _ _); k_dflt (refine join_listW (by is_list) (by first | assumption | k_extra "mine strs") (by decide +kernel) ?mj ?_; (case mj => k_extra "mine join"); intro _ _; (try k_extra "mine joined"))))
local macro_rules | `(tactic| walk_at "binaryOp Add str str") => `(tactic| (k_here; (with_reducible show wpAny _ _ (binaryOp Operator.Add (Value.str _ _) (Value.str _ _)) _ _ _); (refine SBL.add (hsz := ?hsz) ?_; (case hsz => (rw [PySem.sizeLine_eq]; first | omega | k_extra "mine add")); intro _ _ _)))
local macro_rules | `(tactic| walk_at "call ref") => `(tactic| (k_here; k_dflt (
  refine' Claim.use ?kc ?k1 ?k2 ?k3 ?k4 ?k5 ?kK ?kd ?ku ?_
  (case k2 => k_asm)
  (case k4 => k_asm)
  (case kc => k_extra "mine claim")
  (case k1 => k_asm)
  (case k3 => k_asm)
  (case k5 => k_asm)
  (case kK => first | exact rfl | assumption)
  (case kd => ktr_room)
  (case ku => ktr_units)
  k_whole
  intro v9 n9 h9 tk9 hp9 F9 N9
  (first | k_extra "mine post" | (obtain ⟨⟨y9, t9, e9, hy9, hl9⟩, e9'⟩ := hp9; subst e9; replace e9' := Eq.symm e9'; subst e9') | (obtain ⟨⟨t9, e9⟩, e9'⟩ := hp9; subst e9; replace e9' := Eq.symm e9'; subst e9') | (obtain ⟨e9, e9'⟩ := hp9; subst e9; replace e9' := Eq.symm e9'; subst e9') | (obtain ⟨a9, j9, t9, y9, u9, e9, e9', hj9, hy9, hl9, ⟨lo9, hi9⟩, lt9⟩ := hp9; subst e9; subst e9'; (try k_lt lt9)))
  (try dsimp only)
  (try k_fold))))
local macro_rules | `(tactic| walk_at "call builtin:str.split") => `(tactic| (k_here; (with_reducible show wpAny _ _ (call (Value.builtin "str.split") _) _ _ _); refine KSpl.split1 (by k_asm) (by k_asm) (by decide +kernel) ?_ (by rw [PySem.sizeLine_eq]; omega); intro D' l' h' k' e' a' F' N' l1; (try k_lt l1); rw [e'] at a'; generalize (strValues l') = us' at *; clear e'))
local macro_rules | `(tactic| walk_at "exec For Name Name cons nil") => `(tactic| (k_extra "mine for"; k_here; (rename Fr _ _ _ _ => lF'); (with_unfolding_all refine' For_invVF lF' ?k1 ?k2 ?_; (case k1 => exact rfl); (case k2 => exact rfl); k_whole)))
local macro_rules | `(tactic| walk_at "pyIter ref") => `(tactic| (k_here; (with_reducible show wpAny _ _ (pyIter (Value.ref _)) (fun it s₂ => LoopAtV _ _ _ _ _ _ _ _ _ it s₂) _ _); k_extra "mine iter"; (all_goals (try k_fold))))
local macro_rules | `(tactic| walk_at "TbPost") => `(tactic| (dsimp only [TbPost]))
local macro_rules | `(tactic| walk_at "TbEnd") => `(tactic| k_extra "mine turn")
local macro_rules | `(tactic| walk_at "eval ListComp") => `(tactic| (k_here; k_extra "mine comp"))
local macro_rules | `(tactic| walk_at "call type:enumerate") => `(tactic| (k_here; k_extra "mine enum"))
local macro_rules | `(tactic| walk_at "subscriptTail Name Slice ref ref") => `(tactic| (k_here; k_extra "mine slice"))
local macro_rules | `(tactic| walk_at "binaryOp Add ref ref") => `(tactic| (k_here; k_extra "mine addl"))
local macro_rules | `(tactic| walk_at "CEnd") => `(tactic| exact ⟨_, _, rfl, by k_asm, by k_asm⟩)
local macro_rules | `(tactic| walk_at "IntsAre") => `(tactic| k_extra "mine ints")
local macro_rules | `(tactic| walk_at "mine mdp") => `(tactic| with_reducible (repeat (first | exact List.mem_cons_self .. | refine List.mem_cons_of_mem _ ?_)))
local macro_rules | `(tactic| walk_at "exec For Name Subscript cons nil") => `(tactic| (k_here; (rename Fr _ _ _ _ => lF'); (with_unfolding_all refine' For_invVF lF' ?k1 ?k2 ?_; (case k1 => exact rfl); (case k2 => exact rfl); k_whole)))
theorem law_lists (w : World) (news : List (Addr × Obj)) (r : Addr) (rs : List Value) (ns : List Int) (n : Nat) (hr : IntsAre rs ns) (hn : ns.length ≤ 4) :
    Claim w 147 1 ((r, W.listOf rs.toArray n) :: news) [.ref r] (fun v n' => ∃ c us B, v = .ref c ∧ (∀ p ∈ (r, W.listOf rs.toArray n) :: news, p ∈ n') ∧ (c, W.listOf us.toArray 0) ∈ n' ∧ Row w n' ns us B ∧ B.Nodup) := by
  walk_at "mine fill"
  intro dp un gd cn cs a ccd cl outer A₀ base h₀ L m s Q E mean mg mb B F X N T hk hd hu hret
  refine wpAny_call ?_
  k_dflt walk_at "mine enter"
  w_top off
  k_with_none
  k_with "mine iter" => (k_dflt (refine' row_loop (ns := ns) (by assumption) rfl ?lf ?ln ?lk ?lt ?ld; (case lf => k_asm); (case ln => k_asm); (case lk => rfl)); (case' lt => intro c9 i9 n9 t9 r9 us9 B9 n8 u9 h9 tk9 own9 hd9 hb9 hc9 hR9 hB9 hs9 ho9 F9 N9; have kMark := kstMark); (case' ld => intro c9 us9 B9 n8 u9 h9 tk9 hb9 hc9 hR9 hB9 F9 N9))
  k_with "mine addl" => (k_dflt (refine' kmk_add_lit ?al1 ?al2 ?al3 ?al4 rfl ?_ ?al7; (case al1 => k_asm); (case al2 => k_asm); (case al3 => kmk_list); (case al4 => exact News.isList (by k_asm) (by repeat (first | exact List.mem_append_left own9 hc9 | refine List.mem_cons_of_mem _ ?_))); (case al7 => (rw [PySem.sizeLine_eq]; simp only [List.toList_toArray, List.length_cons, List.length_nil]; omega))); intro D5 h5 F5 N5 l5; (try k_lt l5))
  k_steps
  · exact hret _ n8 _ _ ⟨c9, us9, B9, rfl, fun p hp => hb9 p (List.mem_cons_of_mem _ hp), hc9, hR9, hB9⟩ (by k_asm) (by walk_at "mine news")
  · rename News _ _ _ _ => nE'
    rename Fr _ _ _ _ => fE'
    with_unfolding_all refine' row_end fE' nE' hd9 hb9 hR9 hB9 ho9 ?rm ?rL ?rc ?rq ?o1 ?o2 ?o3 ?o4 ?o5 ?o6 ?o7 ?o8 ?o9 ?o10 ?o11 ?rk ?rr
    case rk => exact if_pos rfl
    case rc => walk_at "mine mdp"
    case rq => exact allLt_of (by assumption)
    case rm => (intro z hz; repeat (first | exact hz | refine List.mem_cons_of_mem _ ?_))
    case rL =>
      refine' ⟨?LA, ?LI, ?LI1, ?LC1, ?LP, ?LQ, ?LC, ?LQP, ?LI2, ?LC2, ?LP2⟩
      case LA => (refine' Exists.intro _ (DictIn.intro ?h1 (dict3 ?h2) ?h3); (case h1 => walk_at "mine mdp"); (case h2 => assumption); (case h3 => assumption))
      case LI => walk_at "mine mdp"
      case LI1 => (refine' Exists.intro _ (DictIn.intro ?h1 (dict2 ?h2) ?h3); (case h1 => walk_at "mine mdp"); (case h2 => assumption); (case h3 => assumption))
      case LC1 => (first | (refine' c1_no ?g1 ?g2; (case g1 => with_reducible assumption); (case g2 => walk_at "mine mdp")) | (refine' c1_yes ?g1 ?g2; (case g1 => with_reducible assumption); (case g2 => walk_at "mine mdp")))
      case LP => (refine' Exists.intro _ (DictIn.intro ?h1 (dict1 ?h2) ?h3); (case h1 => walk_at "mine mdp"); (case h2 => assumption); (case h3 => assumption))
      case LQ => (refine' Exists.intro _ (DictIn.intro ?h1 (dict2 ?h2) ?h3); (case h1 => walk_at "mine mdp"); (case h2 => assumption); (case h3 => assumption))
      case LC => walk_at "mine mdp"
      case LQP => (refine' Exists.intro _ (DictIn.intro ?h1 (dict1 ?h2) ?h3); (case h1 => walk_at "mine mdp"); (case h2 => assumption); (case h3 => assumption))
      case LI2 => (refine' Exists.intro _ (DictIn.intro ?h1 (dict2 ?h2) ?h3); (case h1 => walk_at "mine mdp"); (case h2 => assumption); (case h3 => assumption))
      case LC2 => walk_at "mine mdp"
      case LP2 => (refine' Exists.intro _ (DictIn.intro ?h1 (dict1 ?h2) ?h3); (case h1 => walk_at "mine mdp"); (case h2 => assumption); (case h3 => assumption))
    case rr =>
      intro z h1 h2 h3
      obtain ⟨g1, g2, g3⟩ := stored_ne h3
      exact (if_neg h2).trans <| (if_neg g3).trans <| (if_neg g2).trans <| (if_neg g1).trans <| (if_neg h1).trans <| (if_neg h2).trans (if_neg (by rw [h3]; exact Bool.false_ne_true))
    all_goals first | omega | exact And.left (by assumption)
  · rename News _ _ _ _ => nE'
    rename Fr _ _ _ _ => fE'
    with_unfolding_all refine' row_end fE' nE' hd9 hb9 hR9 hB9 ho9 ?rm ?rL ?rc ?rq ?y1 ?y2 ?y3 ?y4 ?y5 ?y6 ?y7 ?y8 ?y9 ?y10 ?y11 ?rk ?rr
    case rk => exact if_pos rfl
    case rc => walk_at "mine mdp"
    case rq => exact allLt_of (by assumption)
    case rm => (intro z hz; repeat (first | exact hz | refine List.mem_cons_of_mem _ ?_))
    case rL =>
      refine' ⟨?LA, ?LI, ?LI1, ?LC1, ?LP, ?LQ, ?LC, ?LQP, ?LI2, ?LC2, ?LP2⟩
      case LA => (refine' Exists.intro _ (DictIn.intro ?h1 (dict3 ?h2) ?h3); (case h1 => walk_at "mine mdp"); (case h2 => assumption); (case h3 => assumption))
      case LI => walk_at "mine mdp"
      case LI1 => (refine' Exists.intro _ (DictIn.intro ?h1 (dict2 ?h2) ?h3); (case h1 => walk_at "mine mdp"); (case h2 => assumption); (case h3 => assumption))
      case LC1 => (first | (refine' c1_no ?g1 ?g2; (case g1 => with_reducible assumption); (case g2 => walk_at "mine mdp")) | (refine' c1_yes ?g1 ?g2; (case g1 => with_reducible assumption); (case g2 => walk_at "mine mdp")))
      case LP => (refine' Exists.intro _ (DictIn.intro ?h1 (dict1 ?h2) ?h3); (case h1 => walk_at "mine mdp"); (case h2 => assumption); (case h3 => assumption))
      case LQ => (refine' Exists.intro _ (DictIn.intro ?h1 (dict2 ?h2) ?h3); (case h1 => walk_at "mine mdp"); (case h2 => assumption); (case h3 => assumption))
      case LC => walk_at "mine mdp"
      case LQP => (refine' Exists.intro _ (DictIn.intro ?h1 (dict1 ?h2) ?h3); (case h1 => walk_at "mine mdp"); (case h2 => assumption); (case h3 => assumption))
      case LI2 => (refine' Exists.intro _ (DictIn.intro ?h1 (dict2 ?h2) ?h3); (case h1 => walk_at "mine mdp"); (case h2 => assumption); (case h3 => assumption))
      case LC2 => walk_at "mine mdp"
      case LP2 => (refine' Exists.intro _ (DictIn.intro ?h1 (dict1 ?h2) ?h3); (case h1 => walk_at "mine mdp"); (case h2 => assumption); (case h3 => assumption))
    case rr =>
      intro z h1 h2 h3
      obtain ⟨g1, g2, g3⟩ := stored_ne h3
      exact (if_neg h2).trans <| (if_neg g3).trans <| (if_neg g2).trans <| (if_neg g1).trans <| (if_neg h1).trans <| (if_neg h2).trans (if_neg (by rw [h3]; exact Bool.false_ne_true))
    all_goals first | omega | exact And.left (by assumption)
end Mine
end

section
open PySem PySem.W PyProof.Rows
set_option maxRecDepth 100000
set_option maxHeartbeats 8000000
namespace Mine
local macro_rules | `(tactic| walk_at "mine pad 0") => `(tactic| skip)
local macro_rules | `(tactic| walk_at "mine pad 1") => `(tactic| skip)
local macro_rules | `(tactic| walk_at "mine pad 2") => `(tactic| skip)
local macro_rules | `(tactic| walk_at "mine pad 3") => `(tactic| skip)
local macro_rules | `(tactic| walk_at "mine pad 4") => `(tactic| skip)
local macro_rules | `(tactic| walk_at "mine pad 5") => `(tactic| skip)
local macro_rules | `(tactic| walk_at "mine pad 6") => `(tactic| skip)
local macro_rules | `(tactic| walk_at "mine pad 7") => `(tactic| skip)
local macro_rules | `(tactic| walk_at "mine pad 8") => `(tactic| skip)
local macro_rules | `(tactic| walk_at "mine pad 9") => `(tactic| skip)
local macro_rules | `(tactic| walk_at "mine pad 10") => `(tactic| skip)
local macro_rules | `(tactic| walk_at "mine pad 11") => `(tactic| skip)
local macro_rules | `(tactic| walk_at "mine pad 12") => `(tactic| skip)
local macro_rules | `(tactic| walk_at "mine pad 13") => `(tactic| skip)
local macro_rules | `(tactic| walk_at "mine pad 14") => `(tactic| skip)
local macro_rules | `(tactic| walk_at "mine pad 15") => `(tactic| skip)
local macro_rules | `(tactic| walk_at "mine pad 16") => `(tactic| skip)
local macro_rules | `(tactic| walk_at "mine pad 17") => `(tactic| skip)
local macro_rules | `(tactic| walk_at "mine pad 18") => `(tactic| skip)
local macro_rules | `(tactic| walk_at "mine pad 19") => `(tactic| skip)
local macro_rules | `(tactic| walk_at "mine pad 20") => `(tactic| skip)
local macro_rules | `(tactic| walk_at "mine pad 21") => `(tactic| skip)
local macro_rules | `(tactic| walk_at "mine pad 22") => `(tactic| skip)
local macro_rules | `(tactic| walk_at "mine pad 23") => `(tactic| skip)
local macro_rules | `(tactic| walk_at "mine pad 24") => `(tactic| skip)
local macro_rules | `(tactic| walk_at "mine pad 25") => `(tactic| skip)
local macro_rules | `(tactic| walk_at "mine pad 26") => `(tactic| skip)
local macro_rules | `(tactic| walk_at "mine pad 27") => `(tactic| skip)
local macro_rules | `(tactic| walk_at "mine pad 28") => `(tactic| skip)
local macro_rules | `(tactic| walk_at "mine pad 29") => `(tactic| skip)
local macro_rules | `(tactic| walk_at "mine pad 30") => `(tactic| skip)
local macro_rules | `(tactic| walk_at "mine pad 31") => `(tactic| skip)
local macro_rules | `(tactic| walk_at "mine pad 32") => `(tactic| skip)
local macro_rules | `(tactic| walk_at "mine pad 33") => `(tactic| skip)
local macro_rules | `(tactic| walk_at "mine pad 34") => `(tactic| skip)
local macro_rules | `(tactic| walk_at "mine pad 35") => `(tactic| skip)
local macro_rules | `(tactic| walk_at "mine pad 36") => `(tactic| skip)
local macro_rules | `(tactic| walk_at "mine pad 37") => `(tactic| skip)
local macro_rules | `(tactic| walk_at "mine pad 38") => `(tactic| skip)
local macro_rules | `(tactic| walk_at "mine pad 39") => `(tactic| skip)
local macro_rules | `(tactic| walk_at "mine pad 40") => `(tactic| skip)
local macro_rules | `(tactic| walk_at "mine pad 41") => `(tactic| skip)
local macro_rules | `(tactic| walk_at "mine pad 42") => `(tactic| skip)
local macro_rules | `(tactic| walk_at "mine pad 43") => `(tactic| skip)
local macro_rules | `(tactic| walk_at "mine pad 44") => `(tactic| skip)
local macro_rules | `(tactic| walk_at "mine pad 45") => `(tactic| skip)
local macro_rules | `(tactic| walk_at "mine pad 46") => `(tactic| skip)
local macro_rules | `(tactic| walk_at "mine pad 47") => `(tactic| skip)
local macro_rules | `(tactic| walk_at "mine pad 48") => `(tactic| skip)
local macro_rules | `(tactic| walk_at "mine pad 49") => `(tactic| skip)
local macro_rules | `(tactic| walk_at "mine pad 50") => `(tactic| skip)
local macro_rules | `(tactic| walk_at "mine pad 51") => `(tactic| skip)
local macro_rules | `(tactic| walk_at "mine pad 52") => `(tactic| skip)
local macro_rules | `(tactic| walk_at "mine pad 53") => `(tactic| skip)
local macro_rules | `(tactic| walk_at "mine pad 54") => `(tactic| skip)
local macro_rules | `(tactic| walk_at "mine pad 55") => `(tactic| skip)
local macro_rules | `(tactic| walk_at "mine pad 56") => `(tactic| skip)
local macro_rules | `(tactic| walk_at "mine pad 57") => `(tactic| skip)
local macro_rules | `(tactic| walk_at "mine pad 58") => `(tactic| skip)
local macro_rules | `(tactic| walk_at "mine pad 59") => `(tactic| skip)
local macro_rules | `(tactic| walk_at "mine pad 60") => `(tactic| skip)
local macro_rules | `(tactic| walk_at "mine pad 61") => `(tactic| skip)
local macro_rules | `(tactic| walk_at "mine pad 62") => `(tactic| skip)
local macro_rules | `(tactic| walk_at "mine pad 63") => `(tactic| skip)
local macro_rules | `(tactic| walk_at "mine pad 64") => `(tactic| skip)
local macro_rules | `(tactic| walk_at "mine pad 65") => `(tactic| skip)
local macro_rules | `(tactic| walk_at "mine pad 66") => `(tactic| skip)
local macro_rules | `(tactic| walk_at "mine pad 67") => `(tactic| skip)
local macro_rules | `(tactic| walk_at "mine pad 68") => `(tactic| skip)
local macro_rules | `(tactic| walk_at "mine pad 69") => `(tactic| skip)
local macro_rules | `(tactic| walk_at "mine pad 70") => `(tactic| skip)
local macro_rules | `(tactic| walk_at "mine pad 71") => `(tactic| skip)
local macro_rules | `(tactic| walk_at "mine pad 72") => `(tactic| skip)
local macro_rules | `(tactic| walk_at "mine pad 73") => `(tactic| skip)
local macro_rules | `(tactic| walk_at "mine pad 74") => `(tactic| skip)
local macro_rules | `(tactic| walk_at "mine pad 75") => `(tactic| skip)
local macro_rules | `(tactic| walk_at "mine pad 76") => `(tactic| skip)
local macro_rules | `(tactic| walk_at "mine pad 77") => `(tactic| skip)
local macro_rules | `(tactic| walk_at "mine pad 78") => `(tactic| skip)
local macro_rules | `(tactic| walk_at "mine pad 79") => `(tactic| skip)
local macro_rules | `(tactic| walk_at "mine pad 80") => `(tactic| skip)
local macro_rules | `(tactic| walk_at "mine pad 81") => `(tactic| skip)
local macro_rules | `(tactic| walk_at "mine pad 82") => `(tactic| skip)
local macro_rules | `(tactic| walk_at "mine pad 83") => `(tactic| skip)
local macro_rules | `(tactic| walk_at "mine pad 84") => `(tactic| skip)
local macro_rules | `(tactic| walk_at "mine pad 85") => `(tactic| skip)
local macro_rules | `(tactic| walk_at "mine pad 86") => `(tactic| skip)
local macro_rules | `(tactic| walk_at "mine pad 87") => `(tactic| skip)
local macro_rules | `(tactic| walk_at "mine pad 88") => `(tactic| skip)
local macro_rules | `(tactic| walk_at "mine pad 89") => `(tactic| skip)
local macro_rules | `(tactic| walk_at "mine pad 90") => `(tactic| skip)
local macro_rules | `(tactic| walk_at "mine news") => `(tactic| first | k_asm | (refine' cb_drop ?cbN ?cbS; (case cbN => assumption); (case cbS => kcj_all)))
local macro_rules | `(tactic| walk_at "mine fill") => `(tactic| (
  have key : PySem.Challenge.rw_ci0011_01 = PySem.Challenge.rw_ci0011_01 ∧ hd.heap_39 = hd.heap_39 := ⟨rfl, rfl⟩
  revert key
  k_fill
  intro _))
local macro_rules | `(tactic| walk_at "mine enter") => `(tactic| (
  refine' code_def ?k1 ?k2 ?k3 ?k4 ?k5 ?kA ?kF ?kK ?k6 ?k7 ?k8 ?k9 ?kB ?_ ?c2 ?c3 ?c4 ?c5
  (case kA => exact rfl)
  (case kF => exact rfl)
  (case kK => assumption)
  (case k1 => k_asm)
  (case k2 => k_asm)
  (case k3 => k_asm)
  (case k4 => k_asm)
  (case k5 => k_asm)
  (case k6 => k_is)
  (case k7 => k_is)
  (case k8 => ktr_room)
  (case k9 => first | exact BindsTo.of_eq rfl | exact binds_K (by k_in) rfl (by k_is) rfl rfl rfl)
  (case c5 => decide)
  (case kB => exact locs rfl)
  (case c2 => exact rfl)
  (case c3 => exact rfl)
  (case c4 => exact rfl)
  k_whole
  intro g' L' h' FG' F' N' B' X' T'
  (try dsimp only)
  (try k_lift B')
  (try k_fold)))
local macro_rules | `(tactic| walk_at "exec While Compare cons nil") => `(tactic| k_extra "mine while")
local macro_rules | `(tactic| walk_at "exec While BoolOp cons nil") => `(tactic| k_extra "mine while")
local macro_rules | `(tactic| kst_facts) => `(tactic| first | exact PyProof.Rows.StrsAre.nil | exact PyProof.Rows.StrsAre.append' (by assumption) (.cons _ _ .nil) | fail "no facts")
local macro_rules | `(tactic| walk_at "call builtin:str.join") => `(tactic| (k_here; (with_reducible show wpAny _ _ (call (Value.builtin "str.join") [Value.str _ _, Value.ref _]) _ _ _); k_dflt (refine join_listW (by is_list) (by first | assumption | k_extra "mine strs") (by decide +kernel) ?mj ?_; (case mj => k_extra "mine join"); intro _ _; (try k_extra "mine joined"))))
local macro_rules | `(tactic| walk_at "binaryOp Add str str") => `(tactic| (k_here; (with_reducible show wpAny _ _ (binaryOp Operator.Add (Value.str _ _) (Value.str _ _)) _ _ _); (refine SBL.add (hsz := ?hsz) ?_; (case hsz => (rw [PySem.sizeLine_eq]; first | omega | k_extra "mine add")); intro _ _ _)))
local macro_rules | `(tactic| walk_at "call ref") => `(tactic| (k_here; k_dflt (
  refine' Claim.use ?kc ?k1 ?k2 ?k3 ?k4 ?k5 ?kK ?kd ?ku ?_
  (case k2 => k_asm)
  (case k4 => k_asm)
  (case kc => k_extra "mine claim")
  (case k1 => k_asm)
  (case k3 => k_asm)
  (case k5 => k_asm)
  (case kK => first | exact rfl | assumption)
  (case kd => ktr_room)
  (case ku => ktr_units)
  k_whole
  intro v9 n9 h9 tk9 hp9 F9 N9
  (first | k_extra "mine post" | (obtain ⟨⟨y9, t9, e9, hy9, hl9⟩, e9'⟩ := hp9; subst e9; replace e9' := Eq.symm e9'; subst e9') | (obtain ⟨⟨t9, e9⟩, e9'⟩ := hp9; subst e9; replace e9' := Eq.symm e9'; subst e9') | (obtain ⟨e9, e9'⟩ := hp9; subst e9; replace e9' := Eq.symm e9'; subst e9') | (obtain ⟨a9, j9, t9, y9, u9, e9, e9', hj9, hy9, hl9, ⟨lo9, hi9⟩, lt9⟩ := hp9; subst e9; subst e9'; (try k_lt lt9)))
  (try dsimp only)
  (try k_fold))))
local macro_rules | `(tactic| walk_at "call builtin:str.split") => `(tactic| (k_here; (with_reducible show wpAny _ _ (call (Value.builtin "str.split") _) _ _ _); refine KSpl.split1 (by k_asm) (by k_asm) (by decide +kernel) ?_ (by rw [PySem.sizeLine_eq]; omega); intro D' l' h' k' e' a' F' N' l1; (try k_lt l1); rw [e'] at a'; generalize (strValues l') = us' at *; clear e'))
local macro_rules | `(tactic| walk_at "exec For Name Name cons nil") => `(tactic| (k_extra "mine for"; k_here; (rename Fr _ _ _ _ => lF'); (with_unfolding_all refine' For_invVF lF' ?k1 ?k2 ?_; (case k1 => exact rfl); (case k2 => exact rfl); k_whole)))
local macro_rules | `(tactic| walk_at "pyIter ref") => `(tactic| (k_here; (with_reducible show wpAny _ _ (pyIter (Value.ref _)) (fun it s₂ => LoopAtV _ _ _ _ _ _ _ _ _ it s₂) _ _); k_extra "mine iter"; (all_goals (try k_fold))))
local macro_rules | `(tactic| walk_at "TbPost") => `(tactic| (dsimp only [TbPost]))
local macro_rules | `(tactic| walk_at "TbEnd") => `(tactic| k_extra "mine turn")
local macro_rules | `(tactic| walk_at "eval ListComp") => `(tactic| (k_here; k_extra "mine comp"))
local macro_rules | `(tactic| walk_at "call type:enumerate") => `(tactic| (k_here; k_extra "mine enum"))
local macro_rules | `(tactic| walk_at "subscriptTail Name Slice ref ref") => `(tactic| (k_here; k_extra "mine slice"))
local macro_rules | `(tactic| walk_at "binaryOp Add ref ref") => `(tactic| (k_here; k_extra "mine addl"))
local macro_rules | `(tactic| walk_at "CEnd") => `(tactic| exact ⟨_, _, rfl, by k_asm, by k_asm⟩)
local macro_rules | `(tactic| walk_at "IntsAre") => `(tactic| k_extra "mine ints")
theorem item_first {prog : Program} {w : World} {A : Around} {E : Value → Shared → Prop} {s : Shared} {value slice : PySem.Expr} {l : Addr} {vs : List Value} {ns : List Int} {u : Tok} {Q : Value → Shared → Prop}
    (hl : s.heap.IsList l vs.toArray) (hi : IntsAre vs ns) (hne : decide (ns = []) = false) (h : ∀ t', Q (.int (ns.headD 0) t') s)
    (hs : subscripted slice false (.ref l) (.int 0 u) = operate [.ref l, .int 0 u] (getItem (.ref l) (.int 0 u)) := by with_unfolding_all rfl) (hg : ∀ r, letTemporaryGo value (.ref l) r = pure () := by intro _; with_unfolding_all rfl) :
    wpAny (model prog w) A (subscriptTail value slice (.ref l) (.int 0 u)) Q E s := by
  cases hi with
  | nil => simp at hne
  | cons n t hi => exact item_listL hl (by decide) (by decide) rfl (h t) hs hg
theorem item_none {α : Prop} {b : Bool} (h1 : b = false) (h2 : b = true) : α := by rw [h1] at h2; cases h2
local macro_rules | `(tactic| walk_at "subscriptTail Name Constant ref int") => `(tactic| (k_here; k_extra "mine item"))
theorem law_due (w : World) (d : Nat) : ∀ (news : List (Addr × Obj)) (r : Addr) (rs : List Value) (ns : List Int) (n : Nat) (tight : Bool) (hr : IntsAre rs ns) (hn : ns.length ≤ d) (hd : d ≤ 4),
    Claim w 161 (d + 12) ((r, W.listOf rs.toArray n) :: news) [.ref r, .bool tight] (GivesStr (txt (dueL ns tight)) (60 * d) ((r, W.listOf rs.toArray n) :: news)) := by
  induction d with
  | zero =>
  intro news r rs ns n tight hr hn hd4
  have hnil : decide (ns = []) = true := by simpa using hn
  walk_at "mine fill"
  intro dp un gd cn cs a ccd cl outer A₀ base h₀ L m s Q E mean mg mb B F X N T hk hd hu hret
  refine wpAny_call ?_
  k_dflt walk_at "mine enter"
  w_top off
  k_with_none
  k_with "mine item" => exact item_none (by assumption) hnil
  k_steps
  exact hret _ _ _ _ (.mk (due_nil (by assumption)) (due_len hn)) (by k_asm) (by walk_at "mine news")
  | succ d ih =>
  intro news r rs ns n tight hr hn hd4
  walk_at "mine fill"
  intro dp un gd cn cs a ccd cl outer A₀ base h₀ L m s Q E mean mg mb B F X N T hk hd hu hret
  refine wpAny_call ?_
  k_dflt walk_at "mine enter"
  w_top off
  k_with_none
  k_with "mine claim" => exact ih _ _ _ _ _ _ (by assumption) (drop_le (by assumption)) (by omega)
  k_with "mine item" => (k_dflt (refine item_first (by is_list) (by assumption) (by assumption) ?_); intro t8)
  k_steps
  · exact hret _ _ _ _ (.mk (due_nil (by assumption)) (due_len hn)) (by k_asm) (by walk_at "mine news")
  · exact hret _ _ _ _ (.mk (due_A (by assumption) (by assumption) (by assumption) (by assumption) (q_yes (by assumption))) (due_len hn)) (by k_asm) (by walk_at "mine news")
  · exact hret _ _ _ _ (.mk (due_A (by assumption) (by assumption) (by assumption) (by assumption) (q_no (by assumption))) (due_len hn)) (by k_asm) (by walk_at "mine news")
  · exact hret _ _ _ _ (.mk (due_B (by assumption) (by assumption) (by assumption) (by assumption) (q_yes (by assumption))) (due_len hn)) (by k_asm) (by walk_at "mine news")
  · exact hret _ _ _ _ (.mk (due_B (by assumption) (by assumption) (by assumption) (by assumption) (q_no (by assumption))) (due_len hn)) (by k_asm) (by walk_at "mine news")
  · exact hret _ _ _ _ (.mk (due_C (by assumption) (by assumption) (by assumption) (q_yes (by assumption))) (due_len hn)) (by k_asm) (by walk_at "mine news")
  · exact hret _ _ _ _ (.mk (due_C (by assumption) (by assumption) (by assumption) (q_no (by assumption))) (due_len hn)) (by k_asm) (by walk_at "mine news")
end Mine
end

section
open PySem PySem.W PyProof.Rows
set_option maxRecDepth 100000
set_option maxHeartbeats 8000000
namespace Mine
local macro_rules | `(tactic| walk_at "mine pad 0") => `(tactic| skip)
local macro_rules | `(tactic| walk_at "mine pad 1") => `(tactic| skip)
local macro_rules | `(tactic| walk_at "mine pad 2") => `(tactic| skip)
local macro_rules | `(tactic| walk_at "mine pad 3") => `(tactic| skip)
local macro_rules | `(tactic| walk_at "mine pad 4") => `(tactic| skip)
local macro_rules | `(tactic| walk_at "mine pad 5") => `(tactic| skip)
local macro_rules | `(tactic| walk_at "mine pad 6") => `(tactic| skip)
local macro_rules | `(tactic| walk_at "mine pad 7") => `(tactic| skip)
local macro_rules | `(tactic| walk_at "mine pad 8") => `(tactic| skip)
local macro_rules | `(tactic| walk_at "mine pad 9") => `(tactic| skip)
local macro_rules | `(tactic| walk_at "mine pad 10") => `(tactic| skip)
local macro_rules | `(tactic| walk_at "mine pad 11") => `(tactic| skip)
local macro_rules | `(tactic| walk_at "mine pad 12") => `(tactic| skip)
local macro_rules | `(tactic| walk_at "mine pad 13") => `(tactic| skip)
local macro_rules | `(tactic| walk_at "mine pad 14") => `(tactic| skip)
local macro_rules | `(tactic| walk_at "mine pad 15") => `(tactic| skip)
local macro_rules | `(tactic| walk_at "mine pad 16") => `(tactic| skip)
local macro_rules | `(tactic| walk_at "mine pad 17") => `(tactic| skip)
local macro_rules | `(tactic| walk_at "mine pad 18") => `(tactic| skip)
local macro_rules | `(tactic| walk_at "mine pad 19") => `(tactic| skip)
local macro_rules | `(tactic| walk_at "mine pad 20") => `(tactic| skip)
local macro_rules | `(tactic| walk_at "mine pad 21") => `(tactic| skip)
local macro_rules | `(tactic| walk_at "mine pad 22") => `(tactic| skip)
local macro_rules | `(tactic| walk_at "mine pad 23") => `(tactic| skip)
local macro_rules | `(tactic| walk_at "mine pad 24") => `(tactic| skip)
local macro_rules | `(tactic| walk_at "mine pad 25") => `(tactic| skip)
local macro_rules | `(tactic| walk_at "mine pad 26") => `(tactic| skip)
local macro_rules | `(tactic| walk_at "mine pad 27") => `(tactic| skip)
local macro_rules | `(tactic| walk_at "mine pad 28") => `(tactic| skip)
local macro_rules | `(tactic| walk_at "mine pad 29") => `(tactic| skip)
local macro_rules | `(tactic| walk_at "mine pad 30") => `(tactic| skip)
local macro_rules | `(tactic| walk_at "mine pad 31") => `(tactic| skip)
local macro_rules | `(tactic| walk_at "mine pad 32") => `(tactic| skip)
local macro_rules | `(tactic| walk_at "mine pad 33") => `(tactic| skip)
local macro_rules | `(tactic| walk_at "mine pad 34") => `(tactic| skip)
local macro_rules | `(tactic| walk_at "mine pad 35") => `(tactic| skip)
local macro_rules | `(tactic| walk_at "mine pad 36") => `(tactic| skip)
local macro_rules | `(tactic| walk_at "mine pad 37") => `(tactic| skip)
local macro_rules | `(tactic| walk_at "mine pad 38") => `(tactic| skip)
local macro_rules | `(tactic| walk_at "mine pad 39") => `(tactic| skip)
local macro_rules | `(tactic| walk_at "mine pad 40") => `(tactic| skip)
local macro_rules | `(tactic| walk_at "mine pad 41") => `(tactic| skip)
local macro_rules | `(tactic| walk_at "mine pad 42") => `(tactic| skip)
local macro_rules | `(tactic| walk_at "mine pad 43") => `(tactic| skip)
local macro_rules | `(tactic| walk_at "mine pad 44") => `(tactic| skip)
local macro_rules | `(tactic| walk_at "mine pad 45") => `(tactic| skip)
local macro_rules | `(tactic| walk_at "mine pad 46") => `(tactic| skip)
local macro_rules | `(tactic| walk_at "mine pad 47") => `(tactic| skip)
local macro_rules | `(tactic| walk_at "mine pad 48") => `(tactic| skip)
local macro_rules | `(tactic| walk_at "mine pad 49") => `(tactic| skip)
local macro_rules | `(tactic| walk_at "mine pad 50") => `(tactic| skip)
local macro_rules | `(tactic| walk_at "mine pad 51") => `(tactic| skip)
local macro_rules | `(tactic| walk_at "mine pad 52") => `(tactic| skip)
local macro_rules | `(tactic| walk_at "mine pad 53") => `(tactic| skip)
local macro_rules | `(tactic| walk_at "mine pad 54") => `(tactic| skip)
local macro_rules | `(tactic| walk_at "mine pad 55") => `(tactic| skip)
local macro_rules | `(tactic| walk_at "mine pad 56") => `(tactic| skip)
local macro_rules | `(tactic| walk_at "mine pad 57") => `(tactic| skip)
local macro_rules | `(tactic| walk_at "mine pad 58") => `(tactic| skip)
local macro_rules | `(tactic| walk_at "mine pad 59") => `(tactic| skip)
local macro_rules | `(tactic| walk_at "mine pad 60") => `(tactic| skip)
local macro_rules | `(tactic| walk_at "mine pad 61") => `(tactic| skip)
local macro_rules | `(tactic| walk_at "mine pad 62") => `(tactic| skip)
local macro_rules | `(tactic| walk_at "mine pad 63") => `(tactic| skip)
local macro_rules | `(tactic| walk_at "mine pad 64") => `(tactic| skip)
local macro_rules | `(tactic| walk_at "mine pad 65") => `(tactic| skip)
local macro_rules | `(tactic| walk_at "mine pad 66") => `(tactic| skip)
local macro_rules | `(tactic| walk_at "mine pad 67") => `(tactic| skip)
local macro_rules | `(tactic| walk_at "mine pad 68") => `(tactic| skip)
local macro_rules | `(tactic| walk_at "mine pad 69") => `(tactic| skip)
local macro_rules | `(tactic| walk_at "mine pad 70") => `(tactic| skip)
local macro_rules | `(tactic| walk_at "mine pad 71") => `(tactic| skip)
local macro_rules | `(tactic| walk_at "mine pad 72") => `(tactic| skip)
local macro_rules | `(tactic| walk_at "mine pad 73") => `(tactic| skip)
local macro_rules | `(tactic| walk_at "mine pad 74") => `(tactic| skip)
local macro_rules | `(tactic| walk_at "mine pad 75") => `(tactic| skip)
local macro_rules | `(tactic| walk_at "mine pad 76") => `(tactic| skip)
local macro_rules | `(tactic| walk_at "mine pad 77") => `(tactic| skip)
local macro_rules | `(tactic| walk_at "mine pad 78") => `(tactic| skip)
local macro_rules | `(tactic| walk_at "mine pad 79") => `(tactic| skip)
local macro_rules | `(tactic| walk_at "mine pad 80") => `(tactic| skip)
local macro_rules | `(tactic| walk_at "mine pad 81") => `(tactic| skip)
local macro_rules | `(tactic| walk_at "mine pad 82") => `(tactic| skip)
local macro_rules | `(tactic| walk_at "mine pad 83") => `(tactic| skip)
local macro_rules | `(tactic| walk_at "mine pad 84") => `(tactic| skip)
local macro_rules | `(tactic| walk_at "mine pad 85") => `(tactic| skip)
local macro_rules | `(tactic| walk_at "mine pad 86") => `(tactic| skip)
local macro_rules | `(tactic| walk_at "mine pad 87") => `(tactic| skip)
local macro_rules | `(tactic| walk_at "mine pad 88") => `(tactic| skip)
local macro_rules | `(tactic| walk_at "mine pad 89") => `(tactic| skip)
local macro_rules | `(tactic| walk_at "mine pad 90") => `(tactic| skip)
local macro_rules | `(tactic| walk_at "mine pad 91") => `(tactic| skip)
local macro_rules | `(tactic| walk_at "mine pad 92") => `(tactic| skip)
local macro_rules | `(tactic| walk_at "mine pad 93") => `(tactic| skip)
local macro_rules | `(tactic| walk_at "mine pad 94") => `(tactic| skip)
local macro_rules | `(tactic| walk_at "mine pad 95") => `(tactic| skip)
local macro_rules | `(tactic| walk_at "mine pad 96") => `(tactic| skip)
local macro_rules | `(tactic| walk_at "mine pad 97") => `(tactic| skip)
local macro_rules | `(tactic| walk_at "mine news") => `(tactic| first | k_asm | (refine' cb_drop ?cbN ?cbS; (case cbN => assumption); (case cbS => kcj_all)))
local macro_rules | `(tactic| walk_at "mine fill") => `(tactic| (
  have key : PySem.Challenge.rw_ci0011_01 = PySem.Challenge.rw_ci0011_01 ∧ hd.heap_39 = hd.heap_39 := ⟨rfl, rfl⟩
  revert key
  k_fill
  intro _))
local macro_rules | `(tactic| walk_at "mine enter") => `(tactic| (
  refine' code_def ?k1 ?k2 ?k3 ?k4 ?k5 ?kA ?kF ?kK ?k6 ?k7 ?k8 ?k9 ?kB ?_ ?c2 ?c3 ?c4 ?c5
  (case kA => exact rfl)
  (case kF => exact rfl)
  (case kK => assumption)
  (case k1 => k_asm)
  (case k2 => k_asm)
  (case k3 => k_asm)
  (case k4 => k_asm)
  (case k5 => k_asm)
  (case k6 => k_is)
  (case k7 => k_is)
  (case k8 => ktr_room)
  (case k9 => first | exact BindsTo.of_eq rfl | exact binds_K (by k_in) rfl (by k_is) rfl rfl rfl)
  (case c5 => decide)
  (case kB => exact locs rfl)
  (case c2 => exact rfl)
  (case c3 => exact rfl)
  (case c4 => exact rfl)
  k_whole
  intro g' L' h' FG' F' N' B' X' T'
  (try dsimp only)
  (try k_lift B')
  (try k_fold)))
local macro_rules | `(tactic| walk_at "exec While Compare cons nil") => `(tactic| k_extra "mine while")
local macro_rules | `(tactic| walk_at "exec While BoolOp cons nil") => `(tactic| k_extra "mine while")
local macro_rules | `(tactic| kst_facts) => `(tactic| first | exact PyProof.Rows.StrsAre.nil | exact PyProof.Rows.StrsAre.append' (by assumption) (.cons _ _ .nil) | fail "no facts")
local macro_rules | `(tactic| walk_at "call builtin:str.join") => `(tactic| (k_here; (with_reducible show wpAny _ _ (call (Value.builtin "str.join") [Value.str _ _, Value.ref _]) _ _ _); k_dflt (refine join_listW (by is_list) (by first | assumption | k_extra "mine strs") (by decide +kernel) ?mj ?_; (case mj => k_extra "mine join"); intro _ _; (try k_extra "mine joined"))))
local macro_rules | `(tactic| walk_at "binaryOp Add str str") => `(tactic| (k_here; (with_reducible show wpAny _ _ (binaryOp Operator.Add (Value.str _ _) (Value.str _ _)) _ _ _); (refine SBL.add (hsz := ?hsz) ?_; (case hsz => (rw [PySem.sizeLine_eq]; first | omega | k_extra "mine add")); intro _ _ _)))
local macro_rules | `(tactic| walk_at "call ref") => `(tactic| (k_here; k_dflt (
  refine' Claim.use ?kc ?k1 ?k2 ?k3 ?k4 ?k5 ?kK ?kd ?ku ?_
  (case k2 => k_asm)
  (case k4 => k_asm)
  (case kc => k_extra "mine claim")
  (case k1 => k_asm)
  (case k3 => k_asm)
  (case k5 => k_asm)
  (case kK => first | exact rfl | assumption)
  (case kd => ktr_room)
  (case ku => ktr_units)
  k_whole
  intro v9 n9 h9 tk9 hp9 F9 N9
  (first | k_extra "mine post" | (obtain ⟨⟨y9, t9, e9, hy9, hl9⟩, e9'⟩ := hp9; subst e9; replace e9' := Eq.symm e9'; subst e9') | (obtain ⟨⟨t9, e9⟩, e9'⟩ := hp9; subst e9; replace e9' := Eq.symm e9'; subst e9') | (obtain ⟨e9, e9'⟩ := hp9; subst e9; replace e9' := Eq.symm e9'; subst e9') | (obtain ⟨a9, j9, t9, y9, u9, e9, e9', hj9, hy9, hl9, ⟨lo9, hi9⟩, lt9⟩ := hp9; subst e9; subst e9'; (try k_lt lt9)))
  (try dsimp only)
  (try k_fold))))
local macro_rules | `(tactic| walk_at "call builtin:str.split") => `(tactic| (k_here; (with_reducible show wpAny _ _ (call (Value.builtin "str.split") _) _ _ _); refine KSpl.split1 (by k_asm) (by k_asm) (by decide +kernel) ?_ (by rw [PySem.sizeLine_eq]; omega); intro D' l' h' k' e' a' F' N' l1; (try k_lt l1); rw [e'] at a'; generalize (strValues l') = us' at *; clear e'))
local macro_rules | `(tactic| walk_at "exec For Name Name cons nil") => `(tactic| (k_extra "mine for"; k_here; (rename Fr _ _ _ _ => lF'); (with_unfolding_all refine' For_invVF lF' ?k1 ?k2 ?_; (case k1 => exact rfl); (case k2 => exact rfl); k_whole)))
local macro_rules | `(tactic| walk_at "pyIter ref") => `(tactic| (k_here; (with_reducible show wpAny _ _ (pyIter (Value.ref _)) (fun it s₂ => LoopAtV _ _ _ _ _ _ _ _ _ it s₂) _ _); k_extra "mine iter"; (all_goals (try k_fold))))
local macro_rules | `(tactic| walk_at "TbPost") => `(tactic| (dsimp only [TbPost]))
local macro_rules | `(tactic| walk_at "TbEnd") => `(tactic| k_extra "mine turn")
local macro_rules | `(tactic| walk_at "eval ListComp") => `(tactic| (k_here; k_extra "mine comp"))
local macro_rules | `(tactic| walk_at "call type:enumerate") => `(tactic| (k_here; k_extra "mine enum"))
local macro_rules | `(tactic| walk_at "subscriptTail Name Slice ref ref") => `(tactic| (k_here; k_extra "mine slice"))
local macro_rules | `(tactic| walk_at "binaryOp Add ref ref") => `(tactic| (k_here; k_extra "mine addl"))
local macro_rules | `(tactic| walk_at "CEnd") => `(tactic| exact ⟨_, _, rfl, by k_asm, by k_asm⟩)
local macro_rules | `(tactic| walk_at "IntsAre") => `(tactic| k_extra "mine ints")
local macro_rules | `(tactic| walk_at "mine mm") => `(tactic| with_reducible first | assumption | exact List.mem_append_left _ (by assumption) | exact List.mem_cons_of_mem _ (by first | assumption | exact List.mem_append_left _ (by assumption)))
local macro_rules | `(tactic| walk_at "subscriptTail Name Constant ref str") => `(tactic| (k_here; (with_reducible show wpAny _ _ (subscriptTail _ _ (Value.ref _) (Value.str _ _)) _ _ _); k_dflt (refine kda_item (knd := PySem.strKind _ _) (by k_asm) (by walk_at "mine mm") (by with_reducible assumption) (strKind_is _ _ _ _) (by with_reducible assumption) ?_)))
local macro_rules | `(tactic| walk_at "getMethod ref") => `(tactic| (k_here; (with_reducible show wpAny _ _ (getMethod (Value.ref _) (Str.ofString "get") _) _ _ _); k_dflt (refine kdg_method (knd := PySem.strKind _ _) (by k_asm) (by walk_at "mine mm") (by with_reducible assumption) ?_)))
local macro_rules | `(tactic| walk_at "call builtin:dict.get") => `(tactic| (k_here; (with_reducible show wpAny _ _ (call (Value.builtin "dict.get") [Value.ref _, Value.str _ _, _]) _ _ _); k_dflt (first
  | refine kdg_get2 (knd := PySem.strKind _ _) (by k_asm) (by walk_at "mine mm") (by with_reducible assumption) (by with_reducible assumption) (strKind_is _ _ _ _) (some _) (by with_reducible assumption) ?_
  | refine kdg_get2 (knd := PySem.strKind _ _) (by k_asm) (by walk_at "mine mm") (by with_reducible assumption) (by with_reducible assumption) (strKind_is _ _ _ _) none (by with_reducible assumption) ?_); (try dsimp only [Option.getD])))
theorem sh_len {m : Nat} {a b c d r : List Nat} (h : m + (a ++ b ++ c ++ d ++ r).length ≤ 100000) : c.length ≤ 100000 := by simp only [List.length_append] at h; omega
theorem sh_text {y yc : Str} {ty : Str} {tx r tot : List Nat} (h : y.cps.toList ++ (tail5 ty ++ [40] ++ tx ++ [41] ++ r) = tot) (hy : yc = txt tx) :
    (y ++ Txt.slice ty (some (-5)) none ++ Str.ofString "(" ++ yc ++ Str.ofString ")").cps.toList ++ r = tot := by
  rw [← h, hy]
  simp only [app_L, txt_L]
  rw [show (Str.ofString "(").cps.toList = [40] by decide +kernel, show (Str.ofString ")").cps.toList = [41] by decide +kernel]
  simp [tail5]
theorem sh_done {y : Str} {l : List Nat} (h : y.cps.toList = l) : y = txt l := str_ext (by rw [h]; rfl)
theorem shown_zero (w : World) : ∀ (nx : List (Addr × Obj)) (l : Addr) (us : List Value) (n : Nat) (tot : List Nat) (hl : (l, W.listOf us.toArray n) ∈ nx) (hS : Shows w nx 0 us tot) (htot : tot.length ≤ 100000),
    Claim w 154 2 nx [.ref l] (GivesStr (txt tot) tot.length nx) := by
  intro nx l us n tot hl hS htot
  walk_at "mine fill"
  intro dp un gd cn cs a ccd cl outer A₀ base h₀ L m s Q E mean mg mb B F X N T hk hd hu hret
  refine wpAny_call ?_
  k_dflt walk_at "mine enter"
  w_top off
  k_with_none
  k_with "mine for" => skip
  k_with "mine iter" => (k_dflt (refine' shown_loop hl hS htot rfl ?lf ?ln ?lk ?lt ?ld; (case lf => k_asm); (case ln => k_asm); (case lk => rfl)); (case lt => intro y9 ty9 i9 v9 r9 rest9 u9 h9 tk9 own9 hd9 hR9; cases hR9); (case' ld => intro y9 ty9 u9 h9 tk9 hy9 F9 N9))
  k_steps
  exact hret _ _ _ _ (.mk (sh_done hy9) (Nat.le_of_eq (txt_length _))) (by k_asm) (by walk_at "mine news")
theorem shown_claim (w : World) (d : Nat) : ∀ (nx : List (Addr × Obj)) (l : Addr) (us : List Value) (n : Nat) (tot : List Nat) (hl : (l, W.listOf us.toArray n) ∈ nx) (hS : Shows w nx d us tot) (htot : tot.length ≤ 100000),
    Claim w 154 (d + 2) nx [.ref l] (GivesStr (txt tot) tot.length nx) := by
  induction d with
  | zero => exact shown_zero w
  | succ d ih =>
  intro nx l us n tot hl hS htot
  walk_at "mine fill"
  intro dp un gd cn cs a ccd cl outer A₀ base h₀ L m s Q E mean mg mb B F X N T hk hd hu hret
  refine wpAny_call ?_
  k_dflt walk_at "mine enter"
  w_top off
  k_with_none
  k_with "mine for" => skip
  k_with "mine iter" => (k_dflt (refine' shown_loop hl hS htot rfl ?lf ?ln ?lk ?lt ?ld; (case lf => k_asm); (case ln => k_asm); (case lk => rfl)); (case' lt => intro y9 ty9 i9 v9 r9 rest9 u9 h9 tk9 own9 hd9 hR9 hr9 hq9 ho9 F9 N9; have kMark := kstMark; have hy8 : y9.length ≤ 100000 := Nat.le_trans (Nat.le_add_right _ _) hq9; cases hR9); (case' ld => intro y9 ty9 u9 h9 tk9 hy9 F9 N9))
  k_with "mine claim" => first
    | exact ih _ _ [] 0 [] (List.mem_cons_self ..) (.nil _) (by decide)
    | exact ih _ _ _ _ _ (List.mem_cons_of_mem _ (List.mem_append_left _ (by with_reducible assumption))) (Shows.mono (fun p hp => List.mem_cons_of_mem _ (List.mem_append_left _ hp)) (by with_reducible assumption)) (sh_len hq9)
  k_with "mine add" => (have hsl := sh_len hq9; have hp1 := (show (Str.ofString "(").length = 1 by decide +kernel); have hp2 := (show (Str.ofString ")").length = 1 by decide +kernel); omega)
  k_with "mine turn" => ((rename News _ _ _ _ => nE'); (rename Fr _ _ _ _ => fE'); (with_unfolding_all refine' shown_end (d := d + 1) (nx := nx) (us := us) (tot := tot) (i := i9) (own := own9) fE' nE' hd9 ?eR ?ey ?en ho9 ?ek ?er); (case eR => with_reducible assumption); (case ey => exact sh_text hr9 (by assumption)); (case en => exact fun p hp => List.mem_cons_of_mem _ hp); (case ek => exact if_pos rfl); (case er => intro z h1 h2; dsimp only [kstB]; rw [if_neg h2, if_neg h1, if_neg h2]; exact if_neg Bool.false_ne_true))
  k_steps
  exact hret _ _ _ _ (.mk (sh_done hy9) (Nat.le_of_eq (txt_length _))) (by k_asm) (by walk_at "mine news")
end Mine
end

section
open PySem PySem.W PyProof.Rows
set_option maxRecDepth 100000
set_option maxHeartbeats 8000000
namespace Mine
local macro_rules | `(tactic| walk_at "mine pad 0") => `(tactic| skip)
local macro_rules | `(tactic| walk_at "mine pad 1") => `(tactic| skip)
local macro_rules | `(tactic| walk_at "mine pad 2") => `(tactic| skip)
local macro_rules | `(tactic| walk_at "mine pad 3") => `(tactic| skip)
local macro_rules | `(tactic| walk_at "mine pad 4") => `(tactic| skip)
local macro_rules | `(tactic| walk_at "mine pad 5") => `(tactic| skip)
local macro_rules | `(tactic| walk_at "mine pad 6") => `(tactic| skip)
local macro_rules | `(tactic| walk_at "mine pad 7") => `(tactic| skip)
local macro_rules | `(tactic| walk_at "mine pad 8") => `(tactic| skip)
local macro_rules | `(tactic| walk_at "mine pad 9") => `(tactic| skip)
local macro_rules | `(tactic| walk_at "mine pad 10") => `(tactic| skip)
local macro_rules | `(tactic| walk_at "mine pad 11") => `(tactic| skip)
local macro_rules | `(tactic| walk_at "mine pad 12") => `(tactic| skip)
local macro_rules | `(tactic| walk_at "mine pad 13") => `(tactic| skip)
local macro_rules | `(tactic| walk_at "mine pad 14") => `(tactic| skip)
local macro_rules | `(tactic| walk_at "mine pad 15") => `(tactic| skip)
local macro_rules | `(tactic| walk_at "mine pad 16") => `(tactic| skip)
local macro_rules | `(tactic| walk_at "mine pad 17") => `(tactic| skip)
local macro_rules | `(tactic| walk_at "mine pad 18") => `(tactic| skip)
local macro_rules | `(tactic| walk_at "mine pad 19") => `(tactic| skip)
local macro_rules | `(tactic| walk_at "mine pad 20") => `(tactic| skip)
local macro_rules | `(tactic| walk_at "mine pad 21") => `(tactic| skip)
local macro_rules | `(tactic| walk_at "mine pad 22") => `(tactic| skip)
local macro_rules | `(tactic| walk_at "mine pad 23") => `(tactic| skip)
local macro_rules | `(tactic| walk_at "mine pad 24") => `(tactic| skip)
local macro_rules | `(tactic| walk_at "mine pad 25") => `(tactic| skip)
local macro_rules | `(tactic| walk_at "mine pad 26") => `(tactic| skip)
local macro_rules | `(tactic| walk_at "mine pad 27") => `(tactic| skip)
local macro_rules | `(tactic| walk_at "mine pad 28") => `(tactic| skip)
local macro_rules | `(tactic| walk_at "mine pad 29") => `(tactic| skip)
local macro_rules | `(tactic| walk_at "mine pad 30") => `(tactic| skip)
local macro_rules | `(tactic| walk_at "mine pad 31") => `(tactic| skip)
local macro_rules | `(tactic| walk_at "mine pad 32") => `(tactic| skip)
local macro_rules | `(tactic| walk_at "mine pad 33") => `(tactic| skip)
local macro_rules | `(tactic| walk_at "mine pad 34") => `(tactic| skip)
local macro_rules | `(tactic| walk_at "mine pad 35") => `(tactic| skip)
local macro_rules | `(tactic| walk_at "mine pad 36") => `(tactic| skip)
local macro_rules | `(tactic| walk_at "mine pad 37") => `(tactic| skip)
local macro_rules | `(tactic| walk_at "mine pad 38") => `(tactic| skip)
local macro_rules | `(tactic| walk_at "mine pad 39") => `(tactic| skip)
local macro_rules | `(tactic| walk_at "mine pad 40") => `(tactic| skip)
local macro_rules | `(tactic| walk_at "mine pad 41") => `(tactic| skip)
local macro_rules | `(tactic| walk_at "mine pad 42") => `(tactic| skip)
local macro_rules | `(tactic| walk_at "mine pad 43") => `(tactic| skip)
local macro_rules | `(tactic| walk_at "mine pad 44") => `(tactic| skip)
local macro_rules | `(tactic| walk_at "mine pad 45") => `(tactic| skip)
local macro_rules | `(tactic| walk_at "mine pad 46") => `(tactic| skip)
local macro_rules | `(tactic| walk_at "mine pad 47") => `(tactic| skip)
local macro_rules | `(tactic| walk_at "mine pad 48") => `(tactic| skip)
local macro_rules | `(tactic| walk_at "mine pad 49") => `(tactic| skip)
local macro_rules | `(tactic| walk_at "mine pad 50") => `(tactic| skip)
local macro_rules | `(tactic| walk_at "mine pad 51") => `(tactic| skip)
local macro_rules | `(tactic| walk_at "mine pad 52") => `(tactic| skip)
local macro_rules | `(tactic| walk_at "mine pad 53") => `(tactic| skip)
local macro_rules | `(tactic| walk_at "mine pad 54") => `(tactic| skip)
local macro_rules | `(tactic| walk_at "mine pad 55") => `(tactic| skip)
local macro_rules | `(tactic| walk_at "mine pad 56") => `(tactic| skip)
local macro_rules | `(tactic| walk_at "mine pad 57") => `(tactic| skip)
local macro_rules | `(tactic| walk_at "mine pad 58") => `(tactic| skip)
local macro_rules | `(tactic| walk_at "mine pad 59") => `(tactic| skip)
local macro_rules | `(tactic| walk_at "mine pad 60") => `(tactic| skip)
local macro_rules | `(tactic| walk_at "mine pad 61") => `(tactic| skip)
local macro_rules | `(tactic| walk_at "mine pad 62") => `(tactic| skip)
local macro_rules | `(tactic| walk_at "mine pad 63") => `(tactic| skip)
local macro_rules | `(tactic| walk_at "mine pad 64") => `(tactic| skip)
local macro_rules | `(tactic| walk_at "mine pad 65") => `(tactic| skip)
local macro_rules | `(tactic| walk_at "mine pad 66") => `(tactic| skip)
local macro_rules | `(tactic| walk_at "mine pad 67") => `(tactic| skip)
local macro_rules | `(tactic| walk_at "mine pad 68") => `(tactic| skip)
local macro_rules | `(tactic| walk_at "mine pad 69") => `(tactic| skip)
local macro_rules | `(tactic| walk_at "mine pad 70") => `(tactic| skip)
local macro_rules | `(tactic| walk_at "mine pad 71") => `(tactic| skip)
local macro_rules | `(tactic| walk_at "mine pad 72") => `(tactic| skip)
local macro_rules | `(tactic| walk_at "mine pad 73") => `(tactic| skip)
local macro_rules | `(tactic| walk_at "mine pad 74") => `(tactic| skip)
local macro_rules | `(tactic| walk_at "mine pad 75") => `(tactic| skip)
local macro_rules | `(tactic| walk_at "mine pad 76") => `(tactic| skip)
local macro_rules | `(tactic| walk_at "mine pad 77") => `(tactic| skip)
local macro_rules | `(tactic| walk_at "mine pad 78") => `(tactic| skip)
local macro_rules | `(tactic| walk_at "mine pad 79") => `(tactic| skip)
local macro_rules | `(tactic| walk_at "mine pad 80") => `(tactic| skip)
local macro_rules | `(tactic| walk_at "mine pad 81") => `(tactic| skip)
local macro_rules | `(tactic| walk_at "mine pad 82") => `(tactic| skip)
local macro_rules | `(tactic| walk_at "mine pad 83") => `(tactic| skip)
local macro_rules | `(tactic| walk_at "mine pad 84") => `(tactic| skip)
local macro_rules | `(tactic| walk_at "mine pad 85") => `(tactic| skip)
local macro_rules | `(tactic| walk_at "mine pad 86") => `(tactic| skip)
local macro_rules | `(tactic| walk_at "mine pad 87") => `(tactic| skip)
local macro_rules | `(tactic| walk_at "mine pad 88") => `(tactic| skip)
local macro_rules | `(tactic| walk_at "mine pad 89") => `(tactic| skip)
local macro_rules | `(tactic| walk_at "mine pad 90") => `(tactic| skip)
local macro_rules | `(tactic| walk_at "mine pad 91") => `(tactic| skip)
local macro_rules | `(tactic| walk_at "mine pad 92") => `(tactic| skip)
local macro_rules | `(tactic| walk_at "mine pad 93") => `(tactic| skip)
local macro_rules | `(tactic| walk_at "mine pad 94") => `(tactic| skip)
local macro_rules | `(tactic| walk_at "mine pad 95") => `(tactic| skip)
local macro_rules | `(tactic| walk_at "mine pad 96") => `(tactic| skip)
local macro_rules | `(tactic| walk_at "mine pad 97") => `(tactic| skip)
local macro_rules | `(tactic| walk_at "mine pad 98") => `(tactic| skip)
local macro_rules | `(tactic| walk_at "mine pad 99") => `(tactic| skip)
local macro_rules | `(tactic| walk_at "mine pad 100") => `(tactic| skip)
local macro_rules | `(tactic| walk_at "mine pad 101") => `(tactic| skip)
local macro_rules | `(tactic| walk_at "mine pad 102") => `(tactic| skip)
local macro_rules | `(tactic| walk_at "mine pad 103") => `(tactic| skip)
local macro_rules | `(tactic| walk_at "mine pad 104") => `(tactic| skip)
local macro_rules | `(tactic| walk_at "mine news") => `(tactic| first | k_asm | (refine' cb_drop ?cbN ?cbS; (case cbN => assumption); (case cbS => kcj_all)))
local macro_rules | `(tactic| walk_at "mine fill") => `(tactic| (
  have key : PySem.Challenge.rw_ci0011_01 = PySem.Challenge.rw_ci0011_01 ∧ hd.heap_39 = hd.heap_39 := ⟨rfl, rfl⟩
  revert key
  k_fill
  intro _))
local macro_rules | `(tactic| walk_at "mine enter") => `(tactic| (
  refine' code_def ?k1 ?k2 ?k3 ?k4 ?k5 ?kA ?kF ?kK ?k6 ?k7 ?k8 ?k9 ?kB ?_ ?c2 ?c3 ?c4 ?c5
  (case kA => exact rfl)
  (case kF => exact rfl)
  (case kK => assumption)
  (case k1 => k_asm)
  (case k2 => k_asm)
  (case k3 => k_asm)
  (case k4 => k_asm)
  (case k5 => k_asm)
  (case k6 => k_is)
  (case k7 => k_is)
  (case k8 => ktr_room)
  (case k9 => first | exact BindsTo.of_eq rfl | exact binds_K (by k_in) rfl (by k_is) rfl rfl rfl)
  (case c5 => decide)
  (case kB => exact locs rfl)
  (case c2 => exact rfl)
  (case c3 => exact rfl)
  (case c4 => exact rfl)
  k_whole
  intro g' L' h' FG' F' N' B' X' T'
  (try dsimp only)
  (try k_lift B')
  (try k_fold)))
local macro_rules | `(tactic| walk_at "exec While Compare cons nil") => `(tactic| k_extra "mine while")
local macro_rules | `(tactic| walk_at "exec While BoolOp cons nil") => `(tactic| k_extra "mine while")
local macro_rules | `(tactic| kst_facts) => `(tactic| first | exact PyProof.Rows.StrsAre.nil | exact PyProof.Rows.StrsAre.append' (by assumption) (.cons _ _ .nil) | fail "no facts")
local macro_rules | `(tactic| walk_at "call builtin:str.join") => `(tactic| (k_here; (with_reducible show wpAny _ _ (call (Value.builtin "str.join") [Value.str _ _, Value.ref _]) _ _ _); k_dflt (refine join_listW (by is_list) (by first | assumption | k_extra "mine strs") (by decide +kernel) ?mj ?_; (case mj => k_extra "mine join"); intro _ _; (try k_extra "mine joined"))))
local macro_rules | `(tactic| walk_at "binaryOp Add str str") => `(tactic| (k_here; (with_reducible show wpAny _ _ (binaryOp Operator.Add (Value.str _ _) (Value.str _ _)) _ _ _); (refine SBL.add (hsz := ?hsz) ?_; (case hsz => (rw [PySem.sizeLine_eq]; first | omega | k_extra "mine add")); intro _ _ _)))
local macro_rules | `(tactic| walk_at "call ref") => `(tactic| (k_here; k_dflt (
  refine' Claim.use ?kc ?k1 ?k2 ?k3 ?k4 ?k5 ?kK ?kd ?ku ?_
  (case k2 => k_asm)
  (case k4 => k_asm)
  (case kc => k_extra "mine claim")
  (case k1 => k_asm)
  (case k3 => k_asm)
  (case k5 => k_asm)
  (case kK => first | exact rfl | assumption)
  (case kd => ktr_room)
  (case ku => ktr_units)
  k_whole
  intro v9 n9 h9 tk9 hp9 F9 N9
  (first | k_extra "mine post" | (obtain ⟨⟨y9, t9, e9, hy9, hl9⟩, e9'⟩ := hp9; subst e9; replace e9' := Eq.symm e9'; subst e9') | (obtain ⟨⟨t9, e9⟩, e9'⟩ := hp9; subst e9; replace e9' := Eq.symm e9'; subst e9') | (obtain ⟨e9, e9'⟩ := hp9; subst e9; replace e9' := Eq.symm e9'; subst e9') | (obtain ⟨a9, j9, t9, y9, u9, e9, e9', hj9, hy9, hl9, ⟨lo9, hi9⟩, lt9⟩ := hp9; subst e9; subst e9'; (try k_lt lt9)))
  (try dsimp only)
  (try k_fold))))
local macro_rules | `(tactic| walk_at "call builtin:str.split") => `(tactic| (k_here; (with_reducible show wpAny _ _ (call (Value.builtin "str.split") _) _ _ _); refine KSpl.split1 (by k_asm) (by k_asm) (by decide +kernel) ?_ (by rw [PySem.sizeLine_eq]; omega); intro D' l' h' k' e' a' F' N' l1; (try k_lt l1); rw [e'] at a'; generalize (strValues l') = us' at *; clear e'))
local macro_rules | `(tactic| walk_at "exec For Name Name cons nil") => `(tactic| (k_extra "mine for"; k_here; (rename Fr _ _ _ _ => lF'); (with_unfolding_all refine' For_invVF lF' ?k1 ?k2 ?_; (case k1 => exact rfl); (case k2 => exact rfl); k_whole)))
local macro_rules | `(tactic| walk_at "pyIter ref") => `(tactic| (k_here; (with_reducible show wpAny _ _ (pyIter (Value.ref _)) (fun it s₂ => LoopAtV _ _ _ _ _ _ _ _ _ it s₂) _ _); k_extra "mine iter"; (all_goals (try k_fold))))
local macro_rules | `(tactic| walk_at "TbPost") => `(tactic| (dsimp only [TbPost]))
local macro_rules | `(tactic| walk_at "TbEnd") => `(tactic| k_extra "mine turn")
local macro_rules | `(tactic| walk_at "eval ListComp") => `(tactic| (k_here; k_extra "mine comp"))
local macro_rules | `(tactic| walk_at "call type:enumerate") => `(tactic| (k_here; k_extra "mine enum"))
local macro_rules | `(tactic| walk_at "subscriptTail Name Slice ref ref") => `(tactic| (k_here; k_extra "mine slice"))
local macro_rules | `(tactic| walk_at "binaryOp Add ref ref") => `(tactic| (k_here; k_extra "mine addl"))
local macro_rules | `(tactic| walk_at "CEnd") => `(tactic| exact ⟨_, _, rfl, by k_asm, by k_asm⟩)
local macro_rules | `(tactic| walk_at "IntsAre") => `(tactic| k_extra "mine ints")
local macro_rules | `(tactic| walk_at "exec For Name Subscript cons nil") => `(tactic| (k_here; (rename Fr _ _ _ _ => lF'); (with_unfolding_all refine' For_invVF lF' ?k1 ?k2 ?_; (case k1 => exact rfl); (case k2 => exact rfl); k_whole)))
local macro_rules | `(tactic| walk_at "mine mm") => `(tactic| with_reducible first | assumption | exact List.mem_append_left _ (by assumption) | exact List.mem_cons_of_mem _ (by first | assumption | exact List.mem_append_left _ (by assumption)))
local macro_rules | `(tactic| walk_at "subscriptTail Name Constant ref str") => `(tactic| (k_here; (with_reducible show wpAny _ _ (subscriptTail _ _ (Value.ref _) (Value.str _ _)) _ _ _); k_dflt (first | refine kda_item (knd := PySem.strKind _ _) (by k_asm) (by walk_at "mine mm") (by with_reducible assumption) (strKind_is _ _ _ _) (by with_reducible assumption) ?_ | refine kda_item (knd := PySem.strKind _ _) (by k_asm) (by walk_at "mine mm") (by with_reducible assumption) (strKind_is _ _ _ _) (by rfl) ?_)))
local macro_rules | `(tactic| walk_at "setItem ref str") => `(tactic| (k_here; (with_reducible show wpAny _ _ (setItem (Value.ref _) (Value.str _ _) (Value.str _ _)) _ _ _); k_extra "mine set"))
theorem tight_loose (w : World) (d : Nat) (nx : List (Addr × Obj)) (a : Addr) (o : Obj) (kvs : List (Str × Value)) (hm : (a, o) ∈ nx) (hD : DictO w o kvs) (h1 : valueAt kvs kTi = some (.bool false)) :
    Claim w 50 (d + 2) nx [.ref a] (fun v n' => v = .none ∧ Chg w [] nx n') := by
  walk_at "mine fill"
  intro dp un gd cn cs ca ccd cl outer A₀ base h₀ L m s Q E mean mg mb B F X N T hk hd hu hret
  refine wpAny_call ?_
  k_dflt walk_at "mine enter"
  w_top off
  k_with_none
  k_steps
  exact hret _ _ _ _ ⟨rfl, Chg.refl nx⟩ (by k_asm) (by walk_at "mine news")
theorem c_notin {S R S8 S18 S28 R1 : List Addr} {j c : Addr} (hSR : ∀ b ∈ S, b ∉ R) (hS : S = S8 ++ (S18 ++ S28)) (hR : ∀ b ∈ j :: c :: R1, b ∈ R) : c ∉ S18 := fun hb =>
  hSR c (by rw [hS]; exact List.mem_append_right _ (List.mem_append_left _ hb)) (hR c (List.mem_cons_of_mem _ (List.mem_cons_self ..)))
theorem tight_step (w : World) (d : Nat) (ih : ∀ d', d = d' + 1 → ∀ nx a S R, Tf w nx d' (.tok a) S R → S.Nodup → (∀ b ∈ S, b ∉ R) → Claim w 50 (d' + 2) nx [.ref a] (fun v n' => v = .none ∧ Chg w S nx n'))
    (nx : List (Addr × Obj)) (a c : Addr) (o : Obj) (n : Nat) (kvs : List (Str × Value)) (ks : List Value) (S R : List Addr) (hm : (a, o) ∈ nx) (hD : DictO w o kvs) (h1 : valueAt kvs kTi = some (.bool true)) (h2 : valueAt kvs kCh = some (.ref c)) (hl : (c, W.listOf ks.toArray n) ∈ nx) (hT : Tf w nx d (.items ks) S R)
    (hnd : S.Nodup) (hSR : ∀ b ∈ S, b ∉ R) (hcS : c ∉ S) :
    Claim w 50 (d + 2) nx [.ref a] (fun v n' => v = .none ∧ Chg w S nx n') := by
  walk_at "mine fill"
  intro dp un gd cn cs ca ccd cl outer A₀ base h₀ L m s Q E mean mg mb B F X N T hk hd hu hret
  refine wpAny_call ?_
  k_dflt walk_at "mine enter"
  w_top off
  k_with_none
  k_with "mine iter" => first
    | ((with_reducible show wpAny _ _ (pyIter (Value.ref _)) (fun it s₂ => LoopAtV _ _ _ _ _ (Str.ofString "list_item") _ _ _ it s₂) _ _); k_dflt (refine' tf_loop .items items_nil [Str.ofString "tok"] hl hcS hT rfl ?lf ?ln ?lt ?ld; (case lf => k_asm); (case ln => k_asm)); (case' lt => intro i8 v8 rest8 S8 Z8 R8 n8 u8 h8 tk8 own8 hd8 hS8 hT8 hR8 hC8 ho8 F8 N8; have kMark := kstMark; obtain ⟨j8, c8, o8, m8, kvs8, ks8, S18, S28, R18, R28, rfl, hj8, hD8, hc8, hl8, hK8, hI8, rfl, rfl⟩ := hT8.item_inv; have hn18 := part_nodup hnd hS8; have hx18 := part_off hSR hS8 (fun b hb => hR8 b (List.mem_cons_of_mem _ (List.mem_cons_of_mem _ (List.mem_append_left _ hb))))); (case' ld => intro n9 u9 h9 tk9 hC9 F9 N9))
    | (k_dflt (refine' tf_loop .toks toks_nil [] (List.mem_append_left own8 hl8) (c_notin hSR hS8 hR8) hK8.app rfl ?vf ?vn ?vt ?vd; (case vf => k_asm); (case vn => k_asm)); (case' vt => intro i7 v7 rest7 S7 Z7 R7 n7 u7 h7 tk7 own7 hd7 hS7 hT7 hR7 hC7 ho7 F7 N7; have kMark7 := kstMark; rcases hT7.toks_inv with ⟨p7, o7, t7, S27, rfl, hp7, hD7, hK7, rfl⟩ | ⟨q7, o7, kvs7, ty7, t7, R27, rfl, hq7, hD7, ht7, hn7, hm7, hK7, rfl⟩ | ⟨d7, a7, o7, kvs7, t7, S17, S27, R17, R27, hdd, rfl, ha7, hD7, ht7, hA7, hK7, rfl, rfl⟩); (case' vd => intro n6 u6 h6 tk6 hC6 F6 N6))
  k_with "mine set" => (k_dflt (refine set_abs (knd := PySem.strKind _ _) (by k_asm) (by k_asm) (List.mem_append_left own7 hp7) hD7 (strKind_is _ _ _ _) (by rw [PySem.sizeLine_eq]; exact Nat.le_of_ble_eq_true rfl) ?_); intro h5 o5 F5 N5 hd5; have hset := Chg.set (w := w) (List.mem_append_left own7 hp7) (dict_blk hd5))
  k_with "mine claim" => exact ih d7 hdd _ _ _ _ hA7.app (part_nodup hn18 hS7) (part_off hx18 hS7 (fun b hb => hR7 b (List.mem_cons_of_mem _ (List.mem_append_left _ hb))))
  k_with "mine post" => (rename _ ∧ Chg _ _ _ _ => hp6; obtain ⟨e6, hC5⟩ := hp6; subst e6)
  k_with "mine turn" => ((rename News _ _ _ _ => nE'); (rename Fr _ _ _ _ => fE'); first
    | (with_unfolding_all refine tf_end (wrap := .toks) fE' nE' hd7 (T := [p7]) hS7 hK7 hR7 (fun b hb => ⟨_, hp7, (List.mem_singleton.mp hb).symm⟩) hC7 hset hn18 hx18 ho7 ?_; intro z h1 h3; rw [if_neg h1]; exact if_neg Bool.false_ne_true)
    | (with_unfolding_all refine tf_end (wrap := .toks) fE' nE' hd7 (T := []) hS7 hK7 (fun b hb => hR7 b (List.mem_cons_of_mem _ hb)) (fun b hb => (nomatch hb)) hC7 (Chg.refl (n7 ++ own7)) hn18 hx18 ho7 ?_; intro z h1 h3; rw [if_neg h1]; exact if_neg Bool.false_ne_true)
    | (with_unfolding_all refine tf_end (wrap := .toks) fE' nE' hd7 (T := S17) hS7 hK7 (fun b hb => hR7 b (List.mem_cons_of_mem _ (List.mem_append_right _ hb))) hA7.mem hC7 hC5 hn18 hx18 ho7 ?_; intro z h1 h3; rw [if_neg h1]; exact if_neg Bool.false_ne_true)
    | (with_unfolding_all refine tf_end (wrap := .items) fE' nE' hd8 (T := S18) hS8 hI8 (fun b hb => hR8 b (List.mem_cons_of_mem _ (List.mem_cons_of_mem _ (List.mem_append_right _ hb)))) hK8.mem hC8 hC6 hnd hSR ho8 ?_; intro z h1 h3; have h4 : z ≠ Str.ofString "tok" := (by intro e; subst e; simp at h3); exact Eq.trans (if_neg h4) (Eq.trans (if_neg Bool.false_ne_true) (Eq.trans (if_neg h1) (if_neg (by rw [h3]; exact Bool.false_ne_true))))))
  k_steps
  exact hret _ _ _ _ ⟨rfl, hC9⟩ (by k_asm) (by walk_at "mine news")
theorem tight_claim (w : World) (d : Nat) : ∀ nx a S R, Tf w nx d (.tok a) S R → S.Nodup → (∀ b ∈ S, b ∉ R) → Claim w 50 (d + 2) nx [.ref a] (fun v n' => v = .none ∧ Chg w S nx n') := by
  induction d with
  | zero =>
    intro nx a S R h hnd hSR
    cases h with
    | loose h1 h2 h3 => exact tight_loose w _ _ _ _ _ h1 h2 h3
    | tight h1 h2 h3 h4 h5 h6 => exact tight_step w 0 (fun d' e => (nomatch e)) _ _ _ _ _ _ _ _ _ h1 h2 h3 h4 h5 h6 hnd (fun b hb hR => hSR b hb (List.mem_cons_of_mem _ (List.mem_cons_of_mem _ hR))) (fun hc => hSR _ hc (List.mem_cons_of_mem _ (List.mem_cons_self ..)))
  | succ d ih =>
    intro nx a S R h hnd hSR
    cases h with
    | loose h1 h2 h3 => exact tight_loose w _ _ _ _ _ h1 h2 h3
    | tight h1 h2 h3 h4 h5 h6 => exact tight_step w (d + 1) (fun d' e => by obtain rfl := Nat.succ.inj e; exact ih) _ _ _ _ _ _ _ _ _ h1 h2 h3 h4 h5 h6 hnd (fun b hb hR => hSR b hb (List.mem_cons_of_mem _ (List.mem_cons_of_mem _ hR))) (fun hc => hSR _ hc (List.mem_cons_of_mem _ (List.mem_cons_self ..)))
end Mine
end

section
open PySem PySem.W PySem.Calls PyProof.Rows PyProof.V PySem.Spec
namespace Mine
theorem After.tight {w : World} {nx : List (Addr × Obj)} {ns : List Int} {ws : List Value} {k : Nat} {r c a : Addr} {d : Nat} {S R : List Addr} (P : After w nx ns ws k r c a d S R) :
    Claim w 50 5 nx [.ref a] (fun v n' => v = .none ∧ Chg w S nx n') :=
  Claim.up (c := d + 2) (by have := P.hd; omega) (tight_claim w d nx a S R P.tf P.nd P.sr)
theorem After.shown {w : World} {nx ny : List (Addr × Obj)} {ns : List Int} {ws : List Value} {k : Nat} {r c a : Addr} {d : Nat} {S R : List Addr} (P : After w nx ns ws k r c a d S R) (C : Chg w S nx ny) :
    Claim w 154 14 ny [.ref c] (GivesStr (txt (dueL ns true)) (dueL ns true).length ny) :=
  Claim.up (c := 2 * ns.length + 4 + 2) (by have := P.hl; omega) (shown_claim w (2 * ns.length + 4) ny c _ 0 _ (C.keep _ P.mem P.off) (P.run ny C.keep C.done) (by have := dueL_len ns true; have := P.hl; omega))
theorem After.due {w : World} {nx ny : List (Addr × Obj)} {ns : List Int} {ws : List Value} {k : Nat} {r c a : Addr} {d : Nat} {S R : List Addr} (P : After w nx ns ws k r c a d S R) (C : Chg w S nx ny) (hI : IntsAre ws ns) :
    Claim w 161 16 ny [.ref r, .bool true] (GivesStr (txt (dueL ns true)) (60 * 4) ny) :=
  Claim.mem (C.keep _ P.row P.offr) (law_due w 4 ny r ws ns k true hI P.hl (Nat.le_refl _))
end Mine
end

section
open PySem PySem.W PyProof.Rows
set_option maxRecDepth 100000
set_option maxHeartbeats 8000000
namespace Mine
local macro_rules | `(tactic| walk_at "mine pad 0") => `(tactic| skip)
local macro_rules | `(tactic| walk_at "mine pad 1") => `(tactic| skip)
local macro_rules | `(tactic| walk_at "mine pad 2") => `(tactic| skip)
local macro_rules | `(tactic| walk_at "mine pad 3") => `(tactic| skip)
local macro_rules | `(tactic| walk_at "mine pad 4") => `(tactic| skip)
local macro_rules | `(tactic| walk_at "mine pad 5") => `(tactic| skip)
local macro_rules | `(tactic| walk_at "mine pad 6") => `(tactic| skip)
local macro_rules | `(tactic| walk_at "mine pad 7") => `(tactic| skip)
local macro_rules | `(tactic| walk_at "mine pad 8") => `(tactic| skip)
local macro_rules | `(tactic| walk_at "mine pad 9") => `(tactic| skip)
local macro_rules | `(tactic| walk_at "mine pad 10") => `(tactic| skip)
local macro_rules | `(tactic| walk_at "mine pad 11") => `(tactic| skip)
local macro_rules | `(tactic| walk_at "mine pad 12") => `(tactic| skip)
local macro_rules | `(tactic| walk_at "mine pad 13") => `(tactic| skip)
local macro_rules | `(tactic| walk_at "mine pad 14") => `(tactic| skip)
local macro_rules | `(tactic| walk_at "mine pad 15") => `(tactic| skip)
local macro_rules | `(tactic| walk_at "mine pad 16") => `(tactic| skip)
local macro_rules | `(tactic| walk_at "mine pad 17") => `(tactic| skip)
local macro_rules | `(tactic| walk_at "mine pad 18") => `(tactic| skip)
local macro_rules | `(tactic| walk_at "mine pad 19") => `(tactic| skip)
local macro_rules | `(tactic| walk_at "mine pad 20") => `(tactic| skip)
local macro_rules | `(tactic| walk_at "mine pad 21") => `(tactic| skip)
local macro_rules | `(tactic| walk_at "mine pad 22") => `(tactic| skip)
local macro_rules | `(tactic| walk_at "mine pad 23") => `(tactic| skip)
local macro_rules | `(tactic| walk_at "mine pad 24") => `(tactic| skip)
local macro_rules | `(tactic| walk_at "mine pad 25") => `(tactic| skip)
local macro_rules | `(tactic| walk_at "mine pad 26") => `(tactic| skip)
local macro_rules | `(tactic| walk_at "mine pad 27") => `(tactic| skip)
local macro_rules | `(tactic| walk_at "mine pad 28") => `(tactic| skip)
local macro_rules | `(tactic| walk_at "mine pad 29") => `(tactic| skip)
local macro_rules | `(tactic| walk_at "mine pad 30") => `(tactic| skip)
local macro_rules | `(tactic| walk_at "mine pad 31") => `(tactic| skip)
local macro_rules | `(tactic| walk_at "mine pad 32") => `(tactic| skip)
local macro_rules | `(tactic| walk_at "mine pad 33") => `(tactic| skip)
local macro_rules | `(tactic| walk_at "mine pad 34") => `(tactic| skip)
local macro_rules | `(tactic| walk_at "mine pad 35") => `(tactic| skip)
local macro_rules | `(tactic| walk_at "mine pad 36") => `(tactic| skip)
local macro_rules | `(tactic| walk_at "mine pad 37") => `(tactic| skip)
local macro_rules | `(tactic| walk_at "mine pad 38") => `(tactic| skip)
local macro_rules | `(tactic| walk_at "mine pad 39") => `(tactic| skip)
local macro_rules | `(tactic| walk_at "mine pad 40") => `(tactic| skip)
local macro_rules | `(tactic| walk_at "mine pad 41") => `(tactic| skip)
local macro_rules | `(tactic| walk_at "mine pad 42") => `(tactic| skip)
local macro_rules | `(tactic| walk_at "mine pad 43") => `(tactic| skip)
local macro_rules | `(tactic| walk_at "mine pad 44") => `(tactic| skip)
local macro_rules | `(tactic| walk_at "mine pad 45") => `(tactic| skip)
local macro_rules | `(tactic| walk_at "mine pad 46") => `(tactic| skip)
local macro_rules | `(tactic| walk_at "mine pad 47") => `(tactic| skip)
local macro_rules | `(tactic| walk_at "mine pad 48") => `(tactic| skip)
local macro_rules | `(tactic| walk_at "mine pad 49") => `(tactic| skip)
local macro_rules | `(tactic| walk_at "mine pad 50") => `(tactic| skip)
local macro_rules | `(tactic| walk_at "mine pad 51") => `(tactic| skip)
local macro_rules | `(tactic| walk_at "mine pad 52") => `(tactic| skip)
local macro_rules | `(tactic| walk_at "mine pad 53") => `(tactic| skip)
local macro_rules | `(tactic| walk_at "mine pad 54") => `(tactic| skip)
local macro_rules | `(tactic| walk_at "mine pad 55") => `(tactic| skip)
local macro_rules | `(tactic| walk_at "mine pad 56") => `(tactic| skip)
local macro_rules | `(tactic| walk_at "mine pad 57") => `(tactic| skip)
local macro_rules | `(tactic| walk_at "mine pad 58") => `(tactic| skip)
local macro_rules | `(tactic| walk_at "mine pad 59") => `(tactic| skip)
local macro_rules | `(tactic| walk_at "mine pad 60") => `(tactic| skip)
local macro_rules | `(tactic| walk_at "mine pad 61") => `(tactic| skip)
local macro_rules | `(tactic| walk_at "mine pad 62") => `(tactic| skip)
local macro_rules | `(tactic| walk_at "mine pad 63") => `(tactic| skip)
local macro_rules | `(tactic| walk_at "mine pad 64") => `(tactic| skip)
local macro_rules | `(tactic| walk_at "mine pad 65") => `(tactic| skip)
local macro_rules | `(tactic| walk_at "mine pad 66") => `(tactic| skip)
local macro_rules | `(tactic| walk_at "mine pad 67") => `(tactic| skip)
local macro_rules | `(tactic| walk_at "mine pad 68") => `(tactic| skip)
local macro_rules | `(tactic| walk_at "mine pad 69") => `(tactic| skip)
local macro_rules | `(tactic| walk_at "mine pad 70") => `(tactic| skip)
local macro_rules | `(tactic| walk_at "mine pad 71") => `(tactic| skip)
local macro_rules | `(tactic| walk_at "mine pad 72") => `(tactic| skip)
local macro_rules | `(tactic| walk_at "mine pad 73") => `(tactic| skip)
local macro_rules | `(tactic| walk_at "mine pad 74") => `(tactic| skip)
local macro_rules | `(tactic| walk_at "mine pad 75") => `(tactic| skip)
local macro_rules | `(tactic| walk_at "mine pad 76") => `(tactic| skip)
local macro_rules | `(tactic| walk_at "mine pad 77") => `(tactic| skip)
local macro_rules | `(tactic| walk_at "mine pad 78") => `(tactic| skip)
local macro_rules | `(tactic| walk_at "mine pad 79") => `(tactic| skip)
local macro_rules | `(tactic| walk_at "mine pad 80") => `(tactic| skip)
local macro_rules | `(tactic| walk_at "mine pad 81") => `(tactic| skip)
local macro_rules | `(tactic| walk_at "mine pad 82") => `(tactic| skip)
local macro_rules | `(tactic| walk_at "mine pad 83") => `(tactic| skip)
local macro_rules | `(tactic| walk_at "mine pad 84") => `(tactic| skip)
local macro_rules | `(tactic| walk_at "mine pad 85") => `(tactic| skip)
local macro_rules | `(tactic| walk_at "mine pad 86") => `(tactic| skip)
local macro_rules | `(tactic| walk_at "mine pad 87") => `(tactic| skip)
local macro_rules | `(tactic| walk_at "mine pad 88") => `(tactic| skip)
local macro_rules | `(tactic| walk_at "mine pad 89") => `(tactic| skip)
local macro_rules | `(tactic| walk_at "mine pad 90") => `(tactic| skip)
local macro_rules | `(tactic| walk_at "mine pad 91") => `(tactic| skip)
local macro_rules | `(tactic| walk_at "mine pad 92") => `(tactic| skip)
local macro_rules | `(tactic| walk_at "mine pad 93") => `(tactic| skip)
local macro_rules | `(tactic| walk_at "mine pad 94") => `(tactic| skip)
local macro_rules | `(tactic| walk_at "mine pad 95") => `(tactic| skip)
local macro_rules | `(tactic| walk_at "mine pad 96") => `(tactic| skip)
local macro_rules | `(tactic| walk_at "mine pad 97") => `(tactic| skip)
local macro_rules | `(tactic| walk_at "mine pad 98") => `(tactic| skip)
local macro_rules | `(tactic| walk_at "mine pad 99") => `(tactic| skip)
local macro_rules | `(tactic| walk_at "mine pad 100") => `(tactic| skip)
local macro_rules | `(tactic| walk_at "mine pad 101") => `(tactic| skip)
local macro_rules | `(tactic| walk_at "mine pad 102") => `(tactic| skip)
local macro_rules | `(tactic| walk_at "mine pad 103") => `(tactic| skip)
local macro_rules | `(tactic| walk_at "mine pad 104") => `(tactic| skip)
local macro_rules | `(tactic| walk_at "mine pad 105") => `(tactic| skip)
local macro_rules | `(tactic| walk_at "mine pad 106") => `(tactic| skip)
local macro_rules | `(tactic| walk_at "mine pad 107") => `(tactic| skip)
local macro_rules | `(tactic| walk_at "mine pad 108") => `(tactic| skip)
local macro_rules | `(tactic| walk_at "mine pad 109") => `(tactic| skip)
local macro_rules | `(tactic| walk_at "mine pad 110") => `(tactic| skip)
local macro_rules | `(tactic| walk_at "mine pad 111") => `(tactic| skip)
local macro_rules | `(tactic| walk_at "mine news") => `(tactic| first | k_asm | (refine' cb_drop ?cbN ?cbS; (case cbN => assumption); (case cbS => kcj_all)))
local macro_rules | `(tactic| walk_at "mine fill") => `(tactic| (
  have key : PySem.Challenge.rw_ci0011_01 = PySem.Challenge.rw_ci0011_01 ∧ hd.heap_39 = hd.heap_39 := ⟨rfl, rfl⟩
  revert key
  k_fill
  intro _))
local macro_rules | `(tactic| walk_at "mine enter") => `(tactic| (
  refine' code_def ?k1 ?k2 ?k3 ?k4 ?k5 ?kA ?kF ?kK ?k6 ?k7 ?k8 ?k9 ?kB ?_ ?c2 ?c3 ?c4 ?c5
  (case kA => exact rfl)
  (case kF => exact rfl)
  (case kK => assumption)
  (case k1 => k_asm)
  (case k2 => k_asm)
  (case k3 => k_asm)
  (case k4 => k_asm)
  (case k5 => k_asm)
  (case k6 => k_is)
  (case k7 => k_is)
  (case k8 => ktr_room)
  (case k9 => first | exact BindsTo.of_eq rfl | exact binds_K (by k_in) rfl (by k_is) rfl rfl rfl)
  (case c5 => decide)
  (case kB => exact locs rfl)
  (case c2 => exact rfl)
  (case c3 => exact rfl)
  (case c4 => exact rfl)
  k_whole
  intro g' L' h' FG' F' N' B' X' T'
  (try dsimp only)
  (try k_lift B')
  (try k_fold)))
local macro_rules | `(tactic| walk_at "exec While Compare cons nil") => `(tactic| k_extra "mine while")
local macro_rules | `(tactic| walk_at "exec While BoolOp cons nil") => `(tactic| k_extra "mine while")
local macro_rules | `(tactic| kst_facts) => `(tactic| first | exact PyProof.Rows.StrsAre.nil | exact PyProof.Rows.StrsAre.append' (by assumption) (.cons _ _ .nil) | fail "no facts")
local macro_rules | `(tactic| walk_at "call builtin:str.join") => `(tactic| (k_here; (with_reducible show wpAny _ _ (call (Value.builtin "str.join") [Value.str _ _, Value.ref _]) _ _ _); k_dflt (refine join_listW (by is_list) (by first | assumption | k_extra "mine strs") (by decide +kernel) ?mj ?_; (case mj => k_extra "mine join"); intro _ _; (try k_extra "mine joined"))))
local macro_rules | `(tactic| walk_at "binaryOp Add str str") => `(tactic| (k_here; (with_reducible show wpAny _ _ (binaryOp Operator.Add (Value.str _ _) (Value.str _ _)) _ _ _); (refine SBL.add (hsz := ?hsz) ?_; (case hsz => (rw [PySem.sizeLine_eq]; first | omega | k_extra "mine add")); intro _ _ _)))
local macro_rules | `(tactic| walk_at "call ref") => `(tactic| (k_here; k_dflt (
  refine' Claim.use ?kc ?k1 ?k2 ?k3 ?k4 ?k5 ?kK ?kd ?ku ?_
  (case k2 => k_asm)
  (case k4 => k_asm)
  (case kc => k_extra "mine claim")
  (case k1 => k_asm)
  (case k3 => k_asm)
  (case k5 => k_asm)
  (case kK => first | exact rfl | assumption)
  (case kd => ktr_room)
  (case ku => ktr_units)
  k_whole
  intro v9 n9 h9 tk9 hp9 F9 N9
  (first | k_extra "mine post" | (obtain ⟨⟨y9, t9, e9, hy9, hl9⟩, e9'⟩ := hp9; subst e9; replace e9' := Eq.symm e9'; subst e9') | (obtain ⟨⟨t9, e9⟩, e9'⟩ := hp9; subst e9; replace e9' := Eq.symm e9'; subst e9') | (obtain ⟨e9, e9'⟩ := hp9; subst e9; replace e9' := Eq.symm e9'; subst e9') | (obtain ⟨a9, j9, t9, y9, u9, e9, e9', hj9, hy9, hl9, ⟨lo9, hi9⟩, lt9⟩ := hp9; subst e9; subst e9'; (try k_lt lt9)))
  (try dsimp only)
  (try k_fold))))
local macro_rules | `(tactic| walk_at "call builtin:str.split") => `(tactic| (k_here; (with_reducible show wpAny _ _ (call (Value.builtin "str.split") _) _ _ _); refine KSpl.split1 (by k_asm) (by k_asm) (by decide +kernel) ?_ (by rw [PySem.sizeLine_eq]; omega); intro D' l' h' k' e' a' F' N' l1; (try k_lt l1); rw [e'] at a'; generalize (strValues l') = us' at *; clear e'))
local macro_rules | `(tactic| walk_at "exec For Name Name cons nil") => `(tactic| (k_extra "mine for"; k_here; (rename Fr _ _ _ _ => lF'); (with_unfolding_all refine' For_invVF lF' ?k1 ?k2 ?_; (case k1 => exact rfl); (case k2 => exact rfl); k_whole)))
local macro_rules | `(tactic| walk_at "pyIter ref") => `(tactic| (k_here; (with_reducible show wpAny _ _ (pyIter (Value.ref _)) (fun it s₂ => LoopAtV _ _ _ _ _ _ _ _ _ it s₂) _ _); k_extra "mine iter"; (all_goals (try k_fold))))
local macro_rules | `(tactic| walk_at "TbPost") => `(tactic| (dsimp only [TbPost]))
local macro_rules | `(tactic| walk_at "TbEnd") => `(tactic| k_extra "mine turn")
local macro_rules | `(tactic| walk_at "eval ListComp") => `(tactic| (k_here; k_extra "mine comp"))
local macro_rules | `(tactic| walk_at "call type:enumerate") => `(tactic| (k_here; k_extra "mine enum"))
local macro_rules | `(tactic| walk_at "subscriptTail Name Slice ref ref") => `(tactic| (k_here; k_extra "mine slice"))
local macro_rules | `(tactic| walk_at "binaryOp Add ref ref") => `(tactic| (k_here; k_extra "mine addl"))
local macro_rules | `(tactic| walk_at "CEnd") => `(tactic| exact ⟨_, _, rfl, by k_asm, by k_asm⟩)
local macro_rules | `(tactic| walk_at "IntsAre") => `(tactic| k_extra "mine ints")
local macro_rules | `(tactic| walk_at "eval IfExp Name") => `(tactic| (k_here; goal_lacks IntPost; k_dflt (refine' cut_int (fun _ => True) ?iF ?iN ?_ ?i2; (case iF => k_asm); (case iN => k_asm); (case' i2 => intro k8 t8 h8 tk8 hP8 F8 N8))))
local macro_rules | `(tactic| walk_at "eval IfExp Compare") => `(tactic| (k_here; goal_lacks IntPost; k_dflt (refine' cut_int (fun k => 0 ≤ k ∧ k < 7) ?iF ?iN ?_ ?i2; (case iF => k_asm); (case iN => k_asm); (case' i2 => intro k8 t8 h8 tk8 hP8 F8 N8))))
local macro_rules | `(tactic| walk_at "IntPost") => `(tactic| (refine IntPost.mk ?iP (by k_asm) (by k_asm); (case iP => first | exact trivial | exact ⟨by decide, by decide⟩ | exact idx_lt (by assumption))))
local macro_rules | `(tactic| walk_at "subscriptTail List cons BinOp ref int") => `(tactic| (k_here; k_dflt (refine' item_of (ws := [Str.ofString " ", Str.ofString "\t"]) ?il ?iw lead_two (idx_two _).1 (idx_two _).2 (Int.lt_trans (idx_two _).2 (by decide)) ?_; (case il => is_list); (case iw => repeat constructor); intro y8 t8 hy8; have hl8 := hy8.2)))
local macro_rules | `(tactic| walk_at "subscriptTail Call Name nil nil IfExp ref int") => `(tactic| (k_here; k_dflt (refine' item_of (ws := bodies) ?il (by assumption) bodies_ok (And.left (by assumption)) (And.right (by assumption)) (Int.lt_trans (And.right (by assumption)) (by decide)) ?_; (case il => is_list); intro y8 t8 hy8; have hl8 := hy8.len)))
local macro_rules | `(tactic| walk_at "subscriptTail Call Name nil nil BinOp ref int") => `(tactic| (k_here; k_dflt (refine' item_of (ws := bodies) ?il (by assumption) bodies_ok (idx_mod _).1 (idx_mod _).2 (Int.lt_trans (idx_mod _).2 (by decide)) ?_; (case il => is_list); intro y8 t8 hy8; have hl8 := hy8.len)))
local macro_rules | `(tactic| walk_at "mine pB") => `(tactic| (rename GivesBodies _ _ _ => hp9; obtain ⟨a9, us9, e9, e9', hs9, lt9⟩ := hp9; subst e9; subst e9'; (try k_lt lt9)))
local macro_rules | `(tactic| walk_at "mine pSI") => `(tactic| (rename GivesSI _ _ _ _ _ _ => hp9; obtain ⟨a9, j9, t9, y9, u9, e9, e9', hj9, hy9, hl9, lt9⟩ := hp9; subst e9; subst e9'; (try k_lt lt9); have hw9 := firstW_in (start_in _).1 (start_in _).2 hj9))
local macro_rules | `(tactic| walk_at "mine pSI2") => `(tactic| (rename GivesSI _ _ _ _ _ _ => hp9; rename _ = txt (firstL _ _) => hyA; rename _ = firstW _ _ => hjA; obtain ⟨a9, j9, t9, y9, u9, e9, e9', hj9, hy9, hl9, lt9⟩ := hp9; subst e9; subst e9'; (try k_lt lt9); have ey := Eq.trans hy9 (Eq.symm hyA); have ej := Eq.trans hj9 (Eq.symm hjA); clear hj9 hy9; subst ey; subst ej))
local macro_rules | `(tactic| walk_at "mine pL") => `(tactic| (rename Exists _ => hp9; obtain ⟨c7, us7, B7, e9, hb7, hc7, hR7, hB7⟩ := hp9; subst e9; obtain ⟨a7, d7, S7, R7, eu7, hP7⟩ := after_of (by k_asm) hb7 hc7 hR7 hB7 (by assumption) (by assumption); subst eu7; have hc8 := hP7.mem))
local macro_rules | `(tactic| walk_at "mine pC") => `(tactic| (rename _ ∧ Chg _ _ _ _ => hp9; obtain ⟨e9, hC9⟩ := hp9; subst e9))
local macro_rules | `(tactic| walk_at "compareOp NotEq ref ref") => `(tactic| (k_here; k_dflt (refine' ne_pair ?nN ?na ?nb (row5 (by assumption) (by assumption) (by assumption)) (by assumption) ?nu ?_; (case nN => k_asm); (case na => k_mem); (case nb => k_mem); (case nu => ke_room))))
local macro_rules | `(tactic| walk_at "exec Assign cons ListComp") => `(tactic| (k_here; k_dflt (refine LCg.Assign_ListComp_U (F₀ := by k_asm) (by rfl) (by with_unfolding_all rfl) (by rfl) (by decide) (by rfl) (by decide) (by rfl) (by rfl) (by rfl) ?_)))
local macro_rules | `(tactic| walk_at "eval BoolOp") => `(tactic| (k_here; goal_lacks LstPost; k_dflt (first
  | (((with_reducible show wpAny _ _ (eval (Expr.BoolOp _ (Expr.Subscript _ (Expr.Slice none _ _ _) _ :: _) _) _) _ _ _); refine' cut_list 4 ?bF ?bN ?_ ?b2; (case bF => k_asm); (case bN => k_asm); (case' b2 => intro D8 ws8 ns8 n8 h8 tk8 hI8 hne8 hle8 F8 N8)))
  | (((with_reducible show wpAny _ _ (eval (Expr.BoolOp _ (Expr.Subscript _ (Expr.Slice (some _) _ _ _) _ :: _) _) _) _ _ _); refine' cut_list 9 ?cF ?cN ?_ ?c2; (case cF => k_asm); (case cN => k_asm); (case' c2 => intro D8 ws8 ns8 n8 h8 tk8 hI8 hne8 hle8 F8 N8))))))
local macro_rules | `(tactic| walk_at "LstPost") => `(tactic| first
  | exact LstPost.one (by assumption) (by assumption) (by omega) (by k_asm) (by k_asm)
  | exact LstPost.lit2 (by k_asm) (by k_asm)
  | exact LstPost.lit3 (by k_asm) (by k_asm))
local macro_rules | `(tactic| walk_at "CompSrc") => `(tactic| (k_here; k_dflt (first
  | ((with_reducible show LCg.CompSrc _ _ _ _ _ _ _ (Expr.BinOp (Expr.Call (Expr.Name _ _) [Expr.BinOp _ _ _ _] _ _) _ _ _) _ _ _ _ _ _); refine' LCg.CompSrc.ledger (by rfl) ?sF ?sN ?sm ?sz ?_; (case sF => k_asm); (case sN => k_asm); (case sm => k_mem); (case sz => exact size_ok (IntsAre.length (by assumption)) (by assumption)); intro g'; refine' comp_rows (by assumption) ?cS ?ct ?cf; (case cS => exact Or.inr ⟨_, by k_mem, rfl, _, rfl⟩); (case' ct => intro i9 ys9 k9 t9 C9 oC9 m9 h9 tk9 own9 E9 hJ9 hC9 hx9 F9 N9); (case' cf => intro ys9 rs9 hs9 hl9 hr9; have hA9 := RowsAll.mk' hr9 hl9 (by assumption)))
  | ((with_reducible show LCg.CompSrc _ _ _ _ _ _ _ (Expr.BinOp (Expr.Name _ _) _ _ _) _ _ _ _ _ _); refine' LCg.CompSrc.ledger (by rfl) ?uF ?uN ?um ?uz ?_; (case uF => k_asm); (case uN => k_asm); (case um => k_mem); (case uz => exact RowsAll.size (by assumption) (by assumption)); intro g'; refine' comp_map rowF (by assumption) ?dS ?dt ?df; (case dS => exact Or.inr ⟨_, by k_mem, rfl, _, rfl⟩); (case' dt => intro i9 ys9 r9 t9 C9 oC9 m9 h9 tk9 own9 E9 hJ9 hq9 hC9 hx9 F9 N9; have hq8 := RowsAll.len (by assumption) hq9); (case' df => intro ys9 hs9))
  | ((with_reducible show LCg.CompSrc _ _ _ _ _ _ _ (Expr.BinOp (Expr.Call (Expr.Name _ _) [Expr.Name _ _, Expr.Name _ _] _ _) _ _ _) _ _ _ _ _ _); refine' LCg.CompSrc.ledger (by rfl) ?vF ?vN ?vm ?vz ?_; (case vF => k_asm); (case vN => k_asm); (case vm => k_mem); (case vz => exact RowsAll.size (by assumption) (by assumption)); intro g'; refine' comp_due (by assumption) (by assumption) ?eS ?et ?ef; (case eS => exact Or.inr ⟨_, by k_mem, rfl, _, rfl⟩); (case' et => intro i9 ys9 r9 t9 C9 oC9 m9 h9 tk9 own9 E9 hJ9 hq9 hC9 hx9 F9 N9; have hq8 := RowsAll.len (by assumption) hq9); (case' ef => intro ys9 hs9)))))
local macro_rules | `(tactic| walk_at "RowsJ") => `(tactic| exact RowsJ.step (by assumption) (by assumption) (by assumption))
local macro_rules | `(tactic| walk_at "MapJ") => `(tactic| first | ((with_reducible show MapJ rowF _ _ _); exact MapJ.step (by assumption) (by assumption) rfl) | exact MapJ.step (by assumption) (by assumption) (dueF_eq (by assumption)))
local macro_rules | `(tactic| walk_at "CEnd") => `(tactic| exact cend_drop (by k_asm) (by k_asm))
local macro_rules | `(tactic| walk_at "compareOp NotEq str str") => `(tactic| (k_here; k_dflt (refine ne_same (law_fin (by assumption) (row5 (by assumption) (by assumption) (by assumption)) (by assumption) (by assumption) (by assumption) (by assumption)) ?_)))
local macro_rules | `(tactic| walk_at "compareOp Eq str str") => `(tactic| (k_here; k_dflt (refine eq_same (Eq.trans (by assumption) (Eq.symm (by assumption))) ?_)))
local macro_rules | `(tactic| walk_at "subscriptTail Name Constant ref int") => `(tactic| (k_here; k_dflt (refine item_head (by k_asm) (by with_reducible assumption) ?_)))
theorem law_holds : PySem.Challenge.rw_ci0011_01.Holds := hd (by
  k_go0
  (all_goals try k_fold)
  k_with_none
  k_with "mine claim" => first
    | exact law_lead _ _ _ _
    | exact law_bodies _ _
    | exact law_first _ _ _ _ _ _ (by omega) (Int.le_trans (by decide) (start_in _).1) (Int.le_trans (start_in _).2 (by decide))
    | exact compile_width _ _ _ _ _ _ _ rfl (RowOk.re (row5 (by assumption) (by assumption) (by assumption)) _) (by omega) (start_in _).1 (start_in _).2
    | exact law_less _ _ _ _ _ _ (by omega) (by omega) (by omega)
    | exact law_ended _ _ _ _ (by omega)
    | exact build_source _ _ _ _ _ _ _ _ (by omega) (by omega) (by omega) (by omega)
    | exact law_lists _ _ _ _ _ _ (by assumption) (by assumption)
    | exact After.tight (by assumption)
    | exact After.shown (by assumption) (by assumption)
    | exact After.due (by assumption) (by assumption) (by assumption)
  k_with "mine post" => first
    | walk_at "mine pB"
    | walk_at "mine pSI2"
    | walk_at "mine pSI"
    | walk_at "mine pC"
    | walk_at "mine pL"
  k_with "mine comp" => (k_dflt (refine LCg.ListComp_U (F₀ := by k_asm) (by with_unfolding_all rfl) (by decide) (by rfl) (by decide) (by rfl) ?_))
  k_with "mine join" => first | exact RowsAll.w1 (by assumption) | exact RowsAll.w2 (by assumption) (by assumption)
  k_with "mine joined" => (rename RowsAll _ => hA8; rename 1 ≤ _ ∧ _ ≤ 13 => hw8; have hj1 := hA8.j1; have hj2 := hA8.j2 hw8)
  k_steps)
end Mine
end

theorem PySem.Challenge.cw_ci0011_01_holds : PySem.Challenge.rw_ci0011_01.Holds :=
  Mine.law_holds
