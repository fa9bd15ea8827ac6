import PyProof.Rows.All
import Wide.All
import OpenK.AllK
import Wide.FinOn
import KE.KLcTest
import KE.KSlice
import PySem.Challenge.RW_zn0009_01
open PySem PySem.W PySem.Calls PyProof.Rows PyProof.V
set_option Elab.async false
set_option linter.unusedVariables false
set_option maxRecDepth 100000
namespace Mine
local macro_rules | `(tactic| walk_at $s:str) => `(tactic| k_extra $s)
-- part PT
section
open Builtin Builtin.Str

/-- a text of these signs -/
def tx (l : List Nat) : Str := ⟨l.toArray⟩
theorem tx_list (x : Str) : tx x.cps.toList = x := rfl
theorem tx_cps (l : List Nat) : (tx l).cps.toList = l := rfl
theorem tx_length (l : List Nat) : (tx l).length = l.length := by simp [tx, Str.length]
theorem tx_append (a b : List Nat) : tx a ++ tx b = tx (a ++ b) := by
  show (⟨a.toArray ++ b.toArray⟩ : Str) = ⟨(a ++ b).toArray⟩
  simp
theorem tx_inj {a b : List Nat} (h : tx a = tx b) : a = b := by
  have := congrArg (fun s : Str => s.cps.toList) h
  simpa [tx] using this

/-- one sign replaced -/
def rep (c : Nat) (z : List Nat) (l : List Nat) : List Nat := l.flatMap fun d => if d = c then z else [d]

theorem rep_append (c : Nat) (z a b : List Nat) : rep c z (a ++ b) = rep c z a ++ rep c z b := by simp [rep]
theorem rep_free (c : Nat) (z : List Nat) : ∀ l : List Nat, c ∉ l → rep c z l = l
  | [], _ => rfl
  | d :: r, h => by
    have h1 : ¬ d = c := fun e => h (e ▸ List.mem_cons_self ..)
    have h2 : c ∉ r := fun m => h (List.mem_cons_of_mem _ m)
    have ih := rep_free c z r h2
    unfold rep at ih ⊢
    simp [h1, ih]
theorem rep_join (c : Nat) (z : Str) : ∀ parts : List Str, (∀ p ∈ parts, c ∉ p.cps.toList) → rep c z.cps.toList (Str.join ⟨#[c]⟩ parts).cps.toList = (Str.join z parts).cps.toList
  | [], _ => rfl
  | [p], h => rep_free c _ _ (h p (List.mem_singleton.mpr rfl))
  | p :: q :: r, h => by
    have ih := rep_join c z (q :: r) fun a ha => h a (List.mem_cons_of_mem _ ha)
    show rep c _ (p ++ ⟨#[c]⟩ ++ Str.join ⟨#[c]⟩ (q :: r)).cps.toList = (p ++ z ++ Str.join z (q :: r)).cps.toList
    simp only [Str.cps_append, Array.toList_append]
    rw [rep_append, rep_append, ih, rep_free c _ _ (h p (List.mem_cons_self ..))]
    simp [rep]
theorem replace_rep (x z : Str) (c : Nat) : Txt.replace x ⟨#[c]⟩ z = tx (rep c z.cps.toList x.cps.toList) := by
  have h := rep_join c z _ (StrLaws.split_free x c)
  rw [StrLaws.join_split] at h
  rw [StrLaws.replace_one, h]
  exact (tx_list _).symm
theorem rep_length (c : Nat) (z : List Nat) (k : Nat) (hz : z.length ≤ k) (hk : 1 ≤ k) : ∀ l : List Nat, (rep c z l).length ≤ k * l.length
  | [] => by simp [rep]
  | d :: r => by
    have ih := rep_length c z k hz hk r
    have e : rep c z (d :: r) = (if d = c then z else [d]) ++ rep c z r := by simp [rep]
    rw [e, List.length_append, List.length_cons, Nat.mul_add, Nat.mul_one]
    have : (if d = c then z else [d]).length ≤ k := by
      split
      · exact hz
      · simpa using hk
    omega

/-- bare ends taken off -/
def rsL (l : List Nat) : List Nat := (l.reverse.dropWhile Unicode.isSpace).reverse
theorem rstrip_rsL (x : Str) : Txt.rstrip x = tx (rsL x.cps.toList) := by
  unfold Txt.rstrip
  rw [PyProof.Rows.stripBy_eq]
  unfold strSub stripHi stripLo rsL tx
  simp only [Bool.false_eq_true, if_false, if_true, List.drop_zero]
  congr 1
  apply Array.ext'
  have hl : ∀ l : List Nat, l.take (l.length - (l.reverse.takeWhile Unicode.isSpace).length) = (l.reverse.dropWhile Unicode.isSpace).reverse := by
    intro l
    have h := List.takeWhile_append_dropWhile (p := Unicode.isSpace) (l := l.reverse)
    have h2 : l = (l.reverse.dropWhile Unicode.isSpace).reverse ++ (l.reverse.takeWhile Unicode.isSpace).reverse := by
      rw [← List.reverse_append, h, List.reverse_reverse]
    have h3 : l.length = (l.reverse.dropWhile Unicode.isSpace).reverse.length + (l.reverse.takeWhile Unicode.isSpace).length := by
      have := congrArg List.length h2
      simpa using this
    have h4 : l.length - (l.reverse.takeWhile Unicode.isSpace).length = (l.reverse.dropWhile Unicode.isSpace).reverse.length := by omega
    rw [h4]
    conv => lhs; rw [h2]
    simp
  have := hl x.cps.toList
  simpa [Str.length] using this
theorem rsL_snoc (l : List Nat) (c : Nat) : rsL (l ++ [c]) = if Unicode.isSpace c = true then rsL l else l ++ [c] := by
  unfold rsL
  rw [List.reverse_append]
  simp only [List.reverse_cons, List.reverse_nil, List.nil_append, List.singleton_append, List.dropWhile_cons]
  split <;> simp
theorem rsL_length (l : List Nat) : (rsL l).length ≤ l.length := by
  unfold rsL
  rw [List.length_reverse]
  have := (List.dropWhile_sublist (l := l.reverse) Unicode.isSpace).length_le
  simpa using this
theorem rsL_mem {l : List Nat} {c : Nat} (h : c ∈ rsL l) : c ∈ l := by
  unfold rsL at h
  rw [List.mem_reverse] at h
  have := (List.dropWhile_sublist (l := l.reverse) Unicode.isSpace).mem h
  simpa using this

-- the names: &amp; &lt; &gt; &quot; &#x9; &#xD; &#xA;
abbrev nAmp : List Nat := [38, 97, 109, 112, 59]
abbrev nLt : List Nat := [38, 108, 116, 59]
abbrev nGt : List Nat := [38, 103, 116, 59]
abbrev nQuot : List Nat := [38, 113, 117, 111, 116, 59]
abbrev nTab : List Nat := [38, 35, 120, 57, 59]
abbrev nRet : List Nat := [38, 35, 120, 68, 59]
abbrev nNew : List Nat := [38, 35, 120, 65, 59]

def esc0 (l : List Nat) : List Nat := rep 13 nRet (rep 62 nGt (rep 60 nLt (rep 38 nAmp l)))
def esc1 (l : List Nat) : List Nat := rep 13 nRet (rep 10 nNew (rep 9 nTab (rep 34 nQuot (rep 60 nLt (rep 38 nAmp l)))))
def esc2 (l : List Nat) : List Nat := rep 34 nQuot (rep 62 nGt (rep 38 nAmp l))
def writtenL (w : Int) (l : List Nat) : List Nat := if w = 0 then esc0 l else if w = 1 then esc1 l else esc2 l

def nameOf (c : Nat) : List Nat := if c = 38 then nAmp else if c = 60 then nLt else if c = 62 then nGt else if c = 34 then nQuot else if c = 9 then nTab else if c = 13 then nRet else [c]
def meantL (w : Int) : List Nat := if w = 0 then [38, 60, 62, 13] else if w = 1 then [38, 60, 34, 9, 13] else [38, 62, 34]
def sgn (w : Int) (c : Nat) : List Nat := if c ∈ meantL w then nameOf c else [c]
def toldL (w : Int) (l : List Nat) : List Nat := l.flatMap (sgn w)

theorem toldL_append (w : Int) (a b : List Nat) : toldL w (a ++ b) = toldL w a ++ toldL w b := by simp [toldL]
theorem sgn_length (w : Int) (c : Nat) : (sgn w c).length ≤ 6 := by
  unfold sgn nameOf
  repeat' split
  all_goals simp
theorem toldL_length (w : Int) : ∀ l : List Nat, (toldL w l).length ≤ 6 * l.length
  | [] => by simp [toldL]
  | d :: r => by
    have ih := toldL_length w r
    have h := sgn_length w d
    have e : toldL w (d :: r) = sgn w d ++ toldL w r := by simp [toldL]
    rw [e, List.length_append, List.length_cons]
    omega

theorem rep_flat (c : Nat) (z : List Nat) (f : Nat → List Nat) (l : List Nat) : rep c z (l.flatMap f) = l.flatMap fun d => rep c z (f d) := by
  unfold rep; rw [List.flatMap_assoc]
theorem flat_id (l : List Nat) : l = l.flatMap fun d => [d] := by simp

theorem esc0_told (l : List Nat) : esc0 l = toldL 0 l := by
  unfold esc0 toldL
  conv => lhs; rw [flat_id l]
  simp only [rep_flat]
  congr 1
  funext d
  unfold sgn meantL nameOf
  by_cases h1 : d = 38
  · subst h1; decide
  by_cases h2 : d = 60
  · subst h2; decide
  by_cases h3 : d = 62
  · subst h3; decide
  by_cases h4 : d = 13
  · subst h4; decide
  simp [rep, h1, h2, h3, h4]
theorem esc1_told (l : List Nat) (h : 10 ∉ l) : esc1 l = toldL 1 l := by
  unfold esc1 toldL
  conv => lhs; rw [flat_id l]
  simp only [rep_flat]
  have e : ∀ d ∈ l, rep 13 nRet (rep 10 nNew (rep 9 nTab (rep 34 nQuot (rep 60 nLt (rep 38 nAmp [d]))))) = sgn 1 d := by
    intro d hd
    have h0 : d ≠ 10 := fun e => h (e ▸ hd)
    unfold sgn meantL nameOf
    by_cases h1 : d = 38
    · subst h1; decide
    by_cases h2 : d = 60
    · subst h2; decide
    by_cases h3 : d = 34
    · subst h3; decide
    by_cases h4 : d = 9
    · subst h4; decide
    by_cases h5 : d = 13
    · subst h5; decide
    simp [rep, h0, h1, h2, h3, h4, h5]
  clear h
  induction l with
  | nil => rfl
  | cons a r ih =>
    rw [List.flatMap_cons, List.flatMap_cons, e a (List.mem_cons_self ..), ih fun d hd => e d (List.mem_cons_of_mem _ hd)]
theorem esc2_told (l : List Nat) : esc2 l = toldL 2 l := by
  unfold esc2 toldL
  conv => lhs; rw [flat_id l]
  simp only [rep_flat]
  congr 1
  funext d
  unfold sgn meantL nameOf
  by_cases h1 : d = 38
  · subst h1; decide
  by_cases h2 : d = 62
  · subst h2; decide
  by_cases h3 : d = 34
  · subst h3; decide
  simp [rep, h1, h2, h3]
theorem written_told {w : Int} (h0 : 0 ≤ w) (h1 : w < 3) (l : List Nat) (h : 10 ∉ l) : writtenL w l = toldL w l := by
  have : w = 0 ∨ w = 1 ∨ w = 2 := by omega
  rcases this with rfl | rfl | rfl
  · exact esc0_told l
  · exact esc1_told l h
  · exact esc2_told l

/-- the comment of a line -/
def commentL (l : List Nat) : List Nat := if rsL l = [] then [35] else 35 :: 32 :: rsL l

/-- bare: one blank, tab or return -/
def bareT (t : List Nat) : Bool := t == [32] || t == [9] || t == [13]
def keptL (ts : List (List Nat)) : List (List Nat) := (ts.reverse.dropWhile bareT).reverse
theorem keptL_snoc (ts : List (List Nat)) (t : List Nat) : keptL (ts ++ [t]) = if bareT t = true then keptL ts else ts ++ [t] := by
  unfold keptL
  rw [List.reverse_append]
  simp only [List.reverse_cons, List.reverse_nil, List.nil_append, List.singleton_append, List.dropWhile_cons]
  split <;> simp

abbrev menu9 : List Nat := [38, 60, 59, 97, 32, 34, 9, 62, 13]
def endB (t : List Nat) : Bool := if bareT t = true then (match t with | [d] => Unicode.isSpace d | _ => false) else (match t.reverse with | d :: _ => !Unicode.isSpace d | [] => false)
theorem endB_all : ∀ c ∈ menu9, endB (sgn 0 c) = true ∧ endB (sgn 1 c) = true ∧ endB (sgn 2 c) = true := by decide +kernel
theorem sgn_which (w : Int) (c : Nat) : sgn w c = sgn 0 c ∨ sgn w c = sgn 1 c ∨ sgn w c = sgn 2 c := by
  by_cases h0 : w = 0
  · exact .inl (by rw [h0])
  · by_cases h1 : w = 1
    · exact .inr (.inl (by rw [h1]))
    · refine .inr (.inr ?_)
      unfold sgn meantL
      rw [if_neg h0, if_neg h1]
      rfl
/-- of each piece: bare, or it ends in a sign that is no blank -/
theorem sgn_end {w : Int} {c : Nat} (hc : c ∈ menu9) : (bareT (sgn w c) = true ∧ ∃ d, sgn w c = [d] ∧ Unicode.isSpace d = true) ∨ (bareT (sgn w c) = false ∧ ∃ l d, sgn w c = l ++ [d] ∧ Unicode.isSpace d = false) := by
  have h : endB (sgn w c) = true := by
    rcases sgn_which w c with e | e | e <;> rw [e]
    · exact (endB_all c hc).1
    · exact (endB_all c hc).2.1
    · exact (endB_all c hc).2.2
  generalize sgn w c = t at h
  unfold endB at h
  cases hb : bareT t with
  | true =>
    rw [hb, if_pos rfl] at h
    match t, h with
    | [d], h => exact .inl ⟨rfl, d, rfl, h⟩
  | false =>
    rw [hb, if_neg Bool.false_ne_true] at h
    cases hr : t.reverse with
    | nil => rw [hr] at h; exact Bool.noConfusion h
    | cons d r =>
      rw [hr] at h
      exact .inr ⟨rfl, r.reverse, d, by rw [← List.reverse_cons, ← hr, List.reverse_reverse], by simpa using h⟩

theorem kept_rsL (w : Int) : ∀ cs : List Nat, (∀ c ∈ cs, c ∈ menu9) → rsL ((cs.reverse.map (sgn w)).flatten) = (keptL (cs.reverse.map (sgn w))).flatten ∧ (keptL (cs.reverse.map (sgn w)) = [] ↔ rsL ((cs.reverse.map (sgn w)).flatten) = [])
  | [], _ => by simp [rsL, keptL]
  | c :: r, h => by
    have ih := kept_rsL w r fun d hd => h d (List.mem_cons_of_mem _ hd)
    simp only [List.reverse_cons, List.map_append, List.map_cons, List.map_nil, List.flatten_append, List.flatten_cons, List.flatten_nil, List.append_nil]
    rcases sgn_end (w := w) (h c (List.mem_cons_self ..)) with ⟨hb, d, e, hs⟩ | ⟨hb, l, d, e, hs⟩
    · rw [keptL_snoc, if_pos hb, e, rsL_snoc, if_pos hs]
      exact ih
    · rw [keptL_snoc, if_neg (by simp [hb])]
      have e2 : rsL ((r.reverse.map (sgn w)).flatten ++ sgn w c) = (r.reverse.map (sgn w)).flatten ++ sgn w c := by
        rw [e, ← List.append_assoc, rsL_snoc, if_neg (by simp [hs])]
      rw [e2]
      refine ⟨by simp, ?_⟩
      constructor
      · intro h'; simp at h'
      · intro h'; rw [e] at h'; simp at h'

theorem no10 : ∀ c ∈ menu9, 10 ∉ sgn 0 c ∧ 10 ∉ sgn 1 c ∧ 10 ∉ sgn 2 c := by decide
/-- what is due is what is written -/
theorem line_due {f s : Int} (hs0 : 0 ≤ s) (hs1 : s < 3) (hf0 : 0 ≤ f) (hf1 : f < 3) (cs : List Nat) (hc : ∀ c ∈ cs, c ∈ menu9) :
    writtenL s (commentL (writtenL f cs)) = toldL s ((if keptL (cs.map (sgn f)) = [] then [35] else [35, 32]) ++ (keptL (cs.map (sgn f))).flatten) := by
  have h10 : 10 ∉ cs := fun h => by have := hc 10 h; simp at this
  rw [written_told hf0 hf1 cs h10]
  have hk := kept_rsL f cs.reverse fun c h => hc c (List.mem_reverse.mp h)
  rw [List.reverse_reverse] at hk
  have hfl : toldL f cs = (cs.map (sgn f)).flatten := by simp [toldL, List.flatMap]
  have hcm : commentL (toldL f cs) = (if keptL (cs.map (sgn f)) = [] then [35] else [35, 32]) ++ (keptL (cs.map (sgn f))).flatten := by
    unfold commentL
    rw [hfl]
    by_cases he : keptL (cs.map (sgn f)) = []
    · rw [if_pos (hk.2.mp he), if_pos he, he]; rfl
    · rw [if_neg (fun h => he (hk.2.mpr h)), if_neg he, hk.1]; rfl
  rw [hcm]
  refine written_told hs0 hs1 _ ?_
  rw [← hcm]
  intro hm
  unfold commentL at hm
  have inner : 10 ∉ rsL (toldL f cs) := fun h => by
    have h2 := rsL_mem h
    unfold toldL at h2
    obtain ⟨c, hc1, hc2⟩ := List.mem_flatMap.mp h2
    have h3 := no10 c (hc c hc1)
    rcases sgn_which f c with e | e | e <;> rw [e] at hc2
    · exact h3.1 hc2
    · exact h3.2.1 hc2
    · exact h3.2.2 hc2
  split at hm
  · simp at hm
  · simp at hm; exact inner hm

end
-- part D
section
theorem snoc_at {α : Type} : ∀ {l : List α} {a b : α} {k : Nat}, (l ++ [a])[k]? = some b → (k < l.length ∧ l[k]? = some b) ∨ (k = l.length ∧ a = b)
  | [], a, b, 0, h => .inr ⟨rfl, Option.some.inj h⟩
  | [], _, _, _ + 1, h => nomatch h
  | _ :: _, _, _, 0, h => .inl ⟨Nat.succ_pos _, h⟩
  | _ :: l, _, _, _ + 1, h => (snoc_at (l := l) h).imp (fun x => ⟨Nat.succ_lt_succ x.1, x.2⟩) fun x => ⟨congrArg _ x.1, x.2⟩
theorem idx1 {z : Int} {i : Nat} (h : z = 0 + (i : Int) * 1) : z = i := by omega
theorem idx2 {z y : Int} {i k : Nat} (h : z = 0 + (i : Int) * 1) (h2 : y = z + (k : Int) * 1) : y = ((i + k : Nat) : Int) := by omega
theorem idx_lt {n i k : Nat} (h : k < n - i) : i + k < n := by omega
theorem idx10 {z y : Int} {i k : Nat} (h : z = 0 + (i : Int) * 1) (h2 : y = z + (k : Int) * 1) : 10 * z + y = 10 * (i : Int) + ((i + k : Nat) : Int) := by rw [idx2 h h2, idx1 h]
theorem not_out {y : Int} {j n : Nat} (h : y = j) (hj : j < n) (ho : y < -(n : Int) ∨ (n : Int) ≤ y) : False := by omega
theorem lt_step {i n : Nat} (h : i < n) : n + 1 - (i + 1) < n + 1 - i := by omega
theorem sub_pred {i n : Nat} (h : i < n) : n - i = n - i - 1 + 1 := by omega
theorem sub_next {i j n : Nat} (h : n - i = j + 1) : n - (i + 1) = j := by omega
theorem at_ne {n d : Nat} (k : Nat) (hd : d = n + k) {b : Nat} (hb : b < n) : b ≠ d := fun e => absurd (Nat.le_add_right n k) (Nat.not_le.mpr (hd ▸ e ▸ hb))
theorem two_ne {n a b : Nat} (i j : Nat) (ha : a = n + i) (hb : b = n + j) (h : i ≠ j) : a ≠ b := fun e => h (Nat.add_left_cancel (ha.symm.trans (e.trans hb)))
theorem at_le {n d : Nat} (k : Nat) (hd : d = n + k) : n ≤ d := hd ▸ Nat.le_add_right n k
open PySem.Sem (wp)

/-- a decoder of C's: the stack's entries that would hold a bytearray still -/
def dec : Code → Bool
  | .builtin id _ => Builtin.Bytes.decodersThatHold.contains id
  | _ => false
def NoDec (l : List (Code × Pos)) : Prop := ∀ x ∈ l, dec x.1 = false

/-- as wpAny, where no decoder is on the stack -/
def wpG {α : Type} (M : Model) (A : Around) (t : Sem α) (Q : α → Shared → Prop) (E : Value → Shared → Prop) (s : Shared) : Prop :=
  ∀ Γ p, Γ.In A → dec Γ.code = false → NoDec Γ.below → wp M Γ t (fun a _ s' => Q a s') (fun e _ s' => E e s') p s
def codeG (M : Model) (A : Around) (c : Code) (R : Result → Shared → Prop) (s : Shared) : Prop :=
  ∀ Γ p, Γ.code = c → Γ.Below A → NoDec Γ.below → wpCode M Γ R p s

section
variable {α β : Type} {M : Model} {A : Around} {E : Value → Shared → Prop} {s : Shared}
theorem wpG_of {t : Sem α} {Q : α → Shared → Prop} (h : wpAny M A t Q E s) : wpG M A t Q E s := fun Γ p hΓ _ _ => h Γ p hΓ
theorem codeG_of {c : Code} {R : Result → Shared → Prop} (h : codeAny M A c R s) : codeG M A c R s := fun Γ p hc hΓ _ => h Γ p hc hΓ
theorem wpG_mono {t : Sem α} {Q Q' : α → Shared → Prop} {E' : Value → Shared → Prop} (h : wpG M A t Q E s) (hQ : ∀ a s, Q a s → Q' a s) (hE : ∀ e s, E e s → E' e s) : wpG M A t Q' E' s :=
  fun Γ p hΓ hc hb => Sem.wp_mono M Γ t (fun a _ s' => hQ a s') (fun e _ s' => hE e s') p s (h Γ p hΓ hc hb)
theorem codeG_mono {c : Code} {R R' : Result → Shared → Prop} (h : codeG M A c R s) (hR : ∀ r s, R r s → R' r s) : codeG M A c R' s :=
  fun Γ p hc hΓ hb => wpCode_mono hR (h Γ p hc hΓ hb)
theorem wpG_bind {m : Sem α} {f : α → Sem β} {Q : β → Shared → Prop} (h : wpG M A m (fun a s' => wpG M A (f a) Q E s') E s) : wpG M A (m >>= f) Q E s := fun Γ p hΓ hc hb => by
  rw [Sem.wp_bind']
  exact Sem.wp_mono M Γ m (fun a p' s' h' => h' Γ p' hΓ hc hb) (fun _ _ _ h' => h') p s (h Γ p hΓ hc hb)
theorem wpG_pure {a : α} {Q : α → Shared → Prop} (h : Q a s) : wpG M A (pure a) Q E s := fun _ _ _ _ _ => h
theorem wpG_holding {vs : List Value} {t : Sem α} {Q : α → Shared → Prop} (h : wpG M A t Q E s) : wpG M A (holding vs t) Q E s := fun Γ p hΓ hc hb => by
  rw [Sem.wp_holding]; exact h Γ p hΓ hc hb
theorem wpG_keep {vs : List Value} {t : Sem α} {Q : α → Shared → Prop} (h : wpG M A t Q E s) : wpG M A (t.keep vs) Q E s := fun Γ p hΓ hc hb => by
  rw [Sem.wp_keep]; exact h Γ p hΓ hc hb
theorem wpG_standAt {pos : Pos} {Q : Unit → Shared → Prop} (h : Q () s) : wpG M A (standAt pos) Q E s := wpG_of (wpAny_standAt h)
theorem wpG_onRaise {t : Sem α} {g : Value → Sem Unit} {Q : α → Shared → Prop} (h : wpG M A t Q (fun e s' => wpG M A (g e) (fun _ s'' => E e s'') E s') s) : wpG M A (t.onRaise g) Q E s := fun Γ p hΓ hc hb => by
  rw [Sem.wp_onRaise]
  exact Sem.wp_mono M Γ t (fun _ _ _ h' => h') (fun e p' s' h' => h' Γ p' hΓ hc hb) p s (h Γ p hΓ hc hb)
theorem wpG_attempt {t : Sem α} {Q : Except Value α → Shared → Prop} (h : wpG M A t (fun a => Q (.ok a)) (fun e => Q (.error e)) s) : wpG M A t.attempt Q E s := fun Γ p hΓ hc hb => by
  rw [Sem.wp_attempt]; exact h Γ p hΓ hc hb

theorem wpG_runValue {c : Code} {Q : Value → Shared → Prop} (h : codeG M A c (fun r s' => match r with | .ok (.ret v) => Q v s' | .ok _ => False | .error e => E e s') s) : wpG M A (runValue c) Q E s := fun Γ p hΓ hc hb => by
  rw [Sem.wp_runValue]
  refine h _ p rfl (hΓ.enter c none p (by intro x; cases x)) fun x hx => ?_
  rcases List.mem_cons.mp hx with rfl | hx
  · exact hc
  · exact hb x hx
theorem wpG_call {f : Value} {pos : List Value} {kw : List (Str × Value)} {Q : Value → Shared → Prop} (h : codeG M A (.call f ⟨pos, kw⟩) (fun r s' => match r with | .ok (.ret v) => Q v s' | .ok _ => False | .error e => E e s') s) : wpG M A (call f pos kw) Q E s := wpG_runValue h
theorem codeG_of_tree {c : Code} {R : Result → Shared → Prop} (hd : dec c = false)
    (h : wpG M (A.under c) (M.den c) (fun fin s' => match fin with | .done f => R (.ok f) s' | .again c' => c'.quiet = true ∧ codeG M A c' R s') (fun e s' => R (.error e) s') s) : codeG M A c R s := fun Γ p hc hΓ hb => by
  rw [wpCode_iff_wp, hc]
  refine Sem.wp_mono M Γ _ (fun fin p' s' h' => ?_) (fun _ _ _ h' => h') p s (h Γ p (hc ▸ hΓ.in) (hc ▸ hd) hb)
  cases fin with
  | done f => exact h'
  | again c' => exact ⟨h'.1, h'.2 (Γ.goto c') p' rfl (hΓ.goto c') hb⟩
end

section
variable {prog : Program} {w : World} {A : Around} {R : Result → Shared → Prop} {s : Shared}
theorem codeG_func {body : List Stmt} {env : Env}
    (h : wpG (model prog w) (A.deeper env) (execs body env) (fun f s' => R (.ok (.ret (match f with | .ret v => v | _ => .none))) s')
      (fun e s' => wpAny (model prog w) (A.deeper env) (leaving env e) (fun _ s'' => R (.error e) s'') (fun e' s'' => R (.error e') s'') s') s) :
    codeG (model prog w) A (.func body env) R s := by
  refine codeG_of_tree rfl ?_
  show wpG _ (A.deeper env) (do point; match ← (execs body env).onRaise (leaving env) with | .ret v => ret v | _ => ret .none) _ _ s
  refine wpG_bind (wpG_of (wpAny_point (wpG_bind (wpG_onRaise (wpG_mono h (fun f s' h' => ?_) fun _ _ h' => wpG_of h')))))
  cases f <;> exact wpG_pure h'
theorem codeG_call_function {a : Addr} {args : Args} {o : Obj} {fd : FuncData} {body : List Stmt} (hroom : A.depth < recursionLimit)
    (ho : s.heap.get? a = some o)
    (hd' : o.data = .func fd) (hco : fd.scope.isCoroutine = false) (hgen : fd.scope.isGenerator = false) (hbody : fd.body = .stmts body) (hcd : s.heap.CodeRec fd.code fd.qualname)
    (h : wpAny (model prog w) A.in1 (bindArgs fd args) (fun binds s₁ =>
      wpAny (model prog w) A.in1 (newFunctionEnv fd.scope fd.globals fd.closure binds (fd.qualname ++ ".<locals>.") (some a) fd.code none fd.builtins)
        (fun env s₂ => s₂.heap.NoLimit ∧ codeG (model prog w) A (.func body env) R s₂) (fun e s' => R (.error e) s') s₁) (fun e s' => R (.error e) s') s) :
    codeG (model prog w) A (.call (.ref a) args) R s := by
  refine codeG_of_tree rfl (wpG_of ?_)
  show wpAny _ A.in1 (callAny (.ref a) args) _ _ s
  simp only [callAny]
  refine wpAny_bind (wpAny_load ho ?_)
  obtain ⟨c, oc, vs, tq, hc, hoc, hdc, hq⟩ := hcd
  simp only [hd', callFunction, hco, hgen, hbody, hc]
  rw [hc] at h
  refine wpAny_bind (m := field (.ref c) 1) (wpAny_field hoc hdc hq (wpAny_bind (wpAny_pure ?_)))
  exact wpAny_bind (wpAny_mono h (fun binds s₁ h₁ => wpAny_bind (wpAny_mono h₁ (fun env s₂ h₂ => wpAny_bind (wpAny_enterFrame h₂.1 hroom
    (wpAny_pure (And.intro rfl h₂.2)))) fun _ _ h' => h')) fun _ _ h' => h')
end

end
-- part D2
section
open PySem.Sem (wp)

theorem ends_clean {prog : Program} {w : World} {t : Sem Fin} {s : Shared} {R : Result → Shared → Prop} (hreg : s.asleep)
    (h : wpG (model prog w) callerA t (fun fin s' => ∃ f, fin = .done f ∧ (R (.ok f) s' ∧ leftWithCleanup s'.gens = false)) (fun e s' => R (.error e) s' ∧ leftWithCleanup s'.gens = false) s) :
    ∃ n r s' s'', runN (denote table) prog w n s ⟨t, .builtin "claim.caller" {}, default, []⟩ = .halted (outcomeOf r) s' ∧
      schedN (denote table) prog w n (.single s ⟨t, .builtin "claim.caller" {}, default, []⟩) = .halted (outcomeOf r) s' ∧ s'.forget = s''.forget ∧ R r s'' := by
  have h0 := h _ default caller_in (by decide +kernel) (fun x hx => by cases hx)
  have h1 : wp (model prog w) ⟨.builtin "claim.caller" {}, none, none, [], none⟩ t (Sem.finPost (model prog w) ⟨.builtin "claim.caller" {}, none, none, [], none⟩ (fun r s' => R r s' ∧ leftWithCleanup s'.gens = false))
      (fun e _ s' => R (.error e) s' ∧ leftWithCleanup s'.gens = false) default s := by
    refine Sem.wp_mono _ _ t (fun fin p' s' h' => ?_) (fun _ _ _ h' => h') default s h0
    obtain ⟨f, rfl, hf⟩ := h'
    exact hf
  obtain ⟨n, r, s₁, s₂, hs, hn, hfo, hR⟩ := wp_halts_full (M := model prog w) (R := R) hreg h1
  exact ⟨n, r, s₂, s₁, hn, hs, hfo, hR⟩

theorem callFrom_clean {c : ClaimW} {tree : List Value → Sem Fin} {w : World} {s : Shared} {free : Addr → Prop} {gens : Prop} {kept : Heap → Prop} (hz : s.asleep) (hgens : s.gens = #[])
    (hspec : ∀ args, c.pre args = true → WData.layableAll args = true →
      ∀ ord : List DictEntry → List DictEntry, (∀ l, (ord l).Perm l) →
      ∃ vs s₁, layAllW c.records (classAt s.heap) w.params ord args s = some (vs, s₁) ∧
        wpG (model c.prog w) callerA (tree vs) (fun fin s' => ∃ f, fin = .done f ∧ (c.Ends s args vs s₁ (.ok f) s' ∧ s'.os = s.os ∧ AllBare s'.gens ∧ kept s'.heap))
          (fun e s' => c.Ends s args vs s₁ (.error e) s' ∧ s'.os = s.os ∧ AllBare s'.gens ∧ kept s'.heap) s₁) :
    c.CallFrom (fun vs => ⟨tree vs, .builtin "claim.caller" {}, default, []⟩) w free gens kept s := by
  intro args hpre hlay ord hord
  obtain ⟨vs, s₁, hlaid, hcode⟩ := hspec args hpre hlay ord hord
  have hal := layAllW_rest _ _ _ hlaid
  obtain ⟨k, r, s', s'', hrun, hsched, hfo, hcase, hos, hkp⟩ := ends_clean (prog := c.prog) (w := w) (t := tree vs) (s := s₁)
    (R := fun r s' => c.Ends s args vs s₁ r s' ∧ s'.os = s.os ∧ kept s'.heap)
    (Shared.asleep_of_life hal.2.2.2 hz)
    (wpG_mono hcode (by
      rintro fin s' ⟨f, e, h1, h2, h3, h4⟩
      exact ⟨f, e, ⟨h1, h2, h4⟩, leftWithCleanup_false_of_bare h3⟩) (by
      rintro e s' ⟨h1, h2, h3, h4⟩
      exact ⟨⟨h1, h2, h4⟩, leftWithCleanup_false_of_bare h3⟩))
  obtain ⟨eh, _, _, eo, _⟩ := Shared.forget_eq hfo
  have hcase := hcase.congr eh
  have hkp : kept s'.heap := by rw [eh]; exact hkp
  rw [← eo] at hos
  have hlife : s'.heap.life = s.heap.life := (runN_life _ _ _ hrun).trans hal.2.2.2
  refine ⟨vs, s₁, hlaid, k, _, s', hsched, ?_, (fun _ i x hx => by rw [hgens] at hx; simp at hx), hkp, by rw [hlife], Shared.rest_eq hos⟩
  rcases hcase with ⟨v, rfl, d1, d2, d3, d4, d5⟩ | ⟨e, ob, cls, rfl, d1, d2, d3, d4, d5⟩
  · exact .inl ⟨v, rfl, d1, d2, d3, fun b o y _ => d4 b o y, d5⟩
  · exact .inr ⟨e, ob, cls, rfl, d1, d2, d3, d4, fun b o y _ => d5 b o y⟩

abbrev WalkD (q : Program) (loose : List Str) (XP : (Str → Option Value) → Heap → Prop) (YP : World → Heap → Prop) (r : RowW) (d : DefRec) (kwd : List (Str × Expr)) : Prop :=
  ∀ (w : World) (s₀ s₁ : Shared) (mg mb : Str → Option Value), Ground q loose r.records XP w s₀ mg mb s₁.heap → YP w s₁.heap → ∀ (a : Addr) (o : Obj) (pm cd doc dV kV : Value), s₁.heap.get? a = some o →
    o.data = .func { docDef d.name d.params d.body d.scope pm cd doc with defaults := dV, kwdefaults := kV } → s₁.heap.CodeRec cd d.name → Dflts mg s₁.heap d.params kwd dV kV → mg d.name = some (.ref a) → s₁.gens = #[] →
    ∀ (args : List WData) (vals : List Value) (as : List Addr), r.claim.pre args = true → WData.layableAll args = true → ReadsAllW r.records (classAt s₀.heap) s₁.heap vals args as → WellAll w.params s₁.heap vals args → (∀ a ∈ as, (a == sysModules) = false) →
      wpG (model r.prog w) callerA (PySem.call (.ref a) vals) (fun v s' => GoodWG r.claim (classAt s₀.heap) (ExcName.means s₀.heap) args s₁ (.ok (.ret v)) s')
        (fun e s' => GoodWG r.claim (classAt s₀.heap) (ExcName.means s₀.heap) args s₁ (.error e) s') s₁

theorem any_clean {r : RowW} {q : Program} {loose defs kps : List Str} {writes : Bool} {Xt : Shared → Bool} {XP : (Str → Option Value) → Heap → Prop} {α : Type} {Yf : Shared → α} {Ya : World → α} {YP : World → Heap → Prop} {N : Nat}
    (left : LeftO r.prog q loose Xt Yf Ya N) (hY : ∀ w s, Yf s = Ya w → YP w s.heap) (hYk : ∀ w h h', YP w h → (∀ b o, h.get? b = some o → h'.get? b = some o) → YP w h') (hX : ∀ s, Xt s = true → XP (s.heap.nsMap mainGlobals) s.heap) (hXk : ∀ mg h h', XP mg h → (∀ b o, h.get? b = some o → h'.get? b = some o) → XP mg h')
    (hRf : ∀ s, Xt s = true → RecFacts r.records s.heap) (hwr : (!writes || r.records.isEmpty) = true) (ok : (chainsOk q && opensWell r.prog && (frees r && r.within.isEmpty)) = true) (hb : r.prog.bare) (hw : r.promised)
    (pin : ∀ w s, s.heap.isNs mainGlobals = true → Ground q loose [] XP w s (s.heap.nsMap mainGlobals) (s.heap.nsMap builtinsNs) s.heap → ∀ n ∈ defs, isTheDefsW r.prog s.heap n)
    (call : ∀ (w : World) (s₀ s₁ : Shared) (mg mb : Str → Option Value), Ground q loose r.records XP w s₀ mg mb s₁.heap → YP w s₁.heap → ∀ (args : List WData) (vs : List Value) (as : List Addr),
      r.claim.pre args = true → WData.layableAll args = true → Laid r.records w s₀ s₁ args vs as → sysModules < s₀.heap.objs.size → ∃ f, mg r.name = some f ∧
        wpG (model r.prog w) callerA (PySem.call f vs) (fun v s' => GoodWG r.claim (classAt s₀.heap) (ExcName.means s₀.heap) args s₁ (.ok (.ret v)) s')
          (fun e s' => GoodWG r.claim (classAt s₀.heap) (ExcName.means s₀.heap) args s₁ (.error e) s') s₁) : r.claim.HoldsOpenBy (callStub r.name) defs kps writes := by
  obtain ⟨ok, k5⟩ := Bool.and_eq_true_iff.mp ok
  obtain ⟨hch, o1⟩ := Bool.and_eq_true_iff.mp ok
  obtain ⟨k5, k6⟩ := Bool.and_eq_true_iff.mp k5
  obtain ⟨hsame, hu, ha, hap, hm⟩ := frees_parts k5
  refine ⟨⟨hb, o1, by show r.makers.map _ = []; rw [hm]; rfl⟩, hw.witness, fun w => ⟨(left.behind hX hch w).1, fun s' hs' => ?_⟩⟩
  obtain ⟨s₀, hf, hg0, s, hT, hz, hgens, hg, G00, y⟩ := (left.behind (XP := fun mg h => XP mg h ∧ RecFacts r.records h) (fun s hs => ⟨hX s hs, hRf s hs⟩) hch w).2 s' hs'
  have G0 : Ground q loose [] XP w s (s.heap.nsMap mainGlobals) (s.heap.nsMap builtinsNs) s.heap := ⟨G00.T, G00.B, G00.D, G00.TE, G00.TD, G00.W, G00.X.1, G00.cls, G00.has, G00.apart, G00.once, G00.K⟩
  have RF := G00.X.2
  have hT' := hT
  refine ⟨s₀, hf, hg0, s, hT, pin w s hg G0, RF.1, RF.2.1, ?_⟩
  have hgens : s.gens = #[] := Array.eq_empty_of_size_eq_zero (beq_iff_eq.mp hgens)
  have G : Ground q loose r.records XP w s _ _ s.heap := RF.ground G0
  show r.claim.CallFrom (fun vs => ⟨do match ← nsGet mainNs r.name with
      | some f => do ret (← PySem.call f vs)
      | none => unsupported "claim.caller:no-such-global", .builtin "claim.caller" {}, default, []⟩) w _ _ _ s
  refine callFrom_clean (c := r.claim) hz hgens fun args hpre hlay ord hord => ?_
  obtain ⟨⟨vs, s₁⟩, hlaid⟩ := Option.isSome_iff_exists.mp (layAllW_isSome (P := w.params) (ord := ord) G.has args r.args s (pre_splitW hpre).1)
  have keeps := layAllW_keeps _ _ _ hlaid
  have hal := layAllW_rest _ _ _ hlaid
  obtain ⟨as, hrd, hin, hold⟩ := reads_layAllW hord _ _ _ hlaid hlay s₁.heap (fun _ _ e => e)
  have L : Laid r.records w s s₁ args vs as := ⟨⟨ord, hord, hlaid⟩, hrd, hin, hold, keeps, hal.1.trans hgens, hal.2.2.1⟩
  have G₁ := G.keeps hXk keeps
  obtain ⟨f, hf, h⟩ := call w s s₁ _ _ G₁ (hYk _ _ _ (hY w s y) keeps) args vs as hpre hlay L G.low
  have hi := ident_freeW hu ha hap
  have hwi : r.claim.within = [] := List.isEmpty_iff.mp k6
  refine ⟨vs, s₁, hlaid, wpG_bind (wpG_of (wpAny_nsGet G₁.T.g ?_))⟩
  rw [hf]
  refine wpG_bind (wpG_mono h (fun v s' g => wpG_pure ?_) fun e s' g => ?_)
  · exact ⟨_, rfl, have z := g.laid (c := r.claim) hsame hwi hi L; ⟨z.1, z.2.1, z.2.2, fun q => ⟨namesKept_of hT' hg kps keeps g.2.1.old, noTable hwr q⟩⟩⟩
  · exact have z := g.laid (c := r.claim) hsame hwi hi L; ⟨z.1, z.2.1, z.2.2, fun q => ⟨namesKept_of hT' hg kps keeps g.2.1.old, noTable hwr q⟩⟩

namespace PySem.W
theorem lines1 : True := by
  k_with_none
  exact True.intro
/-- the head's own theorem, over a clean stack; open_top meets it by this name in this namespace -/
theorem holds_open {r : OpenRow} {q : Program} {loose : List Str} {Xt : Shared → Bool} {XP : (Str → Option Value) → Heap → Prop} {α : Type} {Yf : Shared → α} {Ya : World → α} {YP : World → Heap → Prop} {d : DefRec} {kwd : List (Str × Expr)} {N : Nat}
    (left : LeftO r.prog q loose Xt Yf Ya N) (hY : ∀ w s, Yf s = Ya w → YP w s.heap) (hYk : ∀ w h h', YP w h → (∀ b o, h.get? b = some o → h'.get? b = some o) → YP w h')
    (hX : ∀ s, Xt s = true → XP (s.heap.nsMap mainGlobals) s.heap) (hXk : ∀ mg h h', XP mg h → (∀ b o, h.get? b = some o → h'.get? b = some o) → XP mg h')
    (hdef : defOf q r.name = some (d, kwd)) (hp : r.prog.theDef r.name = some (d.params, d.body, d.scope)) (hk : kwWritten? d.params.kwonlyargs d.params.kw_defaults = some kwd) (hRf : ∀ s, Xt s = true → RecFacts r.records s.heap) (hwr : (!r.writes || r.records.isEmpty) = true)
    (k1 : r.wellSaid = true) (ok : (chainsOk q && opensWell r.prog && (frees r.toRowW && r.within.isEmpty)) = true) (hb : r.prog.bare) (hw : r.toRowW.promised)
    (call : WalkD q loose XP YP r.toRowW d kwd) : r.Holds := by
  refine ⟨k1, hw, any_clean (r := r.toRowW) left hY hYk hX hXk hRf hwr ok hb hw (fun w s hg G n hn => ?_) fun w s₀ s₁ mg mb G Y args vs as hpre hlay L low => ?_⟩
  · obtain rfl : n = r.name := by split at hn <;> simp_all
    exact pinned_of_view hg G hdef hp hk
  · obtain ⟨a, o, pm, cd, doc, dV, kV, h1, h2, h3, h4, h5⟩ := G.fn hdef
    exact ⟨.ref a, h1, call w s₀ s₁ mg mb G Y a o pm cd doc dV kV h2 h3 h4 h5 (defOf_name hdef ▸ h1) L.gens args vs as hpre hlay L.reads L.well (L.low low)⟩
end PySem.W

end
-- part Hd
section
set_option maxRecDepth 100000 in
set_option maxHeartbeats 8000000 in
open_top hd for PySem.Challenge.rw_zn0009_01
/-- the head's run leaves a switch on: off again, as a text of its own finds it -/
theorem top_off : True := by
  w_top off
  exact True.intro

end
-- part Base
section
open Builtin Builtin.Str

theorem gen_toks {α : Type} {M : Model} {A : Around} {t : Sem α} {Q : α → Shared → Prop} {E : Value → Shared → Prop} {h : Heap} {g : Array GenState} {d : Drawn} {k : Nat} {o : OsState} (hk : 0 < k)
    (H : ∀ tk, 0 < tk → wpAny M A t Q E ⟨h, g, d, tk, o⟩) : wpAny M A t Q E ⟨h, g, d, k, o⟩ := H k hk

section
variable {prog : Program} {w : World} {A : Around} {E : Value → Shared → Prop} {s : Shared}

def hd0 (y : Str) : Nat := y.cps.toList.headD 0
theorem one_sign {y : Str} (h1 : y.cps.size = 1) : y = ⟨#[hd0 y]⟩ := by
  obtain ⟨⟨l⟩⟩ := y
  match l, h1 with
  | [c], _ => rfl
theorem rep_call {x : List Nat} {yS zS : Str} {t u v : Tok} {Q : Value → Shared → Prop} (h1 : yS.cps.size = 1) (hyz : (yS == zS) = false) (hu : u ≠ 0) (hv : v ≠ 0) (huv : u ≠ v) (hx : x.length ≤ 1048576) (hz : zS.length ≤ 14) (hs : 0 < s.toks)
    (h : ∀ t' k, 0 < k → Q (.str (tx (rep (hd0 yS) zS.cps.toList x)) t') { s with toks := k }) :
    wpAny (model prog w) A (call (.builtin "str.replace") [.str (tx x) t, .str yS u, .str zS v]) Q E s := by
  refine wpAny_with_toks (n := 1) hs ?_
  refine SC.replaceW hu hv huv hyz (by rw [tx_length]; exact hx) hz fun t' k hk => ?_
  have e : Txt.replace (tx x) yS zS = tx (rep (hd0 yS) zS.cps.toList x) := by
    conv => lhs; rw [one_sign h1]
    rw [replace_rep, tx_cps]
  rw [e]
  exact h t' k hk
theorem rep_none {x : List Nat} {yS : Str} {z : List Nat} (h1 : yS.cps.size = 1) (h : (occurrences (tx x) yS 0 (tx x).length 1).isEmpty = true) : rep (hd0 yS) z x = x := by
  rw [one_sign h1] at h
  have f := StrLaws.found_one (tx x) (hd0 yS)
  rw [h] at f
  have f' := f.symm
  simp only [Bool.not_true, decide_eq_false_iff_not] at f'
  exact rep_free _ _ _ f'

/-- behind «if c in text: text = text.replace(c, z)» -/
def EscEnd (g : Heap) (L : Addr) (m : Str → Option Value) (news : List (Addr × Obj)) (x : List Nat) (s : Shared) (f : Flow) (s' : Shared) : Prop :=
  f = .next ∧ ∃ h' tk' t', 0 < tk' ∧ s' = ⟨h', s.gens, s.drawn, tk', s.os⟩ ∧ Fr g L h' (fun y => if y = "text" then some (.str (tx x) t') else m y) ∧ News g L h' news
theorem esc_cut {env : Env} {yS zS : Str} {x : List Nat} {t : Tok} {g : Heap} {L : Addr} {m : Str → Option Value} {news : List (Addr × Obj)} {Q : Flow → Shared → Prop} {p1 p2 p3 p4 p5 p6 p7 p8 p9 p10 p11 : Pos} {k1 k2 k3} {els : List Stmt} {nm nm2 rp : Str}
    (F : Fr g L s.heap m) (N : News g L s.heap news) (hm : m "text" = some (.str (tx x) t)) (hz : zS.cps.toList.length ≤ 6)
    (a : wpAny (model prog w) A (exec (.If (.Compare (.Constant (.str yS) k1 p1) [.In] [.Name nm p2] p3) [.Assign [.Name nm2 p4] (.Call (.Attribute (.Name nm p5) rp p6) [.Constant (.str yS) k2 p7, .Constant (.str zS) k3 p8] [] p9) p10] els p11) env) (EscEnd g L m news (rep (hd0 yS) zS.cps.toList x) s) E s)
    (b : ∀ h' tk' t', 0 < tk' → (rep (hd0 yS) zS.cps.toList x).length ≤ 6 * x.length → Fr g L h' (fun y => if y = "text" then some (.str (tx (rep (hd0 yS) zS.cps.toList x)) t') else m y) → News g L h' news → Q .next ⟨h', s.gens, s.drawn, tk', s.os⟩) :
    wpAny (model prog w) A (exec (.If (.Compare (.Constant (.str yS) k1 p1) [.In] [.Name nm p2] p3) [.Assign [.Name nm2 p4] (.Call (.Attribute (.Name nm p5) rp p6) [.Constant (.str yS) k2 p7, .Constant (.str zS) k3 p8] [] p9) p10] els p11) env) Q E s := by
  refine wpAny_mono a (fun f s' h => ?_) fun _ _ e => e
  obtain ⟨rfl, h', tk', t', h0, rfl, F', N'⟩ := h
  exact b h' tk' t' h0 (rep_length _ _ 6 hz (by decide) x) F' N'
theorem esc_same {g : Heap} {L : Addr} {m : Str → Option Value} {news : List (Addr × Obj)} {x : List Nat} {yS : Str} {z : List Nat} {t : Tok} {h : Heap} {tk : Nat} (F : Fr g L h m) (N : News g L h news) (hm : m "text" = some (.str (tx x) t)) (h1 : yS.cps.size = 1)
    (hn : (occurrences (tx x) yS 0 (tx x).length 1).isEmpty = true) (h0 : 0 < tk) : EscEnd g L m news (rep (hd0 yS) z x) s .next ⟨h, s.gens, s.drawn, tk, s.os⟩ := by
  refine ⟨rfl, h, tk, t, h0, rfl, ?_, N⟩
  rw [rep_none h1 hn]
  have e : (fun y : Str => if y = "text" then some (Value.str (tx x) t) else m y) = m := by
    funext y
    split
    · rename_i e; rw [e]; exact hm.symm
    · rfl
  rw [e]; exact F
theorem esc_done {g : Heap} {L : Addr} {m : Str → Option Value} {news : List (Addr × Obj)} {x : List Nat} {t : Tok} {h : Heap} {tk : Nat} (F : Fr g L h (fun y => if y = "text" then some (.str (tx x) t) else m y)) (N : News g L h news)
    (h0 : 0 < tk) : EscEnd g L m news x s .next ⟨h, s.gens, s.drawn, tk, s.os⟩ := ⟨rfl, h, tk, t, h0, rfl, F, N⟩
end

end
-- part Esc
section
section
theorem lines2 : True := by
  k_with_none
  k_with "execs cons" => ((k_here; (with_reducible show wpAny _ _ _ _ _ (Shared.mk _ _ _ (_ + _) _)); (refine gen_toks (by first | omega | (simp; omega)) ?_); intro tk' htk'))
  k_with "execs nil" => ((k_here; (with_reducible show wpAny _ _ _ _ _ (Shared.mk _ _ _ (_ + _) _)); (refine gen_toks (by first | omega | (simp; omega)) ?_); intro tk' htk'))
  k_with "exec If" => ((k_here; (fail_if_success (with_reducible show wpAny _ _ _ (EscEnd _ _ _ _ _ _) _ _)); (rename Fr _ _ _ _ => lF'); (rename News _ _ _ _ => lN'); (refine' esc_cut lF' lN' (by with_unfolding_all rfl) (by decide) ?_ ?_); (rotate_left; intro h' tk' t' htk' hlen' F' N'; clear lF' lN'; rotate_right)))
  k_with "call builtin:str.replace" => ((k_here; (refine rep_call (by rfl) (by decide) ?_ ?_ ?_ (by omega) (by decide) ?_ ?_); (focus (show @Ne Nat _ _); omega); (focus (show @Ne Nat _ _); omega); (focus (show @Ne Nat _ _); omega); (focus (show @LT.lt Nat _ _ _); (try dsimp only); omega); intro t' k' hk'; (try dsimp only)))
  k_with "EscEnd" => (first | exact esc_same (by assumption) (by assumption) (by with_unfolding_all rfl) (by rfl) (by assumption) (by omega) | exact esc_done (by assumption) (by assumption) (by omega))
  exact True.intro
set_option maxRecDepth 100000 in
set_option maxHeartbeats 8000000 in
theorem esc0_sum {w : World} {p : Program} {loose : List Str} {mean : ExcName → Option Value} {mg mb : Str → Option Value} {dp un : Nat} {gd : Option (List Code)} {cn : Str} {cs : Scope} {a : Addr} {ccd : Value} {cl : List (Str × Addr)} {outer : List Env} {A₀ : Around} {base h₀ : Heap} {L : Addr} {m : Str → Option Value} {news : List (Addr × Obj)} {s : Shared} {Q E : Value → Shared → Prop}
    (B : Below A₀ base outer h₀) (F : Fr h₀ L s.heap m) (X : (Mine.hd.heap_39 w.params).In h₀) (N : News h₀ L s.heap news) (T : Top p loose mean mg mb h₀) (hk : cs.kind = .function) (hd : dp + 8 < recursionLimit) (hu : un + 80 < cLine)
    (x : List Nat) (t : Tok) (hlen : x.length ≤ 50)
    (ret : ∀ t h' tk', Fr h₀ L h' m → News h₀ L h' news → Q (.str (tx (esc0 x)) t) {s with heap := h', toks := tk'}) :
    wpAny (model PySem.Challenge.rw_zn0009_01.row.prog w) (ktrTop dp un gd cn cs L a ccd cl outer) (call (.ref 63) [.str (tx x) t]) Q E s := by
  revert X
  k_fill
  intro X
  refine wpAny_call ?_
  k_dflt cell_enter
  k_steps
  all_goals exact ret _ _ _ (by assumption) (by assumption)
set_option maxRecDepth 100000 in
set_option maxHeartbeats 8000000 in
theorem esc1_sum {w : World} {p : Program} {loose : List Str} {mean : ExcName → Option Value} {mg mb : Str → Option Value} {dp un : Nat} {gd : Option (List Code)} {cn : Str} {cs : Scope} {a : Addr} {ccd : Value} {cl : List (Str × Addr)} {outer : List Env} {A₀ : Around} {base h₀ : Heap} {L : Addr} {m : Str → Option Value} {news : List (Addr × Obj)} {s : Shared} {Q E : Value → Shared → Prop}
    (B : Below A₀ base outer h₀) (F : Fr h₀ L s.heap m) (X : (Mine.hd.heap_39 w.params).In h₀) (N : News h₀ L s.heap news) (T : Top p loose mean mg mb h₀) (hk : cs.kind = .function) (hd : dp + 8 < recursionLimit) (hu : un + 80 < cLine)
    (x : List Nat) (t : Tok) (hlen : x.length ≤ 50)
    (ret : ∀ t h' tk', Fr h₀ L h' m → News h₀ L h' news → Q (.str (tx (esc1 x)) t) {s with heap := h', toks := tk'}) :
    wpAny (model PySem.Challenge.rw_zn0009_01.row.prog w) (ktrTop dp un gd cn cs L a ccd cl outer) (call (.ref 70) [.str (tx x) t]) Q E s := by
  revert X
  k_fill
  intro X
  refine wpAny_call ?_
  k_dflt cell_enter
  k_steps
  all_goals exact ret _ _ _ (by assumption) (by assumption)
set_option maxRecDepth 100000 in
set_option maxHeartbeats 8000000 in
theorem esc2_sum {w : World} {p : Program} {loose : List Str} {mean : ExcName → Option Value} {mg mb : Str → Option Value} {dp un : Nat} {gd : Option (List Code)} {cn : Str} {cs : Scope} {a : Addr} {ccd : Value} {cl : List (Str × Addr)} {outer : List Env} {A₀ : Around} {base h₀ : Heap} {L : Addr} {m : Str → Option Value} {news : List (Addr × Obj)} {s : Shared} {Q E : Value → Shared → Prop}
    (B : Below A₀ base outer h₀) (F : Fr h₀ L s.heap m) (X : (Mine.hd.heap_39 w.params).In h₀) (N : News h₀ L s.heap news) (T : Top p loose mean mg mb h₀) (hk : cs.kind = .function) (hd : dp + 8 < recursionLimit) (hu : un + 80 < cLine)
    (x : List Nat) (t : Tok) (hlen : x.length ≤ 50)
    (ret : ∀ t h' tk', Fr h₀ L h' m → News h₀ L h' news → Q (.str (tx (esc2 x)) t) {s with heap := h', toks := tk'}) :
    wpAny (model PySem.Challenge.rw_zn0009_01.row.prog w) (ktrTop dp un gd cn cs L a ccd cl outer) (call (.ref 56) [.str (tx x) t]) Q E s := by
  revert X
  k_fill
  intro X
  refine wpAny_call ?_
  k_dflt cell_enter
  k_steps
  all_goals exact ret _ _ _ (by assumption) (by assumption)
end

end
-- part Wr
section
theorem comment_yes {x : List Nat} (h : ¬ ((Txt.rstrip (tx x)).length : Int) = 0) : Str.ofString "# " ++ Txt.rstrip (tx x) = tx (commentL x) := by
  rw [rstrip_rsL, tx_length, tx_cps] at h
  have h' : rsL x ≠ [] := fun e => h (by rw [e]; rfl)
  unfold commentL
  rw [if_neg h', rstrip_rsL, tx_cps, show Str.ofString "# " = tx [35, 32] by decide +kernel, tx_append]
  rfl
theorem comment_no {x : List Nat} (h : ((Txt.rstrip (tx x)).length : Int) = 0) : Str.ofString "#" = tx (commentL x) := by
  rw [rstrip_rsL, tx_length, tx_cps] at h
  have h' : rsL x = [] := List.length_eq_zero_iff.mp (by omega)
  unfold commentL
  rw [if_pos h', show Str.ofString "#" = tx [35] by decide +kernel]
section
theorem lines3 : True := by
  k_with_none
  k_with "execs cons" => ((k_here; (with_reducible show wpAny _ _ _ _ _ (Shared.mk _ _ _ (_ + _) _)); (refine gen_toks (by first | omega | (simp; omega)) ?_); intro tk' htk'))
  k_with "execs nil" => ((k_here; (with_reducible show wpAny _ _ _ _ _ (Shared.mk _ _ _ (_ + _) _)); (refine gen_toks (by first | omega | (simp; omega)) ?_); intro tk' htk'))
  exact True.intro
set_option maxRecDepth 100000 in
set_option maxHeartbeats 8000000 in
theorem comment_sum {w : World} {p : Program} {loose : List Str} {mean : ExcName → Option Value} {mg mb : Str → Option Value} {dp un : Nat} {gd : Option (List Code)} {cn : Str} {cs : Scope} {a : Addr} {ccd : Value} {cl : List (Str × Addr)} {outer : List Env} {A₀ : Around} {base h₀ : Heap} {L : Addr} {m : Str → Option Value} {news : List (Addr × Obj)} {s : Shared} {Q E : Value → Shared → Prop}
    (B : Below A₀ base outer h₀) (F : Fr h₀ L s.heap m) (X : (Mine.hd.heap_39 w.params).In h₀) (N : News h₀ L s.heap news) (T : Top p loose mean mg mb h₀) (hk : cs.kind = .function) (hd : dp + 8 < recursionLimit) (hu : un + 80 < cLine)
    (x : List Nat) (t : Tok) (hlen : x.length ≤ 1000)
    (ret : ∀ t h' tk', Fr h₀ L h' m → News h₀ L h' news → Q (.str (tx (commentL x)) t) {s with heap := h', toks := tk'}) :
    wpAny (model PySem.Challenge.rw_zn0009_01.row.prog w) (ktrTop dp un gd cn cs L a ccd cl outer) (call (.ref 35) [.str (tx x) t]) Q E s := by
  have hlen' : (tx x).length ≤ 1000 := by rw [tx_length]; exact hlen
  revert X
  k_fill
  intro X
  refine wpAny_call ?_
  k_dflt cell_enter
  k_steps
  · rw [comment_yes (by assumption)]
    exact ret _ _ _ (by assumption) (by assumption)
  · rw [comment_no (by assumption)]
    exact ret _ _ _ (by assumption) (by assumption)
theorem lines4 : True := by
  k_with_none
  k_with "execs cons" => ((k_here; (with_reducible show wpAny _ _ _ _ _ (Shared.mk _ _ _ (_ + _) _)); (refine gen_toks (by first | omega | (simp; omega)) ?_); intro tk' htk'))
  k_with "execs nil" => ((k_here; (with_reducible show wpAny _ _ _ _ _ (Shared.mk _ _ _ (_ + _) _)); (refine gen_toks (by first | omega | (simp; omega)) ?_); intro tk' htk'))
  k_with "call ref" => ((k_here; (first | refine' esc0_sum (by k_asm) (by k_asm) (by k_asm) (by k_asm) (by k_asm) (by first | rfl | assumption) (by ktr_room) (by ktr_units) _ _ (by omega) ?_ | refine' esc1_sum (by k_asm) (by k_asm) (by k_asm) (by k_asm) (by k_asm) (by first | rfl | assumption) (by ktr_room) (by ktr_units) _ _ (by omega) ?_ | refine' esc2_sum (by k_asm) (by k_asm) (by k_asm) (by k_asm) (by k_asm) (by first | rfl | assumption) (by ktr_room) (by ktr_units) _ _ (by omega) ?_); intro t' h' tk' F' N'; (try k_fold)))
  exact True.intro
set_option maxRecDepth 100000 in
set_option maxHeartbeats 8000000 in
theorem written_sum {w : World} {p : Program} {loose : List Str} {mean : ExcName → Option Value} {mg mb : Str → Option Value} {dp un : Nat} {gd : Option (List Code)} {cn : Str} {cs : Scope} {a : Addr} {ccd : Value} {cl : List (Str × Addr)} {outer : List Env} {A₀ : Around} {base h₀ : Heap} {L : Addr} {m : Str → Option Value} {news : List (Addr × Obj)} {s : Shared} {Q E : Value → Shared → Prop}
    (B : Below A₀ base outer h₀) (F : Fr h₀ L s.heap m) (X : (Mine.hd.heap_39 w.params).In h₀) (N : News h₀ L s.heap news) (T : Top p loose mean mg mb h₀) (hk : cs.kind = .function) (hd : dp + 16 < recursionLimit) (hu : un + 160 < cLine)
    (x : List Nat) (t t2 : Tok) (wr : Int) (hlen : x.length ≤ 50) (h0 : 0 ≤ wr) (h1 : wr < 3)
    (ret : ∀ t h' tk', Fr h₀ L h' m → News h₀ L h' news → Q (.str (tx (writtenL wr x)) t) {s with heap := h', toks := tk'}) :
    wpAny (model PySem.Challenge.rw_zn0009_01.row.prog w) (ktrTop dp un gd cn cs L a ccd cl outer) (call (.ref 77) [.str (tx x) t, .int wr t2]) Q E s := by
  revert X
  k_fill
  intro X
  refine wpAny_call ?_
  k_dflt cell_enter
  k_steps
  all_goals (first
    | rw [show esc0 x = writtenL wr x by unfold writtenL; rw [if_pos (by omega)]]
    | rw [show esc1 x = writtenL wr x by unfold writtenL; rw [if_neg (by omega), if_pos (by omega)]]
    | rw [show esc2 x = writtenL wr x by unfold writtenL; rw [if_neg (by omega), if_neg (by omega)]])
  all_goals exact ret _ _ _ (by assumption) (by assumption)
end

end
-- part BA
section
namespace BF
theorem mro : mroOf (.type "bytearray") = pure [.type "bytearray", .type "object"] := by rw [mroOf_type]; kernel_rfl
theorem lines5 : True := by
  k_with_none
  exact True.intro
theorem lookup_new : typeLookup (.type "bytearray") "__new__" = pure (some (.builtin "bytearray.__new__")) := by rw [typeLookup_type, builtinLookup_eq_fast]; kernel_rfl
theorem slot_init : Slot "bytearray" "__init__" "bytearray.__init__" :=
  .of (owner := "bytearray") (n := "__init__") (by rw [typeLookup_type, builtinLookup_eq_fast]; kernel_rfl) (by decide +kernel) (by decide +kernel) (by decide +kernel)
    (by first | exact .inl (by decide +kernel) | exact .inr (by decide +kernel)) (by rw [isSubtype_type]; kernel_rfl)
theorem slot_set : Slot "bytearray" "__setitem__" "bytearray.__setitem__" :=
  .of (owner := "bytearray") (n := "__setitem__") (by rw [typeLookup_type, builtinLookup_eq_fast]; kernel_rfl) (by decide +kernel) (by decide +kernel) (by decide +kernel)
    (by first | exact .inl (by decide +kernel) | exact .inr (by decide +kernel)) (by rw [isSubtype_type]; kernel_rfl)
theorem called : TypeCalled "bytearray" "bytearray.__new__" "bytearray.__init__" :=
  ⟨by decide +kernel, by decide +kernel, ⟨_, _, mro⟩, madeBy_type mro lookup_new (by decide +kernel), by decide +kernel, by rw [isSubtype_type]; kernel_rfl, slot_init⟩
theorem typeCall (a : Value) : checkTypeCall "bytearray" ⟨[a], []⟩ = pure () := by kernel_rfl
theorem newCall (a : Value) : checkBuiltinCall "bytearray.__new__" ⟨[.type "bytearray", a], []⟩ = pure () := by kernel_rfl
theorem plain_new : plainId "bytearray.__new__" = true := by decide +kernel
theorem plain_init : plainId "bytearray.__init__" = true := by decide +kernel
theorem entry_new : entryFor table "bytearray.__new__" = some Builtin.«list.__new__» := entryFor_alias (id' := "list.__new__") (by kernel_rfl) rfl (by decide +kernel) (by kernel_rfl)
theorem entry_init : entryFor table "bytearray.__init__" = some Builtin.«bytearray.__init__» := entryFor_of_tree (by kernel_rfl)
theorem entry_set : entryFor table "bytearray.__setitem__" = some Builtin.«bytearray.__setitem__» := entryFor_of_tree (by kernel_rfl)
theorem args_init (a b : Value) : argsOk "bytearray.__init__" ⟨[a, b], []⟩ := by unfold argsOk; kernel_rfl
theorem args_set (a b c : Value) : argsOk "bytearray.__setitem__" ⟨[a, b, c], []⟩ := by unfold argsOk; kernel_rfl
theorem sub_self : isSubtype (.type "bytearray") (.type "bytearray") = pure true := by rw [isSubtype_type]; kernel_rfl
theorem bind1 (v : Value) : Builtin.Bytes.bindOptional "bytearray.__init__" "bytearray" ["source", "encoding", "errors"] [v] [] = pure [some v, none, none] := by kernel_rfl
set_option maxRecDepth 1000000 in
set_option maxHeartbeats 4000000 in
theorem owner_new : ("bytearray.__new__".splitOn ".__new__").headD "" = "bytearray" := by simp +decide [String.splitOn, String.splitOnAux]
end BF

end
-- part BA2
section
theorem fits_small {k : Int} (h0 : -1 ≤ k) (h1 : k < 2 ^ 63) : Builtin.Bytes.fitsIndex k = true := by
  unfold Builtin.Bytes.fitsIndex
  simp only [Bool.and_eq_true, decide_eq_true_eq]
  omega
/-- a bytearray of these octets, lent to nobody -/
abbrev baObj (b : Array UInt8) : Obj := { cls := .type "bytearray", data := .bytearray b }
section
variable {prog : Program} {w : World} {A : Around} {E : Value → Shared → Prop} {s : Shared}
theorem ba_typeIs {d : Addr} {b : Array UInt8} (h : s.heap.get? d = some (baObj b)) : s.TypeIs (.ref d) "bytearray" := ⟨_, h, rfl⟩
theorem int_index (k : Int) (u : Tok) : asIndex (.int k u) = pure k := rfl
theorem ba_payload {d : Addr} {b : Array UInt8} {Q : Array UInt8 → Shared → Prop} (h : s.heap.get? d = some (baObj b)) (hq : Q b s) : wpAny (model prog w) A (Builtin.Bytes.payload (.ref d)) Q E s := by
  unfold Builtin.Bytes.payload Builtin.Bytes.payload?
  refine wpAny_bind (wpAny_bind (wpAny_load h ?_))
  exact wpAny_pure (wpAny_pure hq)
theorem ba_write {d : Addr} {b : Array UInt8} {f : Array UInt8 → Array UInt8} {Q : Unit → Shared → Prop} (h : s.heap.get? d = some (baObj b)) (hz : (f b).size ≤ sizeLine)
    (hq : ∀ h', h'.get? d = some (baObj (f b)) → Heap.SameBut d s.heap h' → Q () { s with heap := h' }) : wpAny (model prog w) A (Builtin.Bytes.write (.ref d) f) Q E s := by
  show wpAny _ _ (updateBytearray d f) _ _ _
  unfold updateBytearray
  refine wpAny_bind (wpAny_load h ?_)
  show wpAny _ _ (update d (Obj.mapBytearray f) >>= fun _ => lookBehind d) _ _ _
  refine wpAny_bind (wpAny_update h ?_)
  have h2 : (s.heap.update d (Obj.mapBytearray f)).get? d = some (baObj (f b)) := Heap.get?_update_self (Obj.mapBytearray f) h rfl
  refine wpAny_lookBehind h2 ?_ ?_
  · show (if (f b).size > sizeLine then some "bytearray:memory" else none) = none
    rw [if_neg]; omega
  · exact hq _ h2 (Heap.SameBut.update ..)
set_option maxHeartbeats 1000000 in
theorem ba_set {d : Addr} {b : Array UInt8} {k v : Int} {t u : Tok} {Q : Unit → Shared → Prop} (h : s.heap.get? d = some (baObj b)) (h0 : 0 ≤ k) (h1 : k < b.size) (hfit : k < 2 ^ 63) (hz : b.size ≤ sizeLine) (hv0 : 0 ≤ v) (hv1 : v < 256)
    (hq : ∀ h', h'.get? d = some (baObj (b.setIfInBounds k.toNat v.toNat.toUInt8)) → Heap.SameBut d s.heap h' → Q () { s with heap := h' }) :
    wpAny (model prog w) A (setItem (.ref d) (.int k t) (.int v u)) Q E s := by
  unfold setItem
  try with_reducible refine wpAny_holding ?_
  refine wpAny_bind (wpAny_sequenceKey (ba_typeIs h) (by decide) ?_)
  refine wpAny_bind (wpAny_callSpecial?_slot (name := Str.ofString "__setitem__") (ba_typeIs h) BF.slot_set
    (wpAny_call_entry BF.slot_set (ba_typeIs h) BF.entry_set ?_ (BF.args_set _ _ _)))
  unfold Builtin.«bytearray.__setitem__»
  refine bm_if_false rfl ?_
  show wpAny _ _ (Builtin.Bytes.subscript? (.int k t) >>= _) _ _ s
  have hidx : typeLookup (.type "int") "__index__" = pure (some (.builtin "int.__index__")) := by rw [typeLookup_type, builtinLookup_eq_fast]; kernel_rfl
  have hti : s.TypeIs (.int k t) "int" := typeIs_int _ _ _
  have hseq : seqIndex? k b.size = some k.toNat := seqIndex_of h0 h1
  refine wpAny_bind ?_
  unfold Builtin.Bytes.subscript?
  refine wpAny_bind (wpAny_specialOf hti hidx ?_)
  refine bm_if_false rfl ?_
  refine wpAny_bind (wpAny_of_eq (int_index k t) ?_)
  refine bm_if_false (by rw [fits_small (by omega) hfit]; rfl) ?_
  refine wpAny_pure ?_
  dsimp only
  refine wpAny_bind ?_
  unfold Builtin.Bytes.byteValue
  refine wpAny_bind (wpAny_of_eq (int_index v u) ?_)
  refine bm_if_false (by simp only [Bool.or_eq_false_iff, decide_eq_false_iff_not]; omega) ?_
  refine wpAny_pure ?_
  refine wpAny_bind (ba_payload h ?_)
  rw [hseq]
  dsimp only
  refine wpAny_bind (ba_write h (by simpa using hz) fun h' hd hs => ?_)
  refine wpAny_bind (wpAny_pure ?_)
  exact wpAny_pure ⟨_, rfl, wpAny_pure (hq h' hd hs)⟩
end

end
-- part BA3
section
namespace BF
theorem no_bytes : typeLookup (.type "bytearray") "__bytes__" = pure none := by rw [typeLookup_type, builtinLookup_eq_fast]; kernel_rfl
theorem noIdx : typeLookup (.type "bytearray") "__index__" = pure none := by rw [typeLookup_type, builtinLookup_eq_fast]; kernel_rfl
theorem buffer : typeLookup (.type "bytearray") "__buffer__" = pure (some (.builtin "bytearray.__buffer__")) := by rw [typeLookup_type, builtinLookup_eq_fast]; kernel_rfl
theorem release : typeLookup (.type "bytearray") "__release_buffer__" = pure (some (.builtin "bytearray.__release_buffer__")) := by rw [typeLookup_type, builtinLookup_eq_fast]; kernel_rfl
theorem buffer_own : Builtin.Bytes.slotIsOwn = Builtin.Bytes.slotIsOwn := rfl
theorem drop_buffer : ("bytearray.__buffer__".dropRight ("__buffer__".length + 1)) = "bytearray" := by decide +kernel
theorem drop_release : ("bytearray.__release_buffer__".dropRight ("__release_buffer__".length + 1)) = "bytearray" := by decide +kernel
theorem ends_buffer : ("bytearray.__buffer__".endsWith ("." ++ "__buffer__")) = true := by decide +kernel
theorem ends_release : ("bytearray.__release_buffer__".endsWith ("." ++ "__release_buffer__")) = true := by decide +kernel
end BF
section
variable {prog : Program} {w : World} {A : Around} {E : Value → Shared → Prop} {s : Shared}
theorem ba_own_buffer {d : Addr} {b : Array UInt8} {Q : Bool → Shared → Prop} (h : s.heap.get? d = some (baObj b)) (hq : Q true s) : wpAny (model prog w) A (Builtin.Bytes.slotIsOwn (.ref d) "__buffer__") Q E s := by
  unfold Builtin.Bytes.slotIsOwn
  refine wpAny_bind (wpAny_specialOf (ba_typeIs h) BF.buffer ?_)
  try dsimp only
  rw [BF.ends_buffer, BF.drop_buffer]
  exact bm_if_false rfl (wpAny_isInstance (ba_typeIs h) BF.sub_self hq)
theorem ba_own_release {d : Addr} {b : Array UInt8} {Q : Bool → Shared → Prop} (h : s.heap.get? d = some (baObj b)) (hq : Q false s) : wpAny (model prog w) A (Builtin.Bytes.ownRelease (.ref d)) Q E s := by
  unfold Builtin.Bytes.ownRelease Builtin.Bytes.slotIsOwn
  refine wpAny_bind (wpAny_bind (wpAny_specialOf (ba_typeIs h) BF.release ?_))
  try dsimp only
  rw [BF.ends_release, BF.drop_release]
  exact bm_if_false rfl (wpAny_isInstance (ba_typeIs h) BF.sub_self (wpAny_pure hq))
theorem ba_buffer {id : String} {d : Addr} {b : Array UInt8} {full : Bool} {Q : Option (Array UInt8) → Shared → Prop} (h : s.heap.get? d = some (baObj b)) (hq : Q (some b) s) : wpAny (model prog w) A (Builtin.Bytes.buffer? id (.ref d) full) Q E s := by
  unfold Builtin.Bytes.buffer?
  refine wpAny_bind (wpAny_specialOf (ba_typeIs h) BF.buffer ?_)
  try dsimp only
  refine wpAny_bind (ba_own_buffer h ?_)
  refine bm_if_false rfl ?_
  refine wpAny_bind (wpAny_specialOf (ba_typeIs h) BF.buffer ?_)
  try dsimp only
  refine wpAny_bind (ba_own_release h ?_)
  refine bm_if_false rfl ?_
  exact wpAny_bind (ba_payload h (wpAny_pure hq))
set_option maxHeartbeats 1000000 in
theorem bytes_new_ba {d : Addr} {b : Array UInt8} {Q : Value → Shared → Prop} (h : s.heap.get? d = some (baObj b)) (hz : b.size ≤ sizeLine)
    (hQ : ∀ t k, Q (.bytes b t) { s with toks := k }) :
    codeAny (model prog w) A (.call (.builtin "bytes.__new__") ⟨[.type "bytes", .ref d], []⟩) (wants Q E) s := by
  refine codeAny_of_tree ?_
  show wpAny _ A.in1 (do checkBuiltinCall "bytes.__new__" ⟨[.type "bytes", .ref d], []⟩; again (.builtin "bytes.__new__" ⟨[.type "bytes", .ref d], []⟩)) _ _ s
  refine wpAny_bind (wpAny_of_eq (F.bm_newCall _) (wpAny_pure ⟨plainId_quiet F.bm_plain _, codeAny_builtin F.bm_entry ?_⟩))
  rw [Around.under_plainId F.bm_plain _]
  unfold Builtin.«bytes.__new__»
  refine wpAny_bind (wpAny_of_eq (a := true) rfl ?_)
  refine bm_if_false rfl ?_
  refine wpAny_bind (wpAny_of_eq F.bm_sub ?_)
  refine bm_if_false rfl ?_
  refine wpAny_bind (wpAny_of_eq (F.bm_bind _) ?_)
  refine wpAny_bind (wpAny_of_eq (a := ()) rfl ?_)
  refine wpAny_bind (wpAny_of_eq (a := ()) rfl ?_)
  refine bm_if_false rfl ?_
  refine wpAny_bind (wpAny_specialOf (ba_typeIs h) BF.no_bytes ?_)
  refine wpAny_bind (wpAny_bind ?_)
  show wpAny _ _ (load d >>= _) _ _ _
  refine wpAny_bind (wpAny_load h ?_)
  refine wpAny_pure (wpAny_pure ?_)
  refine bm_if_false rfl ?_
  refine wpAny_bind (wpAny_specialOf (ba_typeIs h) BF.noIdx ?_)
  refine bm_if_true rfl ?_
  first
    | show wpAny _ _ (Builtin.Bytes.buffer? "bytes.__new__" (.ref d) true >>= _) _ _ _
    | (refine wpAny_bind ?_; show wpAny _ _ (Builtin.Bytes.buffer? "bytes.__new__" (.ref d) true >>= _) _ _ _)
  refine wpAny_bind (ba_buffer h ?_)
  refine wpAny_bind (wpAny_rule ?_)
  refine wpAny_bind (wpAny_mkBytes ?_ hz)
  show wpAny _ _ (if (Value.type "bytes" == Value.type "bytes") = true then _ else _) _ _ _
  refine bm_if_true (by decide) ?_
  first
    | exact wpAny_pure (hQ _ _)
    | exact wpAny_bind (wpAny_pure (wpAny_pure (hQ _ _)))
theorem call_bytes_ba {d : Addr} {b : Array UInt8} {Q : Value → Shared → Prop} (h : s.heap.get? d = some (baObj b)) (hz : b.size ≤ sizeLine)
    (hQ : ∀ t k, Q (.bytes b t) { s with toks := k }) : wpAny (model prog w) A (call (.type "bytes") [.ref d]) Q E s := by
  refine callType_codes (Q₁ := fun obj s₁ => s₁.TypeIs obj "bytes" ∧ Q obj s₁) F.bm_called (F.bm_typeCall _) F.entry_object_init
    (bytes_new_ba h hz fun t k => ⟨typeIs_bytes _ _ _, hQ t k⟩) fun obj s₁ h₁ => ?_
  exact ⟨h₁.1, F.args_object_init_2 obj _, object_init_meets F.bm_called.init.lookup F.bm_called.made (by decide) prog w A.in1 _ s₁ ⟨h₁.1, rfl, h₁.2⟩⟩

theorem ba_new (a : Value) {Q₁ : Value → Shared → Prop}
    (h : Q₁ (.ref s.heap.objs.size) { s with heap := s.heap.push (baObj #[]) }) :
    codeAny (model prog w) A (.call (.builtin "bytearray.__new__") ⟨[.type "bytearray", a], []⟩) (wants Q₁ E) s := by
  refine codeAny_of_tree ?_
  show wpAny _ A.in1 (do checkBuiltinCall "bytearray.__new__" ⟨[.type "bytearray", a], []⟩; again (.builtin "bytearray.__new__" ⟨[.type "bytearray", a], []⟩)) _ _ s
  refine wpAny_bind (wpAny_of_eq (BF.newCall a) (wpAny_pure ⟨plainId_quiet BF.plain_new _, codeAny_builtin_stack BF.entry_new rfl fun p st => ?_⟩))
  rw [Around.under_plainId BF.plain_new _]
  have hsub := BF.sub_self
  have hown := BF.owner_new
  obtain ⟨hp, g, d, tk, os⟩ := s
  simp only [hown]
  wp_walk
  exact h

theorem wpG_of_eq {α : Type} {M : Model} {t : Sem α} {a : α} {Q : α → Shared → Prop} (h : t = pure a) (hq : Q a s) : wpG M A t Q E s := wpG_of (wpAny_of_eq h hq)
theorem wpG_if_false {α : Type} {M : Model} {c : Bool} {a b : Sem α} {Q : α → Shared → Prop} (hc : c = false) (h : wpG M A b Q E s) : wpG M A (if c = true then a else b) Q E s := by
  subst hc; exact h
theorem wpG_if_true {α : Type} {M : Model} {c : Bool} {a b : Sem α} {Q : α → Shared → Prop} (hc : c = true) (h : wpG M A a Q E s) : wpG M A (if c = true then a else b) Q E s := by
  subst hc; exact h
theorem codeG_builtin {id : String} {args : Args} {b : Builtin} {R : Result → Shared → Prop} (hb : entryFor table id = some b) (hd : Builtin.Bytes.decodersThatHold.contains id = false)
    (h : wpG (model prog w) (A.under (.builtin id args)) (b args)
      (fun fin s' => match fin with | .done f => R (.ok f) s' | .again c' => c'.quiet = true ∧ codeG (model prog w) A c' R s') (fun e s' => R (.error e) s') s) :
    codeG (model prog w) A (.builtin id args) R s := by
  refine codeG_of_tree hd ?_
  show wpG _ _ (match entryFor table id with | some b => b args | none => unsupported ((withoutEnding? id "#data").getD id)) _ _ s
  rw [hb]; exact h
theorem dite_no {c : Prop} [i : Decidable c] {α : Sort _} {a : c → α} {b : ¬c → α} (h : ¬c) : dite c a b = b h := dif_neg h
theorem no_guard {id s : String} {args : Args} (hg : (Code.builtin id args).isGuard = false) (h : guardIds.contains s = true) : ¬ id = s := by
  rintro rfl
  unfold Code.isGuard at hg
  exact Bool.noConfusion (h.symm.trans hg)
theorem exported_not {d : Addr} {c : Code} {p : Pos} (hdx : dec c = false) (hgx : c.isGuard = false) : (Builtin.Bytes.exported.match_1 (fun _ => Bool) (c, p)
    (fun v _ _ _ => Builtin.Bytes.sameRef v (.ref d)) (fun v _ _ _ => Builtin.Bytes.sameRef v (.ref d)) (fun _ v _ _ _ => Builtin.Bytes.sameRef v (.ref d)) (fun v _ _ _ => Builtin.Bytes.sameRef v (.ref d))
    (fun _ _ held _ _ => held.any (Builtin.Bytes.sameRef (.ref d))) (fun id v _ _ _ => Builtin.Bytes.sameRef v (.ref d) && Builtin.Bytes.decodersThatHold.contains id) (fun _ => false)) = false := by
  cases c with
  | builtin id args =>
    have g1 : guardIds.contains "bytearray.__contains__" = true := by decide +kernel
    have g2 : guardIds.contains "bytearray.__mod__" = true := by decide +kernel
    have g3 : guardIds.contains "bytearray.__rmod__" = true := by decide +kernel
    have g4 : guardIds.contains "_struct.pack_into.held" = true := by decide +kernel
    have g5 : guardIds.contains "bytearray.find.held" = true := by decide +kernel
    delta Builtin.Bytes.exported.match_1
    refine (dite_no (no_guard hgx g1)).trans ?_
    refine (dite_no (no_guard hgx g2)).trans ?_
    refine (dite_no (no_guard hgx g3)).trans ?_
    refine (dite_no (no_guard hgx g4)).trans ?_
    refine (dite_no (no_guard hgx g5)).trans ?_
    obtain ⟨pos, kw⟩ := args
    cases pos with
    | nil => rfl
    | cons v r => 
      show (_ && Builtin.Bytes.decodersThatHold.contains id) = false
      rw [show Builtin.Bytes.decodersThatHold.contains id = false from hdx, Bool.and_false]
  | _ => rfl
/-- no one on the stack holds it -/
theorem ba_exported {d : Addr} {Q : Bool → Shared → Prop} (hg : A.guards = some []) (hq : Q false s) : wpG (model prog w) A (Builtin.Bytes.exported (.ref d)) Q E s := by
  intro Γ p hΓ hc hb
  show Q _ s
  rw [show (((Γ.code, p) :: Γ.below).any _) = false from ?_]
  · exact hq
  · rw [List.any_eq_false]
    intro x hx
    have hdx : dec x.1 = false := by
      rcases List.mem_cons.mp hx with rfl | hx
      · exact hc
      · exact hb x hx
    have hgx : x.1.isGuard = false := by
      have hgs := hΓ.2.2.2.1 [] hg
      rw [List.append_eq_nil_iff] at hgs
      rcases List.mem_cons.mp hx with rfl | hx
      · have h1 := hgs.1
        unfold Code.guards at h1
        cases hq : Γ.code.isGuard with
        | false => rfl
        | true => rw [hq] at h1; cases h1
      · have h2 := hgs.2
        unfold guardsOf at h2
        rw [List.filter_eq_nil_iff] at h2
        have := h2 x.1 (List.mem_map_of_mem hx)
        simpa using this
    exact fun e => Bool.noConfusion ((exported_not (p := x.2) hdx hgx).symm.trans e)
end

end
-- part BA4
section
section
variable {prog : Program} {w : World} {A : Around} {E : Value → Shared → Prop} {s : Shared}
set_option maxHeartbeats 1000000 in
theorem ba_init {d : Addr} {n : Int} {t : Tok} {Q : PySem.Fin → Shared → Prop} (hg : A.guards = some []) (h : s.heap.get? d = some (baObj #[])) (h0 : 0 ≤ n) (hn : n ≤ 16777216)
    (hQ : ∀ h', h'.get? d = some (baObj (Array.replicate n.toNat 0)) → Heap.SameBut d s.heap h' → Q (.done (.ret .none)) { s with heap := h' }) :
    wpG (model prog w) A (Builtin.«bytearray.__init__» ⟨[.ref d, .int n t], []⟩) Q E s := by
  unfold Builtin.«bytearray.__init__»
  refine wpG_bind (wpG_of (ba_own_release h ?_))
  refine wpG_if_false rfl ?_
  refine wpG_bind (wpG_of_eq (BF.bind1 _) ?_)
  refine wpG_bind (wpG_of_eq (a := ()) rfl ?_)
  refine wpG_bind (wpG_of_eq (a := ()) rfl ?_)
  refine wpG_bind (wpG_bind (ba_exported hg ?_))
  refine wpG_of ?_
  refine wpAny_bind ?_
  unfold Builtin.Bytes.exportsOf
  refine wpAny_bind (wpAny_load h ?_)
  refine wpAny_pure (wpAny_pure ?_)
  refine wpG_of ?_
  refine bm_if_false rfl ?_
  refine wpAny_bind (ba_write h (Nat.zero_le _) fun h₁ hd₁ hs₁ => ?_)
  try dsimp only
  refine wpAny_bind (wpAny_of_eq (a := none) rfl ?_)
  refine bm_if_false rfl ?_
  refine wpAny_bind (wpAny_of_eq (a := ()) rfl ?_)
  have hidx : typeLookup (.type "int") "__index__" = pure (some (.builtin "int.__index__")) := by rw [typeLookup_type, builtinLookup_eq_fast]; kernel_rfl
  refine wpAny_bind (wpAny_specialOf (typeIs_int _ _ _) hidx ?_)
  refine bm_if_true rfl ?_
  refine wpAny_bind (wpAny_attempt (wpAny_of_eq (int_index n t) ?_))
  try dsimp only
  refine bm_if_false (by rw [fits_small (by omega) (by omega)]; rfl) ?_
  rw [if_neg (by omega)]
  refine bm_if_false (by rw [beq_eq_false_iff_ne]; omega) ?_
  refine bm_if_false (by unfold Builtin.Bytes.tooLong; rw [sizeLine_eq]; exact decide_eq_false (by omega)) ?_
  refine wpAny_bind (wpAny_rule ?_)
  by_cases hp : n > 0
  · rw [if_pos hp]
    refine wpAny_bind (ba_write (s := { s with heap := h₁ }) hd₁ (by rw [Array.size_replicate, sizeLine_eq]; omega) fun h₂ hd₂ hs₂ => ?_)
    exact wpAny_pure (hQ h₂ hd₂ (hs₁.trans hs₂))
  · rw [if_neg hp]
    have e : n = 0 := by omega
    subst e
    exact wpAny_pure (hQ h₁ hd₁ hs₁)

theorem call_bytearray {n : Int} {t : Tok} {Q : Value → Shared → Prop} (hg : A.guards = some []) (h0 : 0 ≤ n) (hn : n ≤ 16777216)
    (hQ : ∀ h', h'.get? s.heap.objs.size = some (baObj (Array.replicate n.toNat 0)) → Heap.SameBut s.heap.objs.size (s.heap.push (baObj #[])) h' → Q (.ref s.heap.objs.size) { s with heap := h' }) :
    wpG (model prog w) A (call (.type "bytearray") [.int n t]) Q E s := by
  obtain ⟨c, tl, hmro⟩ := BF.called.mro
  refine wpG_call (codeG_of_tree rfl (wpG_of ?_))
  show wpAny _ _ (callAny (.type "bytearray") _) _ _ _
  refine wpAny_pure ⟨Code.quiet_builtin _ (by decide +kernel), codeG_builtin F.entry_type_call (by decide +kernel) ?_⟩
  rw [Around.under_plain (weight_type_call_type "bytearray" [.int n t] []) rfl]
  unfold Builtin.«type.__call__»
  refine wpG_if_false rfl ?_
  refine wpG_if_false BF.called.canCreate ?_
  refine wpG_bind (wpG_of_eq (BF.typeCall _) ?_)
  refine wpG_bind (wpG_of_eq hmro ?_)
  refine wpG_if_false rfl ?_
  refine wpG_bind (wpG_of_eq BF.called.made ?_)
  refine wpG_bind (wpG_pure ?_)
  refine wpG_bind (wpG_holding (wpG_of (wpAny_call (ba_new _ ?_))))
  have hd : (s.heap.push (baObj #[])).get? s.heap.objs.size = some (baObj #[]) := Heap.get?_push_size _ rfl
  refine wpG_bind (wpG_of (wpAny_isInstance (T := "bytearray") (b := true) ⟨_, hd, rfl⟩ BF.sub_self ?_))
  refine wpG_if_false rfl ?_
  refine wpG_bind (wpG_holding ?_)
  unfold callSpecial?
  refine wpG_bind (wpG_of (wpAny_specialOf (T := "bytearray") ⟨_, hd, rfl⟩ BF.slot_init.lookup ?_))
  refine wpG_holding ?_
  refine wpG_bind (wpG_of_eq (BF.slot_init.bind _) ?_)
  refine wpG_bind (wpG_call (codeG_of_tree rfl ?_))
  show wpG _ _ (do checkBuiltinCall "bytearray.__init__" _; again (.builtin "bytearray.__init__" _)) _ _ _
  refine wpG_bind (wpG_of (BF.slot_init.check _ _ _ _ _ _ _ _ ⟨_, hd, rfl⟩ (BF.args_init _ _) ?_))
  refine wpG_pure ⟨plainId_quiet BF.plain_init _, codeG_builtin BF.entry_init (by decide +kernel) ?_⟩
  refine ba_init (s := { s with heap := s.heap.push (baObj #[]) }) ?_ hd h0 hn fun h' hd' hs' => ?_
  · rw [Around.under_plainId BF.plain_init _]; exact hg
  · dsimp only
    refine wpG_pure ?_
    refine wpG_if_false rfl ?_
    exact wpG_pure (hQ h' hd' hs')
end

end
-- part D3
section
section
variable {M : Model} {A : Around} {E : Value → Shared → Prop} {s : Shared} {env : Env}
theorem wpG_execs_cons {st : Stmt} {rest : List Stmt} {Q : Flow → Shared → Prop}
    (h : wpG M A (exec st env) (fun f s' => match f with | .next => wpG M A (execs rest env) Q E s' | f => Q f s') E s) :
    wpG M A (execs (st :: rest) env) Q E s := fun Γ p hΓ hc hb => by
  rw [execs_cons, Sem.wp_bind']
  refine Sem.wp_mono M Γ _ (fun f p' s' h' => ?_) (fun _ _ _ h' => h') _ _ (h Γ p hΓ hc hb)
  cases f <;> first | exact h' Γ p' hΓ hc hb | exact h'
theorem wpG_Assign_Name {x : Str} {pos' pos : Pos} {value : Expr} {Q : Flow → Shared → Prop}
    (h : wpG M A (eval value env) (fun v s₁ => wpAny M A (storeName env x v) (fun _ => Q .next) E s₁) E s)
    (hs : swapsWith value (some (.Name x pos')) pos.line env = pure false := by rfl) :
    wpG M A (exec (.Assign [.Name x pos'] value pos) env) Q E s := fun Γ p hΓ hc hb => by
  simp only [exec_Assign_Name env x pos' value pos hs, Sem.wp_bind', Sem.wp_cmd_standAt, Sem.wp_bindName, Sem.wp_pure']
  exact Sem.wp_mono M Γ _ (fun v _ s₁ h₁ => h₁ Γ _ hΓ) (fun _ _ _ h' => h') _ _ (h Γ _ hΓ hc hb)
theorem wpG_Call_Name {id : Str} {p pos : Pos} {args : List Expr} {Q : Value → Shared → Prop}
    (h : wpAny M A (eval (.Name id p) env) (fun f s₁ => wpG M A (callWith pos f [] (backTo pos (starEach args env)) []) Q E s₁) E s) :
    wpG M A (eval (.Call (.Name id p) args [] pos) env) Q E s := by
  rw [arm_eval_Call_Name']
  exact wpG_bind (wpG_of h)
theorem wpG_spliced_nil {Q : List Value → Shared → Prop} (h : Q [] s) : wpG M A (spliced []) Q E s := wpG_pure h
theorem wpG_spliced_cons {x : Sem Value} {rest : List (Bool × Sem Value)} {Q : List Value → Shared → Prop}
    (h : wpG M A x (fun v s₁ => wpG M A (spliced rest) (fun vs s₂ => Q (v :: vs) s₂) E s₁) E s) : wpG M A (spliced ((false, x) :: rest)) Q E s := by
  rw [spliced]
  refine wpG_bind (wpG_mono h (fun v s₁ h₁ => ?_) fun _ _ e => e)
  refine wpG_if_false rfl ?_
  refine wpG_bind (wpG_pure ?_)
  exact wpG_bind (wpG_holding (wpG_mono h₁ (fun vs s₂ h₂ => wpG_pure h₂) fun _ _ e => e))
theorem wpG_evalArgs {f : Value} {x : Sem Value} {rest : List (Bool × Sem Value)} {Q : Args → Shared → Prop}
    (h : wpG M A (spliced ((false, x) :: rest)) (fun vs s' => Q ⟨vs, []⟩ s') E s) : wpG M A (evalArgs f true ((false, x) :: rest) []) Q E s := by
  unfold evalArgs
  show wpG M A (spliced ((false, x) :: rest) >>= _) Q E s
  refine wpG_bind (wpG_mono h (fun vs s' h' => ?_) fun _ _ x => x)
  refine wpG_holding ?_
  exact wpG_bind (wpG_pure (wpG_bind (wpG_pure (wpG_pure h'))))
theorem wpG_operate {vs : List Value} {m : Sem Value} {Q : Value → Shared → Prop} (h : wpG M A m Q E s) : wpG M A (operate vs m) Q E s := fun Γ p hΓ hc hb => by
  rw [Sem.wp_operate]; exact h Γ p hΓ hc hb
theorem wpG_callWith {P : Heap → Prop} {pos : Pos} {f : Value} {first : List Value} {args : List (Bool × Sem Value)} {Q : Value → Shared → Prop} (hplain : args.any (·.1) = false)
    (hk : ∀ h, P h → ∃ k, (k = Keeper.frame ∨ k = Keeper.machine ∨ k = Keeper.boundFrame) ∧ Looks M h (keeperOf f) k)
    (h : wpG M A (evalArgs f true args []) (fun a s₁ => P s₁.heap ∧ wpG M A (call f (first ++ a.pos) a.kw) Q E s₁) E s) : wpG M A (callWith pos f first args []) Q E s := by
  unfold callWith
  refine wpG_bind (wpG_holding (wpG_mono h (fun a s₁ h₁ => wpG_bind (wpG_standAt ?_)) fun _ _ x => x))
  obtain ⟨k, hk', L⟩ := hk _ h₁.1
  simp only [hplain]
  refine wpG_bind (wpG_of (L.here ?_))
  have tail : ∀ {t : Sem Value}, wpG M A t Q E s₁ → wpG M A (t >>= fun r => holding [r] point >>= fun _ => pure r) Q E s₁ :=
    fun ht => wpG_bind (wpG_mono ht (fun r s₂ hr => wpG_bind (wpG_holding (wpG_of (wpAny_point (wpG_pure hr))))) fun _ _ x => x)
  have marked (mk : Value) : wpG M A (callMarked mk f (first ++ a.pos) a.kw) Q E s₁ := by unfold callMarked; exact wpG_keep h₁.2
  rcases hk' with rfl | rfl | rfl <;> repeat' split
  all_goals first | exact tail h₁.2 | exact tail (marked _) | exact tail (wpG_operate h₁.2)
end

section
variable {prog : Program} {w : World} {A₀ A : Around} {s : Shared} {base h₀ : Heap} {outer : List Env} {L : Addr} {m mg mb : Str → Option Value} {env : Env} {news : List (Addr × Obj)} {K : Frag} {p : Program} {loose : List Str} {mean : ExcName → Option Value}
theorem defG {R : Result → Shared → Prop} {name qual : Str} {params : Arguments} {body : List Stmt} {scope : Scope} {dV kV doc pm cdv ct oc : Value} {an od : Option Addr} {osl : Array (Option Value)} {f : Addr} {args : Args} {binds : List (Str × Value)}
    (B : Below A₀ base outer h₀) (F : Fr h₀ L s.heap m) (X₀ : K.In h₀) (N : News h₀ L s.heap news) (T : Top p loose mean mg mb h₀) (hA : A.frames = some (env :: outer)) (hf : env.frame = some L) (hke : env.scope.kind = .function)
    (ho : K.lookup f = some ⟨oc, od, .func (fnOf name qual params body scope dV kV doc pm an cdv ct), osl⟩) (hcd : codeIn K cdv qual = true) (hroom : A.depth < recursionLimit)
    (hbind : BindsTo s (fnOf name qual params body scope dV kV doc pm an cdv ct) args binds) (hloc : ∀ y ∈ binds, scope.names.lookup y.1 = some .local)
    (h : ∀ g L' h₁, Fr h₀ L g m → Fr g L' h₁ (fun y => binds.reverse.lookup y) → News g L' h₁ news → Below A base (env :: outer) g → K.In g → Top p loose mean mg mb g →
      wpG (model prog w) (A.deeper (envOf qual scope L' f cdv)) (execs body (envOf qual scope L' f cdv))
        (fun fl s' => LeaveK h₀ L m g R (match fl with | .ret v => v | _ => .none) s')
        (fun e s' => wpAny (model prog w) (A.deeper (envOf qual scope L' f cdv)) (leaving (envOf qual scope L' f cdv) e) (fun _ s'' => R (.error e) s'') (fun e' s'' => R (.error e') s'') s')
        { s with heap := h₁, toks := s.toks + binds.length })
    (hco : scope.isCoroutine = false) (hgen : scope.isGenerator = false) (hk : scope.kind = .function)
    (hcell : ∀ x ∈ scope.names, x.2 ≠ .cell) : codeG (model prog w) A (.call (.ref f) args) R s := by
  obtain ⟨FG, BG, st, lv⟩ := groundX (R := R) B F N hA hf hke
  have hlim : s.heap.NoLimit := T.nolimit.keeps F.keep
  refine codeG_call_function (fd := fnOf name qual params body scope dV kV doc pm an cdv ct) hroom ((X₀.keeps F.keep) _ _ ho) rfl hco hgen rfl (codeRec_of (X₀.keeps F.keep) hcd) (hbind _ _ _ _ ?_)
  refine wpAny_newFunctionEnv hcell hloc (fun h₁ hns hsb => ⟨hlim.fresh _ hsb, codeG_func ?_⟩) hk
  have hk₁ : ∀ b o, s.heap.get? b = some o → h₁.get? b = some o := fun b o e => hsb.extBut b o (Nat.ne_of_lt (Heap.lt_size e)) (Heap.get?_push_of_some _ e)
  exact wpG_mono (h _ s.heap.objs.size h₁ FG ⟨hns, fun b o e => hk₁ b o (of_hideAll _ e), Nat.le_of_eq (hideAll_size _ _)⟩
    (fun p hp => ⟨hk₁ _ _ (N p hp).1, Nat.ne_of_lt (Heap.lt_size (N p hp).1), hideAll_none _ (List.mem_map_of_mem hp)⟩) BG (X₀.keeps st) (T.keeps st)) (fun fl s' hl => lv _ _ hl) fun _ _ y => y
end

end
-- part Lp
section
section
variable {prog : Program} {w : World} {A : Around} {E : Value → Shared → Prop} {s : Shared} {env : Env} {h₀ : Heap} {x : Str} {body : List Stmt} {Q : Flow → Shared → Prop}
/-- a goal at which the walk halts -/
def Hold (P : Prop) : Prop := P
theorem For_hold {m : Str → Option Value} {px pos : Pos} {iter : Expr} (F : Fr h₀ env.locals s.heap m) (hx : env.kindOf x = some .local)
    (hp : (env.scope.kind == .class || (env.scope.kind == .module && env.locals != env.globals)) = false)
    (h : wpAny (model prog w) A (eval iter env) (fun xv s₁ => Hold (wpAny (model prog w) A (pyIter xv) (fun it s₂ => LoopAtV prog w A h₀ env x body Q E it s₂) E s₁)) E s)
    (hs : ∀ x, foldedSetIterable iter env x = pure x := by intro _; rfl)
    (hE : PassesOwn (model prog w) A env E := by passes_own) :
    wpAny (model prog w) A (exec (.For (.Name x px) iter body [] pos) env) Q E s := For_invVF F hx hp h hs hE
theorem iter_rangeJ {r : Addr} {a₀ b₀ c₀ : Int} {t₀ u₀ v₀ : Tok} {n : Nat} {m₀ : Str → Option Value} {news : List (Addr × Obj)} (J : Nat → (Str → Option Value) → List (Addr × Obj) → Prop)
    (hh : A.handled = none) (hr : IsRange s.heap r a₀ b₀ c₀ t₀ u₀ v₀) (hsmall : Builtin.Range.small a₀ b₀ c₀ = true) (hn : Builtin.Range.rangeSize a₀ b₀ c₀ = (n : Int)) (F : Fr h₀ env.locals s.heap m₀) (N : News h₀ env.locals s.heap news) (hj : J 0 m₀ news)
    (turn : ∀ i t m₁ news₁ h tk own, i < n → news₁.map (·.1) = news.map (·.1) → OwnOff own (news.map (·.1)) → J i m₁ news₁ → Fr h₀ env.locals h (fun y => if y = x then some (.int (a₀ + (i : Nat) * c₀) t) else m₁ y) → News h₀ env.locals h (news₁ ++ own) →
      wpAny (model prog w) A (execs body env) (InvPostN h₀ env.locals (J (i + 1)) own (news.map (·.1)) { s with heap := h, toks := tk } Q) E { s with heap := h, toks := tk })
    (done : ∀ m₁ news₁ h tk, J n m₁ news₁ → Fr h₀ env.locals h m₁ → News h₀ env.locals h news₁ → Q .next { s with heap := h, toks := tk }) :
    wpAny (model prog w) A (pyIter (.ref r)) (fun it s₂ => LoopAtV prog w A h₀ env x body Q E it s₂) E s := by
  refine wpAny_pyIter_range hr hsmall ?_
  have W : Walks prog w A s.heap.objs.size [s.heap.objs.size] [s.heap.objs.size] n (fun i v => i < n ∧ ∃ t, v = .int (a₀ + i * c₀) t)
      (fun i h => IsRangeIter h s.heap.objs.size (a₀ + (i : Nat) * c₀) ((n : Int) - (i : Nat)) c₀) := (Walks.range hh _ a₀ c₀ n).bound
  refine loop_invN J W ?_ ?_ ?_ ?_ (by show IsRangeIter _ _ _ _ _; rw [hn]; simpa using Heap.get?_push_size _ rfl) (F.push _) (fun p hp => ⟨Heap.get?_push_of_some _ (N p hp).1, (N p hp).2⟩) hj ?_ ?_
  · intro hm
    exact absurd F.ns.lt ((List.mem_singleton.mp hm) ▸ Nat.lt_irrefl _)
  · intro b hb
    rw [List.mem_singleton.mp hb]
    exact next_is_new F
  · intro p hp hI
    exact absurd (Heap.lt_size (N p hp).1) ((List.mem_singleton.mp hI) ▸ Nat.lt_irrefl _)
  · intro p hp hI
    exact absurd (Heap.lt_size (N p hp).1) ((List.mem_singleton.mp hI) ▸ Nat.lt_irrefl _)
  · rintro i v m₁ news₁ h tk own hi ⟨_, t, rfl⟩ ha hoff hJ F₁ N₁
    exact turn i t m₁ news₁ h tk own hi ha hoff hJ F₁ N₁
  · intro m₁ news₁ h tk hJ F₁ N₁
    exact done m₁ news₁ h tk hJ F₁ N₁
end
/-- the octets turned about up to k -/
def turned (x : List UInt8) (k : Nat) : Array UInt8 := (List.replicate (x.length - k) 0 ++ (x.take k).reverse).toArray
theorem turned_zero (x : List UInt8) : turned x 0 = Array.replicate x.length 0 := by
  unfold turned
  simp
theorem turned_all (x : List UInt8) : turned x x.length = x.reverse.toArray := by
  unfold turned
  simp
theorem turned_size (x : List UInt8) {k : Nat} (h : k ≤ x.length) : (turned x k).size = x.length := by
  unfold turned
  simp
  rw [Nat.min_eq_left h, Nat.sub_add_cancel h]
theorem turned_step (x : List UInt8) {k : Nat} (h : k < x.length) : (turned x k).setIfInBounds (x.length - 1 - k) (x.getD k 0) = turned x (k + 1) := by
  unfold turned
  rw [List.setIfInBounds_toArray]
  congr 1
  have e1 : x.length - k = (x.length - (k + 1)) + 1 := sub_pred h
  have e2 : x.length - 1 - k = x.length - (k + 1) := by rw [Nat.sub_sub, Nat.add_comm]
  rw [e1, e2, List.replicate_succ', List.append_assoc]
  rw [List.set_append_right _ _ (by simp)]
  simp only [List.length_replicate, Nat.sub_self, List.singleton_append, List.set_cons_zero]
  congr 1
  have e3 : x.take (k + 1) = x.take k ++ [x[k]] := by rw [List.take_add_one, List.getElem?_eq_getElem h]; rfl
  have e4 : x.getD k 0 = x[k] := by rw [List.getD_eq_getElem?_getD, List.getElem?_eq_getElem h]; rfl
  rw [e3, e4, List.reverse_append]
  rfl
theorem ba_made {prog : Program} {w : World} {A : Around} {E : Value → Shared → Prop} {s : Shared} {g : Heap} {L : Addr} {m : Str → Option Value} {news : List (Addr × Obj)} {n : Int} {t : Tok} {Q : Value → Shared → Prop}
    (F : Fr g L s.heap m) (N : News g L s.heap news) (hg : A.guards = some []) (h0 : 0 ≤ n) (hn : n ≤ 16777216)
    (hQ : ∀ d h', Fr g L h' m → News g L h' ((d, baObj (Array.replicate n.toNat 0)) :: news) → (∀ p ∈ news, p.1 ≠ d) → Q (.ref d) { s with heap := h' }) :
    wpG (model prog w) A (call (.type "bytearray") [.int n t]) Q E s :=
  call_bytearray hg h0 hn fun h' hd hs => hQ _ h' (F.filled hs) (News.filled F N hs hd) N.apart
theorem ba_put {prog : Program} {w : World} {A : Around} {E : Value → Shared → Prop} {s : Shared} {g : Heap} {L : Addr} {m : Str → Option Value} {d : Addr} {news : List (Addr × Obj)} {x : List UInt8} {k v : Int} {j : Nat} {t u : Tok} {Q : Unit → Shared → Prop}
    (F : Fr g L s.heap m) (N : News g L s.heap ((d, baObj (turned x j)) :: news)) (hap : ∀ p ∈ news, p.1 ≠ d) (hj : j < x.length) (hlen : x.length ≤ 5000) (hk : k = (x.length : Int) - 1 - (j : Nat)) (hv : v = (((x.getD j 0).toNat : Nat) : Int))
    (hQ : ∀ h', Fr g L h' m → News g L h' ((d, baObj (turned x (j + 1))) :: news) → Q () { s with heap := h' }) :
    wpAny (model prog w) A (setItem (.ref d) (.int k t) (.int v u)) Q E s := by
  have hz := turned_size x (Nat.le_of_lt hj)
  have hb : (x.getD j 0).toNat < 256 := (x.getD j 0).toBitVec.isLt
  refine ba_set (N _ (.head _)).1 (by omega) (by rw [hz]; omega) (by omega) (by rw [hz, sizeLine_eq]; omega) (by omega) (by omega) fun h' hd hs => ?_
  have e : (turned x j).setIfInBounds k.toNat v.toNat.toUInt8 = turned x (j + 1) := by
    rw [← turned_step x hj]
    congr 1
    · omega
    · rw [hv]; simp
  rw [e] at hd
  exact hQ h' (F.change hs (N _ (.head _)).2.1 (N _ (.head _)).2.2) (N.setHead hap hs hd)
theorem rangeSize_nat' {n : Int} (h : 0 ≤ n) : Builtin.Range.rangeSize 0 n 1 = ((n.toNat : Nat) : Int) := by
  rw [rangeSize_one]; split <;> omega
theorem mapAB {a b : Str} {m₁ m₀ : Str → Option Value} {v : Option Value} (hm : ∀ z, z ≠ a → z ≠ b → m₁ z = m₀ z) :
    (fun y => if y = a then v else m₁ y) = fun y => if y = a then v else if y = b then m₁ y else m₀ y := by
  funext y
  by_cases h1 : y = a
  · rw [if_pos h1, if_pos h1]
  · rw [if_neg h1, if_neg h1]
    by_cases h2 : y = b
    · rw [if_pos h2]
    · rw [if_neg h2]; exact hm y h1 h2
theorem mapA {a : Str} {m₁ m₀ : Str → Option Value} {v : Option Value} (hm : ∀ z, z ≠ a → m₁ z = m₀ z) :
    (fun y => if y = a then v else m₁ y) = fun y => if y = a then v else m₀ y := by
  funext y
  by_cases h1 : y = a
  · rw [if_pos h1, if_pos h1]
  · rw [if_neg h1, if_neg h1]; exact hm y h1
theorem mapA' {a : Str} {m₁ m₀ : Str → Option Value} (hm : ∀ z, z ≠ a → m₁ z = m₀ z) :
    m₁ = fun y => if y = a then m₁ y else m₀ y := by
  funext y
  by_cases h1 : y = a
  · rw [if_pos h1]
  · rw [if_neg h1]; exact hm y h1
theorem mapAB' {a b : Str} {m₁ m₀ : Str → Option Value} (hm : ∀ z, z ≠ a → z ≠ b → m₁ z = m₀ z) :
    m₁ = fun y => if y = a then m₁ y else if y = b then m₁ y else m₀ y := by
  funext y
  by_cases h1 : y = a
  · rw [if_pos h1]
  · rw [if_neg h1]
    by_cases h2 : y = b
    · rw [if_pos h2]
    · rw [if_neg h2]; exact hm y h1 h2
theorem one_turn {n a : Int} (h : a = n) (h1 : 1 ≤ n) : Builtin.Range.rangeSize 0 a n = ((1 : Nat) : Int) := by
  subst h
  unfold Builtin.Range.rangeSize
  rw [if_pos (by omega), if_pos (by omega), Int.ediv_eq_zero_of_lt (by omega) (by omega)]
  rfl
theorem small_n {n a : Int} (h : a = n) (h1 : 1 ≤ n) (h2 : n ≤ 5000) : Builtin.Range.small 0 a n = true := by
  have e := one_turn h h1
  unfold Builtin.Range.small
  rw [e]
  simp only [Builtin.Range.rangeFitsLong, Bool.and_eq_true, Bool.or_eq_true, decide_eq_true_eq, beq_iff_eq]
  rw [if_pos (show n > 0 by omega)]
  simp only [Bool.and_eq_true, decide_eq_true_eq]
  omega
def J1 (x : List UInt8) (d : Addr) (news : List (Addr × Obj)) (m₀ : Str → Option Value) (i : Nat) (m : Str → Option Value) (nx : List (Addr × Obj)) : Prop :=
  nx = (d, baObj (turned x (if i = 0 then 0 else x.length))) :: news ∧ ∀ z : Str, z ≠ "i" → z ≠ "j" → m z = m₀ z
theorem J1_start {x : List UInt8} {d : Addr} {news : List (Addr × Obj)} {m₀ : Str → Option Value} : J1 x d news m₀ 0 m₀ ((d, baObj (turned x 0)) :: news) := ⟨rfl, fun _ _ _ => rfl⟩
def J2 (x : List UInt8) (d : Addr) (news : List (Addr × Obj)) (m₀ : Str → Option Value) (k : Nat) (m : Str → Option Value) (nx : List (Addr × Obj)) : Prop :=
  nx = (d, baObj (turned x k)) :: news ∧ ∀ z : Str, z ≠ "j" → m z = m₀ z
theorem J2_start {x : List UInt8} {d : Addr} {news : List (Addr × Obj)} {m₀ : Str → Option Value} : J2 x d news m₀ 0 m₀ ((d, baObj (turned x 0)) :: news) := ⟨rfl, fun _ _ => rfl⟩

end
-- part Sw
section
section
theorem lines6 : True := by
  k_with_none
  k_with "for_hold" => ((k_here; (rename Fr _ _ _ _ => lF'); (with_unfolding_all refine' For_hold lF' (by exact rfl) (by exact rfl) ?_; k_whole)))
  k_with "clean_enter" => ((refine' defG ?k1 ?k2 ?k3 ?k4 ?k5 ?kA ?kF ?kK ?k6 ?k7 ?k8 ?k9 ?kB ?_ ?c2 ?c3 ?c4 ?c5; (case kA => exact rfl); (case kF => exact rfl); (case kK => assumption); (case k1 => k_asm); (case k2 => k_asm); (case k3 => k_asm); (case k4 => k_asm); (case k5 => k_asm); (case k6 => k_is); (case k7 => k_is); (case k8 => ktr_room); (case k9 => exact BindsTo.of_eq rfl); (case c5 => decide); (case kB => exact locs rfl); (case c2 => exact rfl); (case c3 => exact rfl); (case c4 => exact rfl); k_whole; intro g' L' h' FG' F' N' B' X' T'; (try dsimp only); (try k_lift B'); (try k_fold)))
  k_with "exec For Name Call cons nil" => (k_extra "for_hold")
  k_with "subscriptTail" => ((k_here; (with_reducible show wpAny _ _ (subscriptTail _ _ (Value.bytes (List.toArray _) _) (Value.int _ _)) _ _ _); k_dflt (refine' bytes_item_K (by omega) (by omega) (by omega) (by exact rfl) ?_; k_whole)))
  exact True.intro
set_option maxRecDepth 100000 in
set_option maxHeartbeats 8000000 in
theorem swap_sum {w : World} {p : Program} {loose : List Str} {mean : ExcName → Option Value} {mg mb : Str → Option Value} {dp un : Nat} {gd : Option (List Code)} {cn : Str} {cs : Scope} {a : Addr} {ccd : Value} {cl : List (Str × Addr)} {outer : List Env} {A₀ : Around} {base h₀ : Heap} {L : Addr} {m : Str → Option Value} {news : List (Addr × Obj)} {s : Shared} {Q E : Value → Shared → Prop}
    (B : Below A₀ base outer h₀) (F : Fr h₀ L s.heap m) (X : (Mine.hd.heap_39 w.params).In h₀) (N : News h₀ L s.heap news) (T : Top p loose mean mg mb h₀) (hk : cs.kind = .function) (hd : dp + 8 < recursionLimit) (hu : un + 80 < cLine)
    (hgd : gd = some []) (x : List UInt8) (n : Int) (t t2 : Tok) (hn : n = x.length) (h1 : 1 ≤ n) (hlen : n ≤ 5000)
    (ret : ∀ t h' tk', Fr h₀ L h' m → News h₀ L h' news → Q (.bytes x.reverse.toArray t) {s with heap := h', toks := tk'}) :
    wpG (model PySem.Challenge.rw_zn0009_01.row.prog w) (ktrTop dp un gd cn cs L a ccd cl outer) (call (.ref 42) [.bytes x.toArray t, .int n t2]) Q E s := by
  revert X
  k_fill
  intro X
  refine wpG_call ?_
  k_dflt k_extra "clean_enter"
  refine wpG_execs_cons ?_
  refine wpG_Assign_Name ?_
  refine wpG_Call_Name ?_
  k_steps
  refine wpG_callWith (P := fun _ => True) rfl (fun h _ => ⟨.machine, .inr (.inl rfl), Looks.of_pure rfl⟩) (wpG_evalArgs (wpG_spliced_cons (wpG_if_false rfl (wpG_of ?_))))
  k_steps
  refine wpG_spliced_nil ⟨trivial, ?_⟩
  (rename Fr _ _ _ _ => Fa)
  (rename News _ _ _ _ => Na)
  refine ba_made Fa Na hgd (by omega) (by rw [List.size_toArray]; omega) (fun Ad h2 Fb Nb hap => ?_)
  have ez : baObj (Array.replicate ((x.toArray.size : Nat) : Int).toNat 0) = baObj (turned x 0) := by rw [turned_zero]; simp
  rw [ez] at Nb
  clear Fa Na
  k_steps
  refine wpG_of ?_
  k_steps
  unfold Hold
  (rename IsRange _ _ _ _ _ _ _ _ => rg)
  (rename Fr _ _ _ _ => Fc)
  (rename News _ _ _ _ => Nc)
  rw [hn] at rg
  refine iter_rangeJ (J1 x _ news _) rfl rg (small_n (by simp) (by omega) (by omega)) (one_turn (by simp) (by omega)) Fc Nc J1_start ?_ ?_
  · rintro i ti m₁ nx h3 tk3 own hi ha hoff ⟨rfl, hm⟩ F3 N3
    obtain rfl : i = 0 := by omega
    rw [if_pos rfl] at N3
    rw [mapAB hm] at F3
    clear hm ha Fc Nc rg
    k_steps
    unfold Hold
    (rename IsRange _ _ _ _ _ _ _ _ => rg)
    (rename Fr _ _ _ _ => Fd)
    (rename News _ _ _ _ => Nd)
    rw [List.cons_append] at Nd
    have hap2 : ∀ p ∈ news ++ own, p.1 ≠ Ad := fun p hp => (List.mem_append.mp hp).elim (hap p) fun h => hoff p h _ (.head _)
    refine iter_rangeJ (J2 x _ (news ++ own) _) rfl rg (small_one (by omega) (by omega) (by omega) (by omega)) (n := x.length) (by rw [rangeSize_nat' (by omega)]; omega) Fd Nd J2_start ?_ ?_
    · rintro k tk4 m₂ nx h4 tk4' own4 hk4 ha4 hoff4 ⟨rfl, hm4⟩ F4 N4
      rw [mapA hm4] at F4
      clear hm4 ha4 Fd Nd rg
      k_steps
      (rename Fr _ _ _ _ => Fe)
      (rename News _ _ _ _ => Ne)
      rw [List.cons_append] at Ne
      refine ba_put (j := k) Fe Ne ?_ (by omega) (by omega) (by omega) ?_ (fun h5 F5 N5 => ?_)
      · intro p hp
        exact (List.mem_append.mp hp).elim (hap2 p) fun h => hoff4 p h _ (.head _)
      · congr 3; omega
      · clear Fe Ne
        dsimp only
        refine wpAny_execs_nil ?_
        refine InvEndN.intro (nx := (Ad, baObj (turned x (k + 1))) :: (news ++ own)) F5 N5 ⟨rfl, ?_⟩ rfl ?_ ?_
        · intro z h1
          simp only [h1, if_false]
        · intro p hp
          rcases List.mem_cons.mp hp with rfl | hp
          · exact .head _
          · exact .tail _ (List.mem_append_left _ hp)
        · intro p hp
          exact .tail _ (List.mem_append_right _ hp)
    · rintro m₂ nx h4 tk4 ⟨rfl, hm4⟩ F4 N4
      clear Fd Nd rg
      refine wpAny_execs_nil ?_
      refine InvEndN.intro (nx := (Ad, baObj (turned x x.length)) :: news) F4 N4 ⟨rfl, ?_⟩ rfl ?_ ?_
      · intro z h1 h2
        rw [hm4 z h2]
        simp only [h1, h2, if_false]
      · intro p hp
        rcases List.mem_cons.mp hp with rfl | hp
        · exact .head _
        · exact .tail _ (List.mem_append_left _ hp)
      · intro p hp
        exact .tail _ (List.mem_append_right _ hp)
  · rintro m₁ nx h3 tk3 ⟨rfl, hm⟩ F3 N3
    rw [mapAB' hm] at F3
    rw [if_neg (by decide)] at N3
    clear hm Fc Nc rg
    k_steps
    refine call_bytes_ba (N3 _ (.head _)).1 (by rw [turned_size x (Nat.le_refl _), sizeLine_eq]; omega) (fun t5 k5 => ?_)
    rw [turned_all]
    k_steps
    (rename Fr _ _ _ _ => Fz)
    (rename News _ _ _ _ => Nz)
    exact ret _ _ _ Fz (Nz.perm fun p hp => .tail _ hp)
end

end
-- part Cp
section
open LCg
section
variable {prog : Program} {w : World} {A : Around} {E : Value → Shared → Prop} {s : Shared} {h₀ : Heap} {L : Addr} {m : Str → Option Value} {env : Env}

theorem lines7 : True := by
  k_with_none
  k_with "for_hold" => ((k_here; (rename Fr _ _ _ _ => lF'); (with_unfolding_all refine' For_hold lF' (by exact rfl) (by exact rfl) ?_; k_whole)))
  k_with "clean_enter" => ((refine' defG ?k1 ?k2 ?k3 ?k4 ?k5 ?kA ?kF ?kK ?k6 ?k7 ?k8 ?k9 ?kB ?_ ?c2 ?c3 ?c4 ?c5; (case kA => exact rfl); (case kF => exact rfl); (case kK => assumption); (case k1 => k_asm); (case k2 => k_asm); (case k3 => k_asm); (case k4 => k_asm); (case k5 => k_asm); (case k6 => k_is); (case k7 => k_is); (case k8 => ktr_room); (case k9 => exact BindsTo.of_eq rfl); (case c5 => decide); (case kB => exact locs rfl); (case c2 => exact rfl); (case c3 => exact rfl); (case c4 => exact rfl); k_whole; intro g' L' h' FG' F' N' B' X' T'; (try dsimp only); (try k_lift B'); (try k_fold)))
  exact True.intro
/-- a comprehension's loop over any walk -/
inductive GoU (prog : Program) (w : World) (A : Around) (h₀ : Heap) (L : Addr) (m : Str → Option Value) (env : Env) (elt : Expr) (x : Str) (scope : Scope) (cl : List (Str × Addr)) (Fin : Shared → List Value → List (Addr × Obj) → Prop) (it : Value) (s₂ : Shared) : Prop
  | mk (I : Addr) (fp : List Addr) (n : Nat) (P : Nat → Value → Prop) (St : Nat → Heap → Prop) (S : List (Addr × Obj) → Prop) (news : List (Addr × Obj)) (c1 : it = .ref I) (c2 : Walks prog w A I fp [I] n P St) (c3 : n ≤ sizeLine) (c4 : (∀ i h, St i h → ∃ o, h.get? I = some o)) (c5 : (∀ i h h' o nw, St i h → h.get? I = some o → h'.get? I = some o → (∀ b o, h₀.get? b = some o → h'.get? b = some o) → News h₀ L h' nw → S nw → St i h')) (c6 : St 0 s₂.heap) (c7 : (∀ b ∈ fp, b < s₂.heap.objs.size)) (c8 : Fr h₀ L s₂.heap m) (c9 : News h₀ L s₂.heap news) (c10 : L ≠ I) (c11 : h₀.get? I = none) (c12 : (∀ p ∈ news, p.1 ≠ I)) (c13 : S news) (c14 : CompRest prog w A h₀ L m env elt x scope cl s₂ S P (Fin s₂) n 0 [] news) : GoU prog w A h₀ L m env elt x scope cl Fin it s₂

theorem ListComp_W {elt iter : Expr} {x : Str} {px : Pos} {scope : Scope} {cl : List (Str × Addr)} {pos : Pos} {Q : Value → Shared → Prop} (F₀ : Fr h₀ L s.heap m)
    (hclos : closureFor scope env = pure cl) (hcell : ∀ y ∈ scope.names, y.2 ≠ .cell) (hkind : scope.kind = .function)
    (hnames : ∀ y ∈ scope.names, y.2 = .local → scope.names.lookup y.1 = some .local) (hx : scope.names.lookup x = some .local)
    (h : wpAny (model prog w) A (eval iter env) (fun xv s₁ => Hold (wpAny (model prog w) A (pyIter xv) (GoU prog w A h₀ L m env elt x scope cl (fun s₂ => FinE h₀ L m s₂ Q)) E s₁)) E s)
    (hs : ∀ x, foldedSetIterable iter env x = pure x := by intro _; rfl) :
    wpAny (model prog w) A (eval (.ListComp elt [⟨.Name x px, iter, [], 0⟩] scope pos) env) Q E s := by
  rw [eval_ListComp]
  refine wpAny_comprehension_free (use := none) rfl hs hclos hkind hnames (wpAny_mono h (fun xv s₁ h₁ => ?_) fun _ _ e => e)
  refine wpAny_mono h₁ (fun it s₂ h₂ => ?_) fun _ _ e => e
  obtain ⟨I, fp, n, P, St, S, news, rfl, W, hsz, hIo, hSt, hst, hfp, F, N, hIL, hI₀, off, hS, R⟩ := h₂
  refine block_U W hsz hIo hSt hcell hkind hx hst hfp F N hIL hI₀ off hS R ?_
  intro D C h tk m' ys news' F' N' o1 hn hC₀ hD₀ hCL hDL hCD offC fin
  refine ⟨m', hn, fun h'' hs'' => fin D h'' tk (F'.change hs'' hCL hC₀) (fun p hp => ?_) o1⟩
  refine ⟨hs''.extBut _ _ ?_ (N' p hp).1, (N' p hp).2⟩
  rcases List.mem_cons.mp hp with rfl | hp
  · exact Ne.symm hCD
  · exact offC p hp

theorem Assign_ListComp_W {elt iter : Expr} {x y : Str} {px py : Pos} {scope : Scope} {cl : List (Str × Addr)} {pos spos : Pos} {Q : Flow → Shared → Prop} (F₀ : Fr h₀ L s.heap m) (hLe : env.locals = L)
    (hsw : swapsWith (.ListComp elt [⟨.Name x px, iter, [], 0⟩] scope pos) (some (.Name y py)) spos.line env = pure true)
    (hclos : closureFor scope env = pure cl) (hcell : ∀ z ∈ scope.names, z.2 ≠ .cell) (hkind : scope.kind = .function)
    (hnames : ∀ z ∈ scope.names, z.2 = .local → scope.names.lookup z.1 = some .local) (hx : scope.names.lookup x = some .local)
    (hy : env.kindOf y = some .local) (hp : (env.scope.kind == .class || (env.scope.kind == .module && env.locals != env.globals)) = false)
    (h : wpAny (model prog w) A (eval iter env) (fun xv s₁ => Hold (wpAny (model prog w) A (pyIter xv) (GoU prog w A h₀ L m env elt x scope cl (fun s₂ => FinA h₀ L m s₂ y Q)) E s₁)) E s)
    (hs : ∀ x, foldedSetIterable iter env x = pure x := by intro _; rfl) :
    wpAny (model prog w) A (exec (.Assign [.Name y py] (.ListComp elt [⟨.Name x px, iter, [], 0⟩] scope pos) spos) env) Q E s := by
  subst hLe
  rw [exec_Assign_Name_used _ _ _ _ hsw]
  refine wpAny_bind (wpAny_standAt (wpAny_bind ?_))
  show wpAny _ A (do let _ ← comprehension (.ListComp elt [⟨.Name x px, iter, [], 0⟩] scope pos) scope env _ (newList []) false (eval iter env) (some (assign (.Name y py) env))) _ _ s
  refine wpAny_bind (wpAny_mono (wpAny_comprehension_free (use := some (assign (.Name y py) env)) (Q := fun _ s' => Q .next s') rfl hs hclos hkind hnames
    (wpAny_mono h (fun xv s₁ h₁ => ?_) fun _ _ e => e)) (fun _ s' hq => wpAny_pure (wpAny_pure hq)) fun _ _ e => e)
  refine wpAny_mono h₁ (fun it s₂ h₂ => ?_) fun _ _ e => e
  obtain ⟨I, fp, n, P, St, S, news, rfl, W, hsz, hIo, hSt, hst, hfp, F, N, hIL, hI₀, off, hS, R⟩ := h₂
  refine block_U W hsz hIo hSt hcell hkind hx hst hfp F N hIL hI₀ off hS R ?_
  intro D C h' tk m' ys news' F' N' o1 hn hC₀ hD₀ hCL hDL hCD offC fin
  show wpAny _ A (assign (.Name y py) env (.ref D)) _ _ _
  refine wpAny_assign_Name (wpAny_storeName_local hy F'.ns (fun h₂ hn₂ hs₂ => ?_) hp)
  have hL₀ : h₀.get? env.locals = none := Heap.get?_none_of_le F'.above
  have F₂ : Fr h₀ env.locals h₂ (fun z => if z = y then some (.ref D) else m z) := ⟨hn₂, fun b o e => hs₂.extBut b o (fun q => by rw [q, hL₀] at e; cases e) (F'.keep b o e), F'.above⟩
  refine ⟨m', hn.sameBut hs₂ hCL, fun h'' hs'' => fin D h'' _ (F₂.change hs'' hCL hC₀) (fun p hp => ?_) o1⟩
  have z : h₂.get? p.1 = some p.2 := hs₂.extBut _ _ (N' p hp).2.1 (N' p hp).1
  refine ⟨hs''.extBut _ _ ?_ z, (N' p hp).2⟩
  rcases List.mem_cons.mp hp with rfl | hp
  · exact Ne.symm hCD
  · exact offC p hp

theorem goU_str {elt : Expr} {x : Str} {scope : Scope} {cl : List (Str × Addr)} {Fin : Shared → List Value → List (Addr × Obj) → Prop} {y : Str} {t : Tok} {news : List (Addr × Obj)} (hh : A.handled = none) (F : Fr h₀ L s.heap m) (N : News h₀ L s.heap news) (hz : y.cps.size ≤ 16777216)
    (R : ∀ g, CompRest prog w A h₀ L m env elt x scope cl { s with heap := g } (fun _ => True) (SignAt y) (Fin { s with heap := g }) y.cps.size 0 [] news) :
    wpAny (model prog w) A (pyIter (.str y t)) (GoU prog w A h₀ L m env elt x scope cl Fin) E s := by
  have go : ∀ (ty : String) (W : Walks prog w A s.heap.objs.size [s.heap.objs.size] [s.heap.objs.size] y.cps.size (SignAt y) (fun i h => h.IsStrIter s.heap.objs.size ty y t i)),
      GoU prog w A h₀ L m env elt x scope cl Fin (.ref s.heap.objs.size) { s with heap := s.heap.push { cls := .type ty, data := .fields #[.str y t, .int 0 0] } } := fun ty W => by
    refine ⟨_, _, _, _, _, fun _ => True, news, rfl, W, by rw [sizeLine_eq]; omega, fun i h st => by obtain ⟨o, e, _⟩ := st; exact ⟨o, e⟩, ?_, ⟨_, Heap.get?_push_size _ rfl, rfl, rfl⟩, ?_, F.push _, N.grown fun _ _ e => Heap.get?_push_of_some _ e,
      Nat.ne_of_lt F.ns.lt, next_is_new F, fun p hp => Nat.ne_of_lt (Heap.lt_size (N p hp).1), trivial, R _⟩
    · intro i h h' o nw st e e' _ _ _
      obtain ⟨o', q, r⟩ := st
      rw [e] at q; cases q
      exact ⟨o, e', r⟩
    · intro b hb
      rw [List.mem_singleton.mp hb]
      show s.heap.objs.size < (s.heap.push _).objs.size
      rw [Heap.size_push]; exact Nat.lt_succ_self _
  cases ha : y.cps.all (· < 128)
  · exact wpAny_pyIter_wide ha (go _ (Walks.strWide hh _ y t))
  · exact wpAny_pyIter_ascii ha (go _ (Walks.strAscii hh _ y t))

theorem goU_bytes {elt : Expr} {x : Str} {scope : Scope} {cl : List (Str × Addr)} {Fin : Shared → List Value → List (Addr × Obj) → Prop} {b : Array UInt8} {t : Tok} {news : List (Addr × Obj)} (hh : A.handled = none) (F : Fr h₀ L s.heap m) (N : News h₀ L s.heap news) (hz : b.size ≤ 16777216)
    (R : ∀ g, CompRest prog w A h₀ L m env elt x scope cl { s with heap := g } (fun _ => True) (fun i v => ∃ c t, b[i]? = some c ∧ v = .int (c.toNat : Int) t) (Fin { s with heap := g }) b.size 0 [] news) :
    wpAny (model prog w) A (pyIter (.bytes b t)) (GoU prog w A h₀ L m env elt x scope cl Fin) E s := by
  refine KBw.pyIter_bytes ?_
  have W := KBw.walks (prog := prog) (w := w) (A := A) hh s.heap.objs.size b t
  refine ⟨_, _, _, _, _, fun _ => True, news, rfl, W, by rw [sizeLine_eq]; omega, fun i h st => by obtain ⟨o, e, _⟩ := st; exact ⟨o, e⟩, ?_, ⟨_, Heap.get?_push_size _ rfl, rfl, rfl⟩, ?_, F.push _, N.grown fun _ _ e => Heap.get?_push_of_some _ e,
      Nat.ne_of_lt F.ns.lt, next_is_new F, fun p hp => Nat.ne_of_lt (Heap.lt_size (N p hp).1), trivial, R _⟩
  · intro i h h' o nw st e e' _ _ _
    obtain ⟨o', q, r⟩ := st
    rw [e] at q; cases q
    exact ⟨o, e', r⟩
  · intro b hb
    rw [List.mem_singleton.mp hb]
    show s.heap.objs.size < (s.heap.push _).objs.size
    rw [Heap.size_push]; exact Nat.lt_succ_self _

theorem goU_list {elt : Expr} {x : Str} {scope : Scope} {cl : List (Str × Addr)} {Fin : Shared → List Value → List (Addr × Obj) → Prop} {ax : Addr} {its : Array Value} {news : List (Addr × Obj)} (hh : A.handled = none) (F : Fr h₀ L s.heap m) (N : News h₀ L s.heap news) (S : SrcAt h₀ ax its news) (hz : its.size ≤ 16777216)
    (R : ∀ g, CompRest prog w A h₀ L m env elt x scope cl { s with heap := g } (SrcAt h₀ ax its) (fun i v => its[i]? = some v) (Fin { s with heap := g }) its.size 0 [] news) :
    wpAny (model prog w) A (pyIter (.ref ax)) (GoU prog w A h₀ L m env elt x scope cl Fin) E s := by
  have hl := S.list F.keep N
  have hlt : ax < s.heap.objs.size := by obtain ⟨_, e, _⟩ := hl; exact Heap.lt_size e
  refine wpAny_pyIter_list hl ?_
  have up : ∀ b o, s.heap.get? b = some o → (s.heap.push { cls := .type "list_iterator", data := .fields #[.ref ax, .int 0 0] }).get? b = some o := fun b o e => Heap.get?_push_of_some _ e
  refine ⟨_, _, _, _, _, SrcAt h₀ ax its, news, rfl, Walks.list hh s.heap.objs.size ax (Nat.ne_of_lt hlt) its, by rw [sizeLine_eq]; omega, (fun i h st => by obtain ⟨o, e, _⟩ := st.1; exact ⟨o, e⟩), list_st, ⟨⟨_, Heap.get?_push_size _ rfl, rfl, rfl⟩, hl.push _⟩, (fun b hb => ?_),
    F.keeps up, N.grown up, Nat.ne_of_lt F.ns.lt, next_is_new F, (fun p hp => Nat.ne_of_lt (Heap.lt_size (N p hp).1)), S, R _⟩
  show b < (s.heap.push _).objs.size
  rw [Heap.size_push]
  rcases List.mem_cons.mp hb with rfl | hb
  · exact Nat.lt_succ_self _
  · rw [List.mem_singleton.mp hb]; exact Nat.lt_succ_of_lt hlt

theorem goU_range {elt : Expr} {x : Str} {scope : Scope} {cl : List (Str × Addr)} {Fin : Shared → List Value → List (Addr × Obj) → Prop} {r : Addr} {a b : Int} {t u v : Tok} {n : Nat} {news : List (Addr × Obj)} (hh : A.handled = none) (F : Fr h₀ L s.heap m) (N : News h₀ L s.heap news)
    (hr : IsRange s.heap r a b 1 t u v) (hsm : Builtin.Range.small a b 1 = true) (hn : Builtin.Range.rangeSize a b 1 = ((n : Nat) : Int)) (hz : n ≤ 16777216)
    (R : ∀ g, CompRest prog w A h₀ L m env elt x scope cl { s with heap := g } (fun _ => True) (fun i v => ∃ t, v = .int (a + (i : Int)) t) (Fin { s with heap := g }) n 0 [] news) :
    wpAny (model prog w) A (pyIter (.ref r)) (GoU prog w A h₀ L m env elt x scope cl Fin) E s := by
  refine wpAny_pyIter_range hr hsm ?_
  refine ⟨_, _, _, _, _, fun _ => True, news, rfl, range_walks hh a n, by rw [sizeLine_eq]; omega, fun i h st => ⟨_, st⟩, range_st, (by show IsRangeIter _ _ _ _ _; rw [hn]; simpa using Heap.get?_push_size _ rfl), (fun b hb => ?_),
    F.push _, N.grown (fun _ _ e => Heap.get?_push_of_some _ e), Nat.ne_of_lt F.ns.lt, next_is_new F, (fun p hp => Nat.ne_of_lt (Heap.lt_size (N p hp).1)), trivial, R _⟩
  rw [List.mem_singleton.mp hb]
  show s.heap.objs.size < (s.heap.push _).objs.size
  rw [Heap.size_push]; exact Nat.lt_succ_self _

/-- an element that leaves the ledger as it is -/
def EltEnd (news : List (Addr × Obj)) (R : Value → Prop) (y : Value) (news' : List (Addr × Obj)) : Prop := news' = news ∧ R y
theorem comp_rest {elt : Expr} {x : Str} {scope : Scope} {cl : List (Str × Addr)} {S : List (Addr × Obj) → Prop} {P : Nat → Value → Prop} {Fin : List Value → List (Addr × Obj) → Prop} {news : List (Addr × Obj)} {n : Nat} (Rel : Nat → Value → Prop)
    (turn : ∀ i v I oI C oC D m₂ ys h tk (E' : Value → Shared → Prop), i < n → P i v → NsObj oC m₂ → m₂ x = some v → Fr h₀ L h m → News h₀ L h ((I, oI) :: (C, oC) :: (D, lst ys) :: news) → Off3 I C D news → ((@Ne Nat I C) ∧ (@Ne Nat I D) ∧ (@Ne Nat C D)) →
      wpAny (model prog w) A (eval elt (compEnvC scope cl C env)) (CompEnd h₀ L m { s with heap := h, toks := tk } I oI C oC D (lst ys) S (EltEnd news (Rel i))) E' { s with heap := h, toks := tk })
    (fin : ∀ ys, ys.length = n → (∀ i v, ys[i]? = some v → Rel i v) → Fin ys news) : CompRest prog w A h₀ L m env elt x scope cl s S P Fin n 0 [] news := by
  have key : ∀ (j i : Nat) (ys : List Value), i + j = n → ys.length = i → (∀ k v, ys[k]? = some v → Rel k v) → CompRest prog w A h₀ L m env elt x scope cl s S P Fin j i ys news := by
    intro j
    induction j with
    | zero => intro i ys hi hl hy; exact CompRest.zero (fin ys (hl.trans hi) hy)
    | succ j ih =>
      intro i ys hi hl hy
      refine CompRest.succ ?_
      intro v I oI C oC D m₂ h tk E' hv hC hx F N off ne
      refine wpAny_mono (turn i v I oI C oC D m₂ ys h tk E' (hi ▸ Nat.lt_add_of_pos_right (Nat.succ_pos j)) hv hC hx F N off ne) (fun y s₂ hq => ?_) fun _ _ e => e
      obtain ⟨h', tk', nw, e, F', N', off', hS, hn, hR⟩ := hq
      subst hn
      refine ⟨h', tk', nw, e, F', N', off', hS, ih (i + 1) _ (by rw [Nat.add_right_comm]; exact hi) (by simp [hl]) ?_⟩
      intro k v hk
      rcases snoc_at hk with ⟨-, hk⟩ | ⟨hk, hv⟩
      · exact hy k v hk
      · rw [hk, hl, ← hv]
        exact hR
  exact key n 0 [] (Nat.zero_add n) rfl (fun k v hk => by simp at hk)
end

end
-- part Cq
section
theorem ints_of : ∀ {ys : List Value} {l : List Int}, ys.length = l.length → (∀ i v, ys[i]? = some v → ∃ t : Tok, v = Value.int (l.getD i 0) t) → IntsAre ys l
  | [], [], _, _ => .nil
  | [], _ :: _, h, _ => by simp at h
  | _ :: _, [], h, _ => by simp at h
  | v :: ys, n :: l, h, hy => by
    obtain ⟨t, e⟩ := hy 0 v rfl
    subst e
    exact .cons _ t (ints_of (by simpa using h) fun i u hu => by simpa using hy (i + 1) u (by simpa using hu))
theorem strs_of : ∀ {ys : List Value} {l : List Str}, ys.length = l.length → (∀ (i : Nat) (v : Value) (y : Str), ys[i]? = some v → l[i]? = some y → ∃ t : Tok, v = Value.str y t) → StrsAre ys l
  | [], [], _, _ => .nil
  | [], _ :: _, h, _ => by simp at h
  | _ :: _, [], h, _ => by simp at h
  | v :: ys, n :: l, h, hy => by
    obtain ⟨t, e⟩ := hy 0 v n rfl rfl
    subst e
    exact .cons _ t (strs_of (by simpa using h) fun i u y hu hl => hy (i + 1) u y (by simpa using hu) (by simpa using hl))
theorem join_flat : ∀ ls : List (List Nat), Str.join (Str.ofString "") (ls.map tx) = tx ls.flatten
  | [] => rfl
  | [l] => by simp [Str.join]
  | l :: l' :: ls => by
    have e : Str.join (Str.ofString "") ((l :: l' :: ls).map tx) = tx l ++ Str.ofString "" ++ Str.join (Str.ofString "") ((l' :: ls).map tx) := rfl
    rw [e, join_flat (l' :: ls), show Str.ofString "" = tx [] by decide +kernel, tx_append, tx_append]
    simp
section
variable {prog : Program} {w : World} {A : Around} {E : Value → Shared → Prop} {s : Shared} {t : Tok} {Q : Value → Shared → Prop}
theorem call_join_flat {D : Addr} {ys : List Value} {ls : List (List Nat)} (hl : s.heap.IsList D ys.toArray) (hi : StrsAre ys (ls.map tx)) (hz : ls.flatten.length ≤ 1000000)
    (h : ∀ t' k, Q (.str (tx ls.flatten) t') { s with toks := k }) : wpAny (model prog w) A (call (.builtin "str.join") [.str (Str.ofString "") t, .ref D]) Q E s := by
  refine join_list hl hi ?_ fun t' k => ?_
  · have e1 : (Str.ofString "").length = 0 := by decide
    have e2 : ((ls.map tx).map (·.length)).sum = ls.flatten.length := by
      rw [List.length_flatten, List.map_map]
      exact congrArg _ (List.map_congr_left fun l _ => tx_length l)
    rw [e1, e2]
    omega
  · have e : Txt.join (Str.ofString "") (ls.map tx) = tx ls.flatten := by
      show Builtin.Str.glued _ _ = _
      rw [StrLaws.glued_eq_join, join_flat]
    rw [e]
    exact h t' k
end
theorem signAt_tx {x : List Nat} {i : Nat} {v : Value} (h : SignAt (tx x) i v) : ∃ u : Tok, v = Value.str (tx [x.getD i 0]) u := by
  obtain ⟨c, u, hc, rfl⟩ := h
  have hc' : x[i]? = some c := by simpa [tx] using hc
  refine ⟨u, ?_⟩
  rw [List.getD_eq_getElem?_getD, hc']
  rfl
theorem tx_cps_size (x : List Nat) : (tx x).cps.size = x.length := by simp [tx]

end
-- part Ck
section
set_option maxHeartbeats 2000000
open LCg
section
variable {M : Model} {A : Around} {E : Value → Shared → Prop} {s : Shared}
/-- a comprehension's own environment with a closure and a single cell -/
theorem newFunctionEnv_one {scope : Scope} {globals : Addr} {cl : List (Str × Addr)} {qual : Str} {env : Env} {x : Str} {Q : Env → Shared → Prop}
    (hone : ∀ n acc, cellsFrom n scope.names acc = (x, n) :: acc) (hpush : ∀ h, pushCells h scope.names = h.push { cls := .type "cell", data := .cell none })
    (hQ : ∀ h₁, h₁.Ns s.heap.objs.size (fun _ => none) → (∀ b o, s.heap.get? b = some o → h₁.get? b = some o) → h₁.get? (s.heap.objs.size + 1) = some { cls := .type "cell", data := .cell none } → h₁.objs.size = s.heap.objs.size + 2 →
      Q { scope, locals := s.heap.objs.size, globals, cells := (x, s.heap.objs.size + 1) :: cl, qual, func := none, code := env.code, frame := env.frame, builtins := env.builtins } { s with heap := h₁ }) :
    wpAny M A (newFunctionEnv scope globals cl [] qual none .none (some env)) Q E s := by
  simp only [newFunctionEnv, Option.isSome_some, if_true]
  refine wpAny_bind (wpAny_alloc ?_)
  refine wpAny_bind (wpAny_layCells _ (fun name kind cells => by cases hkc : kind == NameKind.cell <;> simp [hkc]) _ _ _ _ ?_)
  dsimp only
  rw [hone, hpush]
  simp only [List.forIn_nil]
  refine wpAny_bind (wpAny_pure (wpAny_pure ?_))
  have hsz : (s.heap.push { cls := .type "dict", data := .dict #[] }).objs.size = s.heap.objs.size + 1 := Heap.size_push ..
  rw [hsz]
  refine hQ _ ?_ ?_ ?_ ?_
  · exact (Heap.Ns.new s.heap (.type "dict")).keeps fun b o e => Heap.get?_push_of_some _ e
  · exact fun b o e => Heap.get?_push_of_some _ (Heap.get?_push_of_some _ e)
  · rw [← hsz]; exact Heap.get?_push_size _ rfl
  · rw [Heap.size_push, hsz]
end

/-- what a turn leaves -/
inductive EndK (h₀ : Heap) (L : Addr) (m : Str → Option Value) (s₁ : Shared) (hdr : List (Addr × Obj)) (S : List (Addr × Obj) → Prop) (rest : Value → List (Addr × Obj) → Prop) (y : Value) (s₂ : Shared) : Prop
  | mk (h' : Heap) (tk : Nat) (all : List (Addr × Obj)) (news' : List (Addr × Obj)) (c1 : s₂ = { s₁ with heap := h', toks := tk }) (c2 : Fr h₀ L h' m) (c3 : News h₀ L h' all) (c4 : (∀ p ∈ hdr, p ∈ all)) (c5 : (∀ p ∈ news', p ∈ all)) (c6 : (∀ p ∈ news', ∀ q ∈ hdr, p.1 ≠ q.1)) (c7 : S news') (c8 : rest y news') : EndK h₀ L m s₁ hdr S rest y s₂
theorem EndK.intro {h₀ : Heap} {L : Addr} {m : Str → Option Value} {s₁ : Shared} {hdr : List (Addr × Obj)} {S : List (Addr × Obj) → Prop} {rest : Value → List (Addr × Obj) → Prop} {y : Value} {h' : Heap} {tk : Nat} {all : List (Addr × Obj)}
    (F : Fr h₀ L h' m) (N : News h₀ L h' all) (news' : List (Addr × Obj)) (hd : ∀ p ∈ hdr, p ∈ all) (sub : ∀ p ∈ news', p ∈ all) (off : ∀ p ∈ news', ∀ q ∈ hdr, p.1 ≠ q.1) (hS : S news') (r : rest y news') :
    EndK h₀ L m s₁ hdr S rest y { s₁ with heap := h', toks := tk } := ⟨h', tk, all, news', rfl, F, N, hd, sub, off, hS, r⟩
def RestK (prog : Program) (w : World) (A : Around) (h₀ : Heap) (L : Addr) (m : Str → Option Value) (env : Env) (elt : Expr) (x : Str) (scope : Scope) (cl : List (Str × Addr)) (s : Shared) (S : List (Addr × Obj) → Prop) (P : Nat → Value → Prop)
    (Fin : List Value → List (Addr × Obj) → Prop) (I C D K : Addr) : Nat → Nat → List Value → List (Addr × Obj) → Prop
  | 0, _, ys, news => Fin ys news
  | k + 1, i, ys, news => ∀ v oI oC oK m₂ h tk (E' : Value → Shared → Prop), P i v → NsObj oC m₂ → oK.data = .cell (some v) → Fr h₀ L h m → News h₀ L h ((I, oI) :: (C, oC) :: (D, lst ys) :: (K, oK) :: news) → (∀ p ∈ news, p.1 ≠ I ∧ p.1 ≠ C ∧ p.1 ≠ D ∧ p.1 ≠ K) →
      wpAny (model prog w) A (eval elt (compEnvC scope ((x, K) :: cl) C env)) (EndK h₀ L m { s with heap := h, toks := tk } [(I, oI), (C, oC), (D, lst ys), (K, oK)] S (fun y news' => RestK prog w A h₀ L m env elt x scope cl s S P Fin I C D K k (i + 1) (ys ++ [y]) news')) E' { s with heap := h, toks := tk }

inductive KSt (prog : Program) (w : World) (A : Around) (h₀ : Heap) (L : Addr) (m : Str → Option Value) (env : Env) (elt : Expr) (x : Str) (scope : Scope) (cl : List (Str × Addr)) (s₂ : Shared) (S : List (Addr × Obj) → Prop) (P : Nat → Value → Prop)
    (Fin : List Value → List (Addr × Obj) → Prop) (I C D K : Addr) (St : Nat → Heap → Prop) (n k : Nat) (s' : Shared) : Prop
  | mk (h' : Heap) (tk i : Nat) (ys : List Value) (m' : Str → Option Value) (news' : List (Addr × Obj)) (v₀ : Option Value) (e : s' = { s₂ with heap := h', toks := tk }) (hi : i ≤ n) (hk : k = n + 1 - i) (hl : ys.length = i) (hst : St i h') (F : Fr h₀ L h' m) (hn : h'.Ns C m') (hc : h'.IsCell K v₀) (N : News h₀ L h' ((D, lst ys) :: news'))
    (off : ∀ p ∈ news', p.1 ≠ I ∧ p.1 ≠ C ∧ p.1 ≠ D ∧ p.1 ≠ K) (hS : S news') (R : RestK prog w A h₀ L m env elt x scope cl s₂ S P Fin I C D K (n - i) i ys news') : KSt prog w A h₀ L m env elt x scope cl s₂ S P Fin I C D K St n k s'
section
variable {prog : Program} {w : World} {A : Around} {E : Value → Shared → Prop} {s : Shared} {h₀ : Heap} {L : Addr} {m : Str → Option Value} {env : Env}
theorem block_K {elt iter : Expr} {x : Str} {px : Pos} {scope : Scope} {cl : List (Str × Addr)} {pos : Pos} {s₂ : Shared} {I : Addr} {fp : List Addr} {n : Nat} {P : Nat → Value → Prop} {St : Nat → Heap → Prop} {S : List (Addr × Obj) → Prop} {news : List (Addr × Obj)}
    {Fin : List Value → List (Addr × Obj) → Prop} {RR : Value → Addr → Result → Shared → Prop}
    (W : Walks prog w A I fp [I] n P St) (hsz : n ≤ sizeLine) (hIo : ∀ i h, St i h → ∃ o, h.get? I = some o)
    (hSt : ∀ i h h' o nw, St i h → h.get? I = some o → h'.get? I = some o → (∀ b o, h₀.get? b = some o → h'.get? b = some o) → News h₀ L h' nw → S nw → St i h')
    (hone : ∀ n acc, cellsFrom n scope.names acc = (x, n) :: acc) (hpush : ∀ h, pushCells h scope.names = h.push { cls := .type "cell", data := .cell none })
    (hkind : scope.kind = .function) (hx : ∀ C K, (compEnvC scope ((x, K) :: cl) C env).kindOf x = some .cell) (hst : St 0 s₂.heap) (hfp : ∀ b ∈ fp, b < s₂.heap.objs.size)
    (F : Fr h₀ L s₂.heap m) (N : News h₀ L s₂.heap news) (hIL : L ≠ I) (hI₀ : h₀.get? I = none) (off : ∀ p ∈ news, p.1 ≠ I) (hS : S news)
    (R : ∀ C D K, (@Ne Nat I C) → (@Ne Nat I D) → (@Ne Nat I K) → (@Ne Nat C D) → (@Ne Nat C K) → (@Ne Nat D K) → RestK prog w A h₀ L m env elt x scope cl s₂ S P Fin I C D K n 0 [] news)
    (hRR : ∀ D C h tk m' ys news', Fr h₀ L h m → News h₀ L h ((D, lst ys) :: news') → (∀ p ∈ news', p.1 ≠ D) → h.Ns C m' → h₀.get? C = none → h₀.get? D = none → C ≠ L → D ≠ L → C ≠ D → (∀ p ∈ news', p.1 ≠ C) → Fin ys news' → RR (.ref D) C (.ok .next) { s₂ with heap := h, toks := tk }) :
    wpAny (model prog w) A (newList []) (fun acc s₃ => wpAny (model prog w) A (newFunctionEnv scope env.globals cl [] env.qual none .none (some env)) (fun cenv s₄ =>
      codeAny (model prog w) A (.compStart (.ListComp elt [⟨.Name x px, iter, [], 0⟩] scope pos) 0 (.ref I) acc { cenv with scope := relabel scope env }) (RR acc cenv.locals) s₄) E s₃) E s₂ := by
  refine wpAny_newObj_type (newFunctionEnv_one hone hpush (fun h₁ hns₁ old₁ hcell₁ hsz₁ => ?_))
  dsimp only at hns₁ hcell₁ hsz₁ ⊢
  generalize hH2 : s₂.heap.push { cls := .type "list", dict := none, data := .seq ([] : List Value).toArray } = H2 at hns₁ hcell₁ hsz₁ old₁ ⊢
  have hC : H2.objs.size = s₂.heap.objs.size + 1 := by rw [← hH2, Heap.size_push]
  obtain ⟨C, hCe⟩ : ∃ C : Addr, C = H2.objs.size := ⟨_, rfl⟩
  obtain ⟨D, hDe⟩ : ∃ D : Addr, D = s₂.heap.objs.size := ⟨_, rfl⟩
  obtain ⟨K, hKe⟩ : ∃ K : Addr, K = H2.objs.size + 1 := ⟨_, rfl⟩
  rw [← hKe] at hcell₁ ⊢
  rw [← hCe] at hns₁ ⊢
  show codeAny (model prog w) A (.compStart (.ListComp elt [⟨.Name x px, iter, [], 0⟩] scope pos) 0 (.ref I) (.ref s₂.heap.objs.size) (compEnvC scope ((x, K) :: cl) C env)) (RR (.ref s₂.heap.objs.size) C) _
  rw [← hDe]
  have nD : @Eq Nat D s₂.heap.objs.size := hDe
  have nC : @Eq Nat C (s₂.heap.objs.size + 1) := hCe.trans hC
  have nK : @Eq Nat K (s₂.heap.objs.size + 2) := by rw [hKe, hC]
  have hDC : D ≠ C := two_ne 0 1 nD nC (by decide)
  have hDK : D ≠ K := two_ne 0 2 nD nK (by decide)
  have hCK : C ≠ K := two_ne 1 2 nC nK (by decide)
  have below : ∀ b, b < s₂.heap.objs.size → b ≠ C ∧ b ≠ D ∧ b ≠ K := fun b hb => ⟨at_ne 1 nC hb, at_ne 0 nD hb, at_ne 2 nK hb⟩
  have hDf : D ∉ fp := fun hm => (below _ (hfp _ hm)).2.1 rfl
  have hCf : C ∉ fp := fun hm => (below _ (hfp _ hm)).1 rfl
  have hKf : K ∉ fp := fun hm => (below _ (hfp _ hm)).2.2 rfl
  have hIf : I ∈ fp := W.sub I (List.mem_singleton.mpr rfl)
  have hIlt : I < s₂.heap.objs.size := hfp I hIf
  have old : ∀ b o, s₂.heap.get? b = some o → h₁.get? b = some o := fun b o e => old₁ b o (hH2 ▸ Heap.get?_push_of_some _ e)
  have hacc : h₁.get? D = some (lst []) := by rw [hDe]; exact old₁ _ _ (hH2 ▸ Heap.get?_push_size _ rfl)
  have hst₁ : St 0 h₁ := W.frame _ _ _ hst fun b _ o e => old b o e
  have fresh₀ : ∀ a : Addr, @LE.le Nat _ s₂.heap.objs.size a → h₀.get? a = none := fun a ha => by
    cases e : h₀.get? a with
    | none => rfl
    | some o' => exact absurd (Heap.lt_size (F.keep a o' e)) (Nat.not_lt.mpr ha)
  have hD₀ : h₀.get? D = none := fresh₀ _ (at_le 0 nD)
  have hC₀ : h₀.get? C = none := fresh₀ _ (at_le 1 nC)
  have hK₀ : h₀.get? K = none := fresh₀ _ (at_le 2 nK)
  have hLlt : L < s₂.heap.objs.size := F.ns.lt
  have hDL : D ≠ L := Ne.symm (below L hLlt).2.1
  have hCL : C ≠ L := Ne.symm (below L hLlt).1
  have hKL : K ≠ L := Ne.symm (below L hLlt).2.2
  have hCI : I ≠ C := (below I hIlt).1
  have hDI : I ≠ D := (below I hIlt).2.1
  have hKI : I ≠ K := (below I hIlt).2.2
  have off₀ : ∀ p ∈ news, p.1 ≠ I ∧ p.1 ≠ C ∧ p.1 ≠ D ∧ p.1 ≠ K := fun p hp => ⟨off p hp, (below _ (Heap.lt_size (N p hp).1)).1, (below _ (Heap.lt_size (N p hp).1)).2.1, (below _ (Heap.lt_size (N p hp).1)).2.2⟩
  have hkc : (compEnvC scope ((x, K) :: cl) C env).cells.lookup x = some K := by
    show List.lookup x ((x, K) :: cl) = some K
    simp
  have loop : ∀ s₃ : Shared, s₃ = { s₂ with heap := h₁ } →
      codeAny (model prog w) A (.compLoop (.ListComp elt [⟨.Name x px, iter, [], 0⟩] scope pos) 0 (.ref I) (.ref D) (compEnvC scope ((x, K) :: cl) C env))
        (RR (.ref D) C) s₃ := by
    rintro s₃ rfl
    refine codeAny_compLoop_tests
      (KSt prog w A h₀ L m env elt x scope cl s₂ S P Fin I C D K St n) ?_ (n + 1)
      ⟨h₁, _, 0, [], _, news, none, rfl, Nat.zero_le _, rfl, rfl, hst₁, F.keeps old, hns₁, ⟨_, hcell₁, rfl⟩, fun p hp => ?_, off₀, hS, R C D K hCI hDI hKI (Ne.symm hDC) hCK hDK⟩
    · rintro k s' ⟨h', tk, i, ys, m', news', v₀, rfl, hi, rfl, hyl, hst', F', hn', hcel', N', off', hS', R'⟩
      by_cases hlt : i < n
      · obtain ⟨j, hj⟩ : ∃ j, n - i = j + 1 := ⟨n - i - 1, sub_pred hlt⟩
        rw [hj] at R'
        refine W.item i _ _ _ hlt hst' fun v h₂ tk₂ hPv hst₂ hk₂ => ?_
        have hcel₂ : h₂.IsCell K v₀ := by
          obtain ⟨o, ho, hd⟩ := hcel'
          exact ⟨o, hk₂ _ o (by simpa using Ne.symm hKI) ho, hd⟩
        refine wpAny_assign_Name (wpAny_storeName_cell hkind (hx C K) hkc hcel₂ fun h₃ hv₃ hs₃ => ?_)
        refine wpAny_tests_nil ?_
        simp only [if_true]
        have hst₃ : St (i + 1) h₃ := W.frame _ _ _ hst₂ fun b hb o e => hs₃.extBut b o (fun q => hKf (by have q' : b = K := q; rw [← q']; exact hb)) e
        obtain ⟨oI, heI⟩ := hIo _ _ hst₃
        have hn₃ : h₃.Ns C m' := (hn'.at' fun o e => hk₂ _ o (by simpa using Ne.symm hCI) e).sameBut hs₃ hCK
        obtain ⟨oC, heC, hoC⟩ := ns_obj hn₃
        obtain ⟨oK, heK, hdK⟩ := hv₃
        have F₃ : Fr h₀ L h₃ m := (fr_but F' hk₂ hIL hI₀).change hs₃ hKL hK₀
        have N₂ : News h₀ L h₂ ((D, lst ys) :: news') := news_but N' hk₂ fun p hp => by
          rcases List.mem_cons.mp hp with rfl | hp
          · exact Ne.symm hDI
          · exact (off' p hp).1
        have N₃ : News h₀ L h₃ ((I, oI) :: (C, oC) :: (D, lst ys) :: (K, oK) :: news') := fun p hp => by
          rcases List.mem_cons.mp hp with rfl | hp
          · exact ⟨heI, Ne.symm hIL, hI₀⟩
          rcases List.mem_cons.mp hp with rfl | hp
          · exact ⟨heC, hCL, hC₀⟩
          rcases List.mem_cons.mp hp with rfl | hp
          · exact ⟨hs₃.extBut _ _ hDK (N₂ _ (.head _)).1, hDL, hD₀⟩
          rcases List.mem_cons.mp hp with rfl | hp
          · exact ⟨heK, hKL, hK₀⟩
          · have z := N₂ p (.tail _ hp)
            exact ⟨hs₃.extBut _ _ (off' p hp).2.2.2 z.1, z.2⟩
        refine wpAny_mono (R' v oI oC oK _ h₃ _ _ hPv hoC hdK F₃ N₃ off') (fun y s₄ h₄ => ?_) fun _ _ e => e
        obtain ⟨h₄, tk₄, all, news₄, rfl, F₄, N₄, hall, sub₄, off₄, hS₄, R₄⟩ := h₄
        have zI := (N₄ (I, oI) (hall _ (.head _))).1
        have zC := (N₄ (C, oC) (hall _ (.tail _ (.head _)))).1
        have zD := (N₄ (D, lst ys) (hall _ (.tail _ (.tail _ (.head _))))).1
        have zK := (N₄ (K, oK) (hall _ (.tail _ (.tail _ (.tail _ (.head _)))))).1
        have N₄' : News h₀ L h₄ news₄ := fun p hp => N₄ p (sub₄ p hp)
        have hst₄ : St (i + 1) h₄ := hSt _ _ _ _ _ hst₃ heI zI F₄.keep N₄' hS₄
        refine append_at (hsz := by show ys.toArray.size ≤ sizeLine; rw [List.size_toArray, hyl]; exact Nat.le_trans hi hsz) zD fun h₅ hs₅ hD₅ => ?_
        have offD : ∀ p ∈ news₄, p.1 ≠ D := fun p hp => off₄ p hp (D, lst ys) (.tail _ (.tail _ (.head _)))
        refine ⟨n + 1 - (i + 1), lt_step hlt, h₅, tk₄, i + 1, ys ++ [y], _, news₄, some v, rfl, hlt, rfl, by rw [List.length_append, List.length_singleton, hyl], W.frame _ _ _ hst₄ fun b hb o e => hs₅.extBut b o (fun q => hDf (q ▸ hb)) e, F₄.change hs₅ hDL hD₀,
          (hoC.ns zC).sameBut hs₅ (Ne.symm hDC), ⟨_, hs₅.extBut _ _ (Ne.symm hDK) zK, hdK⟩, fun p hp => ?_, fun p hp => ?_, hS₄, ?_⟩
        · rcases List.mem_cons.mp hp with rfl | hp
          · exact ⟨hD₅.trans (congrArg some (lst_snoc ys y)), hDL, hD₀⟩
          · exact ⟨hs₅.extBut _ _ (offD p hp) (N₄' p hp).1, (N₄' p hp).2⟩
        · exact ⟨off₄ p hp (I, oI) (.head _), off₄ p hp (C, oC) (.tail _ (.head _)), offD p hp, off₄ p hp (K, oK) (.tail _ (.tail _ (.tail _ (.head _))))⟩
        · rw [sub_next hj]
          exact R₄
      · obtain rfl : i = n := Nat.le_antisymm hi (Nat.not_lt.mp hlt)
        rw [Nat.sub_self] at R'
        refine W.done _ _ _ hst' fun h₂ tk₂ hk₂ => ?_
        exact hRR _ _ h₂ tk₂ _ ys news' (fr_but F' hk₂ hIL hI₀) (news_but N' hk₂ fun p hp => by
          rcases List.mem_cons.mp hp with rfl | hp
          · exact Ne.symm hDI
          · exact (off' p hp).1) (fun p hp => (off' p hp).2.2.1) (hn'.at' fun o e => hk₂ _ o (by simpa using Ne.symm hCI) e) hC₀ hD₀ hCL hDL (Ne.symm hDC) (fun p hp => (off' p hp).2.1) R'
    · rcases List.mem_cons.mp hp with rfl | hp
      · exact ⟨hacc, hDL, hD₀⟩
      · exact ⟨old _ _ (N p hp).1, (N p hp).2⟩
  exact codeAny_compStart_list (loop _ rfl) (W.self 0 _ _ _ hst₁ (loop _ rfl))
end

end
-- part Cl
section
set_option maxHeartbeats 2000000
open LCg LCt
section
variable {prog : Program} {w : World} {A : Around} {E : Value → Shared → Prop} {s : Shared} {h₀ : Heap} {L : Addr} {m : Str → Option Value} {env : Env}
theorem ListComp_TH {ct elt iter : Expr} {x : Str} {px : Pos} {scope : Scope} {cl : List (Str × Addr)} {pos : Pos} {Q : Value → Shared → Prop} (F₀ : Fr h₀ L s.heap m)
    (hclos : closureFor scope env = pure cl) (hcell : ∀ y ∈ scope.names, y.2 ≠ .cell) (hkind : scope.kind = .function)
    (hnames : ∀ y ∈ scope.names, y.2 = .local → scope.names.lookup y.1 = some .local) (hx : scope.names.lookup x = some .local)
    (h : wpAny (model prog w) A (eval iter env) (fun xv s₁ => Hold (CompSrcT prog w A h₀ L m env ct elt x scope cl (fun s₂ => FinE h₀ L m s₂ Q) xv s₁)) E s)
    (hs : ∀ x, foldedSetIterable iter env x = pure x := by intro _; rfl) :
    wpAny (model prog w) A (eval (.ListComp elt [⟨.Name x px, iter, [ct], 0⟩] scope pos) env) Q E s := ListComp_T F₀ hclos hcell hkind hnames hx h hs

inductive LRel (Rel : Nat → Value → Prop) : List Nat → List Value → Prop
  | nil : LRel Rel [] []
  | cons {i v l ys} : Rel i v → LRel Rel l ys → LRel Rel (i :: l) (v :: ys)
theorem LRel.snoc {Rel : Nat → Value → Prop} {i : Nat} {v : Value} : ∀ {l : List Nat} {ys : List Value}, LRel Rel l ys → Rel i v → LRel Rel (l ++ [i]) (ys ++ [v])
  | _, _, .nil, h => .cons h .nil
  | _, _, .cons h₁ t, h => .cons h₁ (t.snoc h)
theorem LRel.ints : ∀ {l : List Nat} {ys : List Value}, LRel (fun i v => ∃ t : Tok, v = Value.int (i : Int) t) l ys → IntsAre ys (l.map fun i : Nat => (i : Int))
  | _, _, .nil => .nil
  | _, _, .cons ⟨t, e⟩ r => by subst e; exact .cons _ t r.ints

theorem rest_T {ct elt : Expr} {x : Str} {scope : Scope} {cl : List (Str × Addr)} {S : List (Addr × Obj) → Prop} {P : Nat → Value → Prop} {Fin : List Value → List (Addr × Obj) → Prop} {news : List (Addr × Obj)} {n : Nat} (Rel : Nat → Value → Prop) (p : Nat → Bool)
    (turn : ∀ i v I oI C oC D m₂ ys h tk (E' : Value → Shared → Prop), i < n → P i v → NsObj oC m₂ → m₂ x = some v → Fr h₀ L h m → News h₀ L h ((I, oI) :: (C, oC) :: (D, lst ys) :: news) → Off3 I C D news → ((@Ne Nat I C) ∧ (@Ne Nat I D) ∧ (@Ne Nat C D)) →
      wpAny (model prog w) A (isTrue ct (compEnvC scope cl C env) (eval ct (compEnvC scope cl C env))) (fun ok s' => if ok = true then
        wpAny (model prog w) A (eval elt (compEnvC scope cl C env)) (CompEnd h₀ L m { s with heap := h, toks := tk } I oI C oC D (lst ys) S (EltEnd news fun y => p i = true ∧ Rel i y)) E' s'
        else CompEnd h₀ L m { s with heap := h, toks := tk } I oI C oC D (lst ys) S (EltEnd news fun _ => p i = false) Value.none s') E' { s with heap := h, toks := tk })
    (fin : ∀ ys, LRel Rel ((List.range n).filter p) ys → Fin ys news) : CompRestT prog w A h₀ L m env ct elt x scope cl s S P Fin n 0 [] news := by
  have key : ∀ (j i : Nat) (ys : List Value), i + j = n → LRel Rel ((List.range i).filter p) ys → CompRestT prog w A h₀ L m env ct elt x scope cl s S P Fin j i ys news := by
    intro j
    induction j with
    | zero =>
      intro i ys hi hy
      have e : i = n := by omega
      subst e
      exact CompRestT.zero (fin ys hy)
    | succ j ih =>
      intro i ys hi hy
      refine CompRestT.succ ?_
      intro v I oI C oC D m₂ h tk E' hv hC hx F N off ne
      have hr : (List.range (i + 1)).filter p = (List.range i).filter p ++ (if p i then [i] else []) := by
        rw [List.range_succ, List.filter_append]
        cases hp : p i <;> simp [hp]
      refine wpAny_mono (turn i v I oI C oC D m₂ ys h tk E' (by omega) hv hC hx F N off ne) (fun ok s' hq => ?_) fun _ _ e => e
      cases ok with
      | true =>
        simp only [if_true] at hq ⊢
        refine wpAny_mono hq (fun y s₂ hq => ?_) fun _ _ e => e
        obtain ⟨h', tk', nw, e, F', N', off', hS, hn, hp, hR⟩ := hq
        subst hn
        refine ⟨h', tk', nw, e, F', N', off', hS, ih (i + 1) _ (by omega) ?_⟩
        rw [hr, hp]
        exact hy.snoc hR
      | false =>
        simp only [Bool.false_eq_true, if_false] at hq ⊢
        obtain ⟨h', tk', nw, e, F', N', off', hS, hn, hp⟩ := hq
        subst hn
        refine ⟨h', tk', nw, e, F', N', off', hS, ih (i + 1) _ (by omega) ?_⟩
        rw [hr, hp]
        simpa using hy
  exact key n 0 [] (by omega) (by simpa using LRel.nil)
end

/-! two clauses -/
theorem compTurn_out (elt t0 i0 t1 i1 : Expr) (ifs1 : List Expr) (scope : Scope) (pos : Pos) (it acc : Value) (env : Env) :
    compTurn (.ListComp elt [⟨t0, i0, [], 0⟩, ⟨t1, i1, ifs1, 0⟩] scope pos) 0 it acc env = (do
      standAt i0.pos
      match ← pyNext it with
      | none => pure (.done .next)
      | some v =>
        letOwnedTupleGo t0 it v
        assign t0 env v
        let x ← eval i1 env
        standAt i1.pos
        let x ← foldedSetIterable i1 env x
        let _ ← runOwn (.compStart (.ListComp elt [⟨t0, i0, [], 0⟩, ⟨t1, i1, ifs1, 0⟩] scope pos) 1 (← holding [x] (pyIter x)) acc env) env
        again (.compLoop (.ListComp elt [⟨t0, i0, [], 0⟩, ⟨t1, i1, ifs1, 0⟩] scope pos) 0 it acc env)) := by rfl
theorem compTurn_in (elt t0 i0 t1 i1 : Expr) (ifs1 : List Expr) (scope : Scope) (pos : Pos) (it acc : Value) (env : Env) :
    compTurn (.ListComp elt [⟨t0, i0, [], 0⟩, ⟨t1, i1, ifs1, 0⟩] scope pos) 1 it acc env = (do
      standAt i1.pos
      match ← pyNext it with
      | none => pure (.done .next)
      | some v =>
        letOwnedTupleGo t1 it v
        assign t1 env v
        let mut ok := true
        for c in ifs1 do
          if ok then ok ← isTrue c env (eval c env)
        if ok then
          (do let _ ← call (.builtin "list.append") [acc, ← eval elt env])
        again (.compLoop (.ListComp elt [⟨t0, i0, [], 0⟩, ⟨t1, i1, ifs1, 0⟩] scope pos) 1 it acc env)) := by rfl

section
variable {prog : Program} {w : World} {A : Around} {E : Value → Shared → Prop} {R : Result → Shared → Prop} {s : Shared}
theorem codeAny_out {elt t0 i0 t1 i1 : Expr} {ifs1 : List Expr} {scope : Scope} {pos : Pos} {it acc : Value} {env : Env} (I : Nat → Shared → Prop)
    (turn : ∀ n s, I n s → wpAny (model prog w) A (pyNext it) (fun r s₁ => match r with
      | none => R (.ok .next) s₁
      | some v => wpAny (model prog w) A (assign t0 env v) (fun _ s₂ => wpAny (model prog w) A (eval i1 env) (fun x s₃ => wpAny (model prog w) A (pyIter x) (fun y s₄ =>
          codeAny (model prog w) A (.compStart (.ListComp elt [⟨t0, i0, [], 0⟩, ⟨t1, i1, ifs1, 0⟩] scope pos) 1 y acc env)
            (fun r s' => match r with | .ok _ => ∃ m, m < n ∧ I m s' | .error e => cameBackBy (model prog w) A env (notedBy (model prog w) A env fun e s' => R (.error e) s') e s') s₄)
          (notedBy (model prog w) A env fun e s' => R (.error e) s') s₃) (notedBy (model prog w) A env fun e s' => R (.error e) s') s₂) (notedBy (model prog w) A env fun e s' => R (.error e) s') s₁) (notedBy (model prog w) A env fun e s' => R (.error e) s') s)
    (n : Nat) (h : I n s) (ht : ∀ v, letOwnedTupleGo t0 it v = pure () := by intro _; rfl) (hs : ∀ x, foldedSetIterable i1 env x = pure x := by intro _; rfl) :
    codeAny (model prog w) A (.compLoop (.ListComp elt [⟨t0, i0, [], 0⟩, ⟨t1, i1, ifs1, 0⟩] scope pos) 0 it acc env) R s := by
  refine codeAny_loop rfl I (fun n s hI => ?_) n h
  show wpAny _ A ((compTurn (.ListComp elt [⟨t0, i0, [], 0⟩, ⟨t1, i1, ifs1, 0⟩] scope pos) 0 it acc env).onRaise (fun x => do noteFrame x env; theTreesLotGoes x)) _ _ s
  refine wpAny_noted ?_
  rw [compTurn_out]
  refine wpAny_bind (wpAny_standAt (wpAny_bind (wpAny_mono (turn n s hI) (fun r s₁ h₁ => ?_) fun _ _ h' => h')))
  cases r with
  | none => exact wpAny_pure h₁
  | some v =>
    refine wpAny_bind (wpAny_of_eq (ht v) ?_)
    refine wpAny_bind (wpAny_mono h₁ (fun _ s₂ h₂ => wpAny_bind (wpAny_mono h₂ (fun x s₃ h₃ => wpAny_bind (wpAny_standAt (wpAny_bind (wpAny_of_eq (hs x) (wpAny_bind (wpAny_holding (wpAny_mono h₃ (fun y s₄ h₄ => ?_) fun _ _ h' => h'))))))) fun _ _ h' => h')) fun _ _ h' => h')
    refine wpAny_bind (wpAny_runOwn (codeAny_mono h₄ fun r s' hr => ?_))
    cases r with
    | ok f => exact wpAny_pure ⟨rfl, hr⟩
    | error e => exact hr

theorem codeAny_in {elt t0 i0 t1 i1 : Expr} {ifs1 : List Expr} {scope : Scope} {pos : Pos} {it acc : Value} {env : Env} (I : Nat → Shared → Prop)
    (turn : ∀ n s, I n s → wpAny (model prog w) A (pyNext it) (fun r s₁ => match r with
      | none => R (.ok .next) s₁
      | some v => wpAny (model prog w) A (assign t1 env v) (fun _ s₂ =>
          wpAny (model prog w) A (forIn ifs1 true fun c r => if r = true then do let ok ← isTrue c env (eval c env); pure (ForInStep.yield ok) else pure (ForInStep.yield r)) (fun ok s₃ =>
            if ok = true then wpAny (model prog w) A (eval elt env) (fun x s₄ =>
              wpAny (model prog w) A (call (.builtin "list.append") [acc, x]) (fun _ s₅ => ∃ m, m < n ∧ I m s₅) (notedBy (model prog w) A env fun e s' => R (.error e) s') s₄) (notedBy (model prog w) A env fun e s' => R (.error e) s') s₃
            else ∃ m, m < n ∧ I m s₃) (notedBy (model prog w) A env fun e s' => R (.error e) s') s₂) (notedBy (model prog w) A env fun e s' => R (.error e) s') s₁) (notedBy (model prog w) A env fun e s' => R (.error e) s') s)
    (n : Nat) (h : I n s) (ht : ∀ v, letOwnedTupleGo t1 it v = pure () := by intro _; rfl) :
    codeAny (model prog w) A (.compLoop (.ListComp elt [⟨t0, i0, [], 0⟩, ⟨t1, i1, ifs1, 0⟩] scope pos) 1 it acc env) R s := by
  refine codeAny_loop rfl I (fun n s hI => ?_) n h
  show wpAny _ A ((compTurn (.ListComp elt [⟨t0, i0, [], 0⟩, ⟨t1, i1, ifs1, 0⟩] scope pos) 1 it acc env).onRaise (fun x => do noteFrame x env; theTreesLotGoes x)) _ _ s
  refine wpAny_noted ?_
  rw [compTurn_in]
  refine wpAny_bind (wpAny_standAt (wpAny_bind (wpAny_mono (turn n s hI) (fun r s₁ h₁ => ?_) fun _ _ h' => h')))
  cases r with
  | none => exact wpAny_pure h₁
  | some v =>
    refine wpAny_bind (wpAny_of_eq (ht v) ?_)
    refine wpAny_bind (wpAny_mono h₁ (fun _ s₂ h₂ => wpAny_bind (wpAny_mono h₂ (fun ok s₃ h₃ => ?_) fun _ _ h' => h')) fun _ _ h' => h')
    cases ok with
    | false => exact wpAny_pure ⟨rfl, h₃⟩
    | true =>
      exact wpAny_bind (wpAny_bind (wpAny_mono h₃ (fun x s₄ h₄ => wpAny_bind (wpAny_mono h₄ (fun _ s₅ h₅ => wpAny_pure (wpAny_pure ⟨rfl, h₅⟩)) fun _ _ h' => h')) fun _ _ h' => h'))

theorem codeAny_compStart_in {elt t0 i0 t1 i1 : Expr} {ifs1 : List Expr} {scope : Scope} {pos : Pos} {it acc : Value} {env : Env}
    (h0 : codeAny (model prog w) A (.compLoop (.ListComp elt [⟨t0, i0, [], 0⟩, ⟨t1, i1, ifs1, 0⟩] scope pos) 1 it acc env) R s)
    (h : wpAny (model prog w) A (pyIter it) (fun it' s' => codeAny (model prog w) A (.compLoop (.ListComp elt [⟨t0, i0, [], 0⟩, ⟨t1, i1, ifs1, 0⟩] scope pos) 1 it' acc env) R s')
      (notedBy (model prog w) A env fun x s' => R (.error x) s') s) :
    codeAny (model prog w) A (.compStart (.ListComp elt [⟨t0, i0, [], 0⟩, ⟨t1, i1, ifs1, 0⟩] scope pos) 1 it acc env) R s := by
  refine codeAny_of_tree ?_
  show wpAny _ _ ((compStart (.ListComp elt [⟨t0, i0, [], 0⟩, ⟨t1, i1, ifs1, 0⟩] scope pos) 1 it acc env).onRaise (fun x => do noteFrame x env; standAt theWindowsPlace)) _ _ s
  refine wpAny_notedAt ?_
  unfold compStart
  show wpAny _ _ (ask >>= _) _ _ s
  refine wpAny_bind (wpAny_askSetting (wpAny_ite ?_))
  split
  · first
      | exact wpAny_bind (wpAny_pure (wpAny_pure (And.intro rfl h0)))
      | exact wpAny_pure (And.intro rfl h0)
  · first
      | exact wpAny_bind (wpAny_rule (wpAny_bind (wpAny_standAt (wpAny_bind (wpAny_mono h (fun it' s' h' => wpAny_pure (And.intro rfl h')) fun _ _ x => x)))))
      | (refine wpAny_bind (wpAny_rule ?_); show wpAny _ _ (standAt i1.pos >>= _) _ _ s; exact wpAny_bind (wpAny_standAt (wpAny_bind (wpAny_mono h (fun it' s' h' => wpAny_pure (And.intro rfl h')) fun _ _ x => x))))
end

end
-- part Cm
section
set_option maxHeartbeats 2000000
open LCg LCt
section
variable {prog : Program} {w : World} {A : Around} {E : Value → Shared → Prop} {s : Shared} {h₀ : Heap} {L : Addr} {m : Str → Option Value} {env : Env}
def FinK (h₀ : Heap) (L : Addr) (m : Str → Option Value) (s : Shared) (Q : Value → Shared → Prop) (ys : List Value) (news : List (Addr × Obj)) : Prop :=
  ∀ D h tk, Fr h₀ L h m → News h₀ L h ((D, lst ys) :: news) → (∀ p ∈ news, p.1 ≠ D) → Q (.ref D) { s with heap := h, toks := tk }
inductive GoK (prog : Program) (w : World) (A : Around) (h₀ : Heap) (L : Addr) (m : Str → Option Value) (env : Env) (elt : Expr) (x : Str) (scope : Scope) (cl : List (Str × Addr)) (Fin : Shared → List Value → List (Addr × Obj) → Prop) (it : Value) (s₂ : Shared) : Prop
  | mk (I : Addr) (fp : List Addr) (n : Nat) (P : Nat → Value → Prop) (St : Nat → Heap → Prop) (S : List (Addr × Obj) → Prop) (news : List (Addr × Obj)) (c1 : it = .ref I) (c2 : Walks prog w A I fp [I] n P St) (c3 : n ≤ sizeLine) (c4 : (∀ i h, St i h → ∃ o, h.get? I = some o)) (c5 : (∀ i h h' o nw, St i h → h.get? I = some o → h'.get? I = some o → (∀ b o, h₀.get? b = some o → h'.get? b = some o) → News h₀ L h' nw → S nw → St i h')) (c6 : St 0 s₂.heap) (c7 : (∀ b ∈ fp, b < s₂.heap.objs.size)) (c8 : Fr h₀ L s₂.heap m) (c9 : News h₀ L s₂.heap news) (c10 : L ≠ I) (c11 : h₀.get? I = none) (c12 : (∀ p ∈ news, p.1 ≠ I)) (c13 : S news) (c14 : ∀ C D K, (@Ne Nat I C) → (@Ne Nat I D) → (@Ne Nat I K) → (@Ne Nat C D) → (@Ne Nat C K) → (@Ne Nat D K) → RestK prog w A h₀ L m env elt x scope cl s₂ S P (Fin s₂) I C D K n 0 [] news) : GoK prog w A h₀ L m env elt x scope cl Fin it s₂
theorem ListComp_K {elt iter : Expr} {x : Str} {px : Pos} {scope : Scope} {cl : List (Str × Addr)} {pos : Pos} {Q : Value → Shared → Prop} (F₀ : Fr h₀ L s.heap m)
    (hclos : closureFor scope env = pure cl) (hone : ∀ n acc, cellsFrom n scope.names acc = (x, n) :: acc) (hpush : ∀ h, pushCells h scope.names = h.push { cls := .type "cell", data := .cell none })
    (hkind : scope.kind = .function) (hnames : ∀ y ∈ scope.names, y.2 = .local → scope.names.lookup y.1 = some .local) (hx : ∀ C K, (compEnvC scope ((x, K) :: cl) C env).kindOf x = some .cell)
    (h : wpAny (model prog w) A (eval iter env) (fun xv s₁ => Hold (wpAny (model prog w) A (pyIter xv) (GoK prog w A h₀ L m env elt x scope cl (fun s₂ => FinK h₀ L m s₂ Q)) E s₁)) E s)
    (hs : ∀ x, foldedSetIterable iter env x = pure x := by intro _; rfl) :
    wpAny (model prog w) A (eval (.ListComp elt [⟨.Name x px, iter, [], 0⟩] scope pos) env) Q E s := by
  rw [eval_ListComp]
  refine wpAny_comprehension_free (use := none) rfl hs hclos hkind hnames (wpAny_mono h (fun xv s₁ h₁ => ?_) fun _ _ e => e)
  refine wpAny_mono h₁ (fun it s₂ h₂ => ?_) fun _ _ e => e
  obtain ⟨I, fp, n, P, St, S, news, rfl, W, hsz, hIo, hSt, hst, hfp, F, N, hIL, hI₀, off, hS, R⟩ := h₂
  refine block_K W hsz hIo hSt hone hpush hkind hx hst hfp F N hIL hI₀ off hS R ?_
  intro D C h tk m' ys news' F' N' o1 hn hC₀ hD₀ hCL hDL hCD offC fin
  refine ⟨m', hn, fun h'' hs'' => fin D h'' tk (F'.change hs'' hCL hC₀) (fun p hp => ?_) o1⟩
  refine ⟨hs''.extBut _ _ ?_ (N' p hp).1, (N' p hp).2⟩
  rcases List.mem_cons.mp hp with rfl | hp
  · exact Ne.symm hCD
  · exact offC p hp

theorem goK_str {elt : Expr} {x : Str} {scope : Scope} {cl : List (Str × Addr)} {Fin : Shared → List Value → List (Addr × Obj) → Prop} {y : Str} {t : Tok} {news : List (Addr × Obj)} (hh : A.handled = none) (F : Fr h₀ L s.heap m) (N : News h₀ L s.heap news) (hz : y.cps.size ≤ 16777216)
    (R : ∀ g I C D K, (@Ne Nat I C) → (@Ne Nat I D) → (@Ne Nat I K) → (@Ne Nat C D) → (@Ne Nat C K) → (@Ne Nat D K) → RestK prog w A h₀ L m env elt x scope cl { s with heap := g } (fun _ => True) (SignAt y) (Fin { s with heap := g }) I C D K y.cps.size 0 [] news) :
    wpAny (model prog w) A (pyIter (.str y t)) (GoK prog w A h₀ L m env elt x scope cl Fin) E s := by
  have go : ∀ (ty : String) (W : Walks prog w A s.heap.objs.size [s.heap.objs.size] [s.heap.objs.size] y.cps.size (SignAt y) (fun i h => h.IsStrIter s.heap.objs.size ty y t i)),
      GoK prog w A h₀ L m env elt x scope cl Fin (.ref s.heap.objs.size) { s with heap := s.heap.push { cls := .type ty, data := .fields #[.str y t, .int 0 0] } } := fun ty W => by
    refine ⟨_, _, _, _, _, fun _ => True, news, rfl, W, by rw [sizeLine_eq]; omega, fun i h st => by obtain ⟨o, e, _⟩ := st; exact ⟨o, e⟩, ?_, ⟨_, Heap.get?_push_size _ rfl, rfl, rfl⟩, ?_, F.push _, N.grown fun _ _ e => Heap.get?_push_of_some _ e,
      Nat.ne_of_lt F.ns.lt, next_is_new F, fun p hp => Nat.ne_of_lt (Heap.lt_size (N p hp).1), trivial, fun C D K => R _ _ C D K⟩
    · intro i h h' o nw st e e' _ _ _
      obtain ⟨o', q, r⟩ := st
      rw [e] at q; cases q
      exact ⟨o, e', r⟩
    · intro b hb
      rw [List.mem_singleton.mp hb]
      show s.heap.objs.size < (s.heap.push _).objs.size
      rw [Heap.size_push]; exact Nat.lt_succ_self _
  cases ha : y.cps.all (· < 128)
  · exact wpAny_pyIter_wide ha (go _ (Walks.strWide hh _ y t))
  · exact wpAny_pyIter_ascii ha (go _ (Walks.strAscii hh _ y t))

theorem rest_K {elt : Expr} {x : Str} {scope : Scope} {cl : List (Str × Addr)} {S : List (Addr × Obj) → Prop} {P : Nat → Value → Prop} {Fin : List Value → List (Addr × Obj) → Prop} {news : List (Addr × Obj)} {n : Nat} {I C D K : Addr} (J : Nat → List Value → List (Addr × Obj) → Prop) (h0 : J 0 [] news)
    (turn : ∀ i v oI oC oK m₂ ys nx h tk (E' : Value → Shared → Prop), i < n → P i v → J i ys nx → NsObj oC m₂ → oK.data = .cell (some v) → Fr h₀ L h m → News h₀ L h ((I, oI) :: (C, oC) :: (D, lst ys) :: (K, oK) :: nx) → (∀ p ∈ nx, p.1 ≠ I ∧ p.1 ≠ C ∧ p.1 ≠ D ∧ p.1 ≠ K) →
      wpAny (model prog w) A (eval elt (compEnvC scope ((x, K) :: cl) C env)) (EndK h₀ L m { s with heap := h, toks := tk } [(I, oI), (C, oC), (D, lst ys), (K, oK)] S (fun y nx' => J (i + 1) (ys ++ [y]) nx')) E' { s with heap := h, toks := tk })
    (fin : ∀ ys nx, J n ys nx → Fin ys nx) : RestK prog w A h₀ L m env elt x scope cl s S P Fin I C D K n 0 [] news := by
  have key : ∀ (j i : Nat) (ys : List Value) (nx : List (Addr × Obj)), i + j = n → J i ys nx → RestK prog w A h₀ L m env elt x scope cl s S P Fin I C D K j i ys nx := by
    intro j
    induction j with
    | zero =>
      intro i ys nx hi hy
      have e : i = n := by omega
      subst e
      exact fin ys nx hy
    | succ j ih =>
      intro i ys nx hi hy
      intro v oI oC oK m₂ h tk E' hv hC hK F N off
      refine wpAny_mono (turn i v oI oC oK m₂ ys nx h tk E' (by omega) hv hy hC hK F N off) (fun y s₂ hq => ?_) fun _ _ e => e
      obtain ⟨h', tk', all, nx', e, F', N', hall, sub', off', hS, hJ⟩ := hq
      exact ⟨h', tk', all, nx', e, F', N', hall, sub', off', hS, ih (i + 1) _ _ (by omega) hJ⟩
  exact key n 0 [] news (by omega) h0
end

end
-- part Cn
section
set_option maxHeartbeats 2000000
open LCg LCt
/-- a step that leaves the ledger -/
inductive Same (h₀ : Heap) (L : Addr) (m : Str → Option Value) (s : Shared) (led : List (Addr × Obj)) (s' : Shared) : Prop
  | mk (h' : Heap) (tk' : Nat) (e : s' = { s with heap := h', toks := tk' }) (F : Fr h₀ L h' m) (N : News h₀ L h' led) : Same h₀ L m s led s'
inductive InSt (h₀ : Heap) (L : Addr) (m : Str → Option Value) (s₃ : Shared) (C D : Addr) (St : Nat → Heap → Prop) (n : Nat) (p : Str) (a : Int) (ta : Tok) (led : List (Addr × Obj)) (ns prev : List Int) (k : Nat) (s' : Shared) : Prop
  | mk (h' : Heap) (tk i : Nat) (ys : List Value) (m' : Str → Option Value) (e : s' = { s₃ with heap := h', toks := tk }) (hi : i ≤ n) (hk : k = n + 1 - i) (hst : St i h') (F : Fr h₀ L h' m) (hn : h'.Ns C m') (hm : m' p = some (.int a ta)) (N : News h₀ L h' ((D, lst ys) :: led)) (hys : IntsAre ys (prev ++ (ns.take i).filter (fun b => decide (a < b)))) : InSt h₀ L m s₃ C D St n p a ta led ns prev k s'
theorem ints_snoc {y : Int} {t : Tok} : ∀ {vs : List Value} {ys : List Int}, IntsAre vs ys → IntsAre (vs ++ [.int y t]) (ys ++ [y])
  | _, _, .nil => .cons y t .nil
  | _, _, .cons z u r => .cons z u (ints_snoc r)
section
variable {prog : Program} {w : World} {A : Around} {E : Value → Shared → Prop} {s : Shared} {h₀ : Heap} {L : Addr} {m : Str → Option Value} {env : Env}

theorem inner_loop {elt t0 i0 i1 ct : Expr} {p q : Str} {pq : Pos} {scope : Scope} {cl : List (Str × Addr)} {pos : Pos} {I C D : Addr} {fp : List Addr} {n : Nat} {P : Nat → Value → Prop} {St : Nat → Heap → Prop} {led : List (Addr × Obj)} {R : Result → Shared → Prop} {s₃ : Shared}
    {a : Int} {ta : Tok} {ns : List Int} {ys₀ : List Value} {prev : List Int} {m₃ : Str → Option Value}
    (W : Walks prog w A I fp [I] n P St) (hn : n = ns.length) (hP : ∀ i v, P i v → ∃ b t, ns[i]? = some b ∧ v = .int b t) (hIo : ∀ i h, St i h → ∃ o, h.get? I = some o)
    (hSt : ∀ i h h' o, St i h → h.get? I = some o → h'.get? I = some o → News h₀ L h' led → St i h')
    (hkind : scope.kind = .function) (hp : p ≠ q) (hq : scope.names.lookup q = some .local)
    (hT : ∀ led' m₂ oC b tb h tk (E' : Value → Shared → Prop), (∀ x ∈ led, x ∈ led') → NsObj oC m₂ → m₂ p = some (.int a ta) → m₂ q = some (.int b tb) → Fr h₀ L h m → News h₀ L h ((C, oC) :: led') →
      wpAny (model prog w) A (isTrue ct (compEnvC scope cl C env) (eval ct (compEnvC scope cl C env))) (fun ok s' => ok = decide (a < b) ∧ Same h₀ L m { s₃ with heap := h, toks := tk } ((C, oC) :: led') s') E' { s₃ with heap := h, toks := tk })
    (hE : ∀ led' m₂ oC b tb h tk (E' : Value → Shared → Prop), (∀ x ∈ led, x ∈ led') → NsObj oC m₂ → m₂ p = some (.int a ta) → m₂ q = some (.int b tb) → Fr h₀ L h m → News h₀ L h ((C, oC) :: led') →
      wpAny (model prog w) A (eval elt (compEnvC scope cl C env)) (fun y s' => (∃ t, y = .int b t) ∧ Same h₀ L m { s₃ with heap := h, toks := tk } ((C, oC) :: led') s') E' { s₃ with heap := h, toks := tk })
    (hst : St 0 s₃.heap) (F : Fr h₀ L s₃.heap m) (hC : s₃.heap.Ns C m₃) (hmp : m₃ p = some (.int a ta)) (N : News h₀ L s₃.heap ((D, lst ys₀) :: led)) (hys : IntsAre ys₀ prev) (hsz : prev.length + ns.length ≤ 16777216)
    (hoff : ∀ x ∈ led, x.1 ≠ I ∧ x.1 ≠ C ∧ x.1 ≠ D) (hIC : I ≠ C) (hID : I ≠ D) (hCD : C ≠ D) (hIL : L ≠ I) (hCL : C ≠ L) (hDL : D ≠ L) (hI₀ : h₀.get? I = none) (hC₀ : h₀.get? C = none) (hD₀ : h₀.get? D = none) (hDf : D ∉ fp) (hCf : C ∉ fp)
    (done : ∀ h tk m' ys', Fr h₀ L h m → h.Ns C m' → News h₀ L h ((D, lst ys') :: led) → IntsAre ys' (prev ++ ns.filter (fun b => decide (a < b))) → R (.ok .next) { s₃ with heap := h, toks := tk }) :
    codeAny (model prog w) A (.compLoop (.ListComp elt [⟨t0, i0, [], 0⟩, ⟨.Name q pq, i1, [ct], 0⟩] scope pos) 1 (.ref I) (.ref D) (compEnvC scope cl C env)) R s₃ := by
  refine codeAny_in
    (InSt h₀ L m s₃ C D St n p a ta led ns prev) ?_ (n + 1)
    ⟨s₃.heap, s₃.toks, 0, ys₀, m₃, rfl, Nat.zero_le _, rfl, hst, F, hC, hmp, N, by simpa using hys⟩
  rintro k s' ⟨h', tk, i, ys, m', rfl, hi, rfl, hst', F', hn', hmp', N', hys'⟩
  by_cases hlt : i < n
  · refine W.item i _ _ _ hlt hst' fun v h₂ tk₂ hPv hst₂ hk₂ => ?_
    obtain ⟨b, tb, hb, rfl⟩ := hP _ _ hPv
    refine wpAny_assign_Name (wpAny_storeName_local (lookup_relabel_local hq) (hn'.at' fun o e => hk₂ _ o (by simpa using Ne.symm hIC) e) (fun h₃ hn₃ hs₃ => ?_) (by simp [compEnvC, relabel, hkind]))
    have hst₃ : St (i + 1) h₃ := W.frame _ _ _ hst₂ fun b hb o e => hs₃.extBut b o (fun q => hCf (by have q' : b = C := q; rw [← q']; exact hb)) e
    obtain ⟨oI, heI⟩ := hIo _ _ hst₃
    obtain ⟨oC, heC, hoC⟩ := ns_obj hn₃
    have F₃ : Fr h₀ L h₃ m := (fr_but F' hk₂ hIL hI₀).change hs₃ hCL hC₀
    have N₂ : News h₀ L h₂ ((D, lst ys) :: led) := news_but N' hk₂ fun x hx => by
      rcases List.mem_cons.mp hx with rfl | hx
      · exact Ne.symm hID
      · exact (hoff x hx).1
    have N₃ : News h₀ L h₃ ((D, lst ys) :: led) := fun x hx => by
      refine ⟨hs₃.extBut _ _ ?_ (N₂ x hx).1, (N₂ x hx).2⟩
      rcases List.mem_cons.mp hx with rfl | hx
      · exact Ne.symm hCD
      · exact (hoff x hx).2.1
    have N₄ : News h₀ L h₃ ((C, oC) :: (I, oI) :: (D, lst ys) :: led) := fun x hx => by
      rcases List.mem_cons.mp hx with rfl | hx
      · exact ⟨heC, hCL, hC₀⟩
      rcases List.mem_cons.mp hx with rfl | hx
      · exact ⟨heI, Ne.symm hIL, hI₀⟩
      · exact N₃ x hx
    have sub : ∀ x ∈ led, x ∈ (I, oI) :: (D, lst ys) :: led := fun x hx => .tail _ (.tail _ hx)
    have hbp : (fun z => if z = q then some (Value.int b tb) else m' z) p = some (.int a ta) := by
      show (if p = q then _ else _) = _
      rw [if_neg hp]; exact hmp'
    have hbq : (fun z => if z = q then some (Value.int b tb) else m' z) q = some (.int b tb) := by simp
    have htake : (ns.take (i + 1)).filter (fun b => decide (a < b)) = (ns.take i).filter (fun b => decide (a < b)) ++ (if decide (a < b) = true then [b] else []) := by
      rw [List.take_add_one, hb, List.filter_append]
      simp only [Option.toList_some]
      cases hd : decide (a < b) <;> simp [hd]
    refine wpAny_mono (wpAny_tests_one (hT _ _ oC b tb h₃ _ _ sub hoC hbp hbq F₃ N₄)) (fun ok s₄ h₄ => ?_) fun _ _ e => e
    obtain ⟨hok, h₄', tk₄, rfl, F₄, N₅⟩ := h₄
    have keepI := (N₅ (I, oI) (.tail _ (.head _))).1
    have keepC := (N₅ (C, oC) (.head _)).1
    have hst₄ : St (i + 1) h₄' := hSt _ _ _ _ hst₃ heI keepI fun x hx => N₅ x (.tail _ (.tail _ (.tail _ hx)))
    cases ok with
    | false =>
      simp only [Bool.false_eq_true, if_false]
      refine ⟨n + 1 - (i + 1), lt_step hlt, h₄', tk₄, i + 1, ys, _, rfl, hlt, rfl, hst₄, F₄, hoC.ns keepC, hbp, fun x hx => N₅ x (.tail _ (.tail _ hx)), ?_⟩
      rw [htake, ← hok]
      simpa using hys'
    | true =>
      simp only [if_true]
      refine wpAny_mono (hE _ _ oC b tb h₄' tk₄ _ sub hoC hbp hbq F₄ N₅) (fun y s₅ h₅ => ?_) fun _ _ e => e
      obtain ⟨⟨ty, rfl⟩, h₅', tk₅, rfl, F₅, N₆⟩ := h₅
      have keepI' := (N₆ (I, oI) (.tail _ (.head _))).1
      have keepC' := (N₆ (C, oC) (.head _)).1
      have keepD' := (N₆ (D, lst ys) (.tail _ (.tail _ (.head _)))).1
      have hst₅ : St (i + 1) h₅' := hSt _ _ _ _ hst₄ keepI keepI' fun x hx => N₆ x (.tail _ (.tail _ (.tail _ hx)))
      have hlen : ys.toArray.size ≤ sizeLine := by
        have h1 := hys'.length
        have h2 : ((ns.take i).filter (fun b => decide (a < b))).length ≤ ns.length := Nat.le_trans (List.length_filter_le _ _) (by rw [List.length_take]; exact Nat.min_le_right _ _)
        rw [List.length_append] at h1
        rw [List.size_toArray, sizeLine_eq]
        omega
      refine append_at (hsz := hlen) keepD' fun h₆ hs₆ hD₆ => ?_
      refine ⟨n + 1 - (i + 1), lt_step hlt, h₆, tk₅, i + 1, ys ++ [.int b ty], _, rfl, hlt, rfl, W.frame _ _ _ hst₅ fun b hb o e => hs₆.extBut b o (fun q => hDf (q ▸ hb)) e, F₅.change hs₆ hDL hD₀, (hoC.ns keepC').sameBut hs₆ hCD, hbp, fun x hx => ?_, ?_⟩
      · rcases List.mem_cons.mp hx with rfl | hx
        · exact ⟨hD₆.trans (congrArg some (lst_snoc ys _)), hDL, hD₀⟩
        · have z := N₆ x (.tail _ (.tail _ (.tail _ hx)))
          exact ⟨hs₆.extBut _ _ (hoff x hx).2.2 z.1, z.2⟩
      · rw [htake, ← hok, ← List.append_assoc]
        simpa using ints_snoc hys'
  · obtain rfl : i = n := Nat.le_antisymm hi (Nat.not_lt.mp hlt)
    rw [hn, List.take_length] at hys'
    refine W.done _ _ _ hst' fun h₂ tk₂ hk₂ => ?_
    exact done h₂ tk₂ _ ys (fr_but F' hk₂ hIL hI₀) (hn'.at' fun o e => hk₂ _ o (by simpa using Ne.symm hIC) e) (news_but N' hk₂ fun x hx => by
      rcases List.mem_cons.mp hx with rfl | hx
      · exact Ne.symm hID
      · exact (hoff x hx).1) hys'
end

end
-- part Cx
section
set_option maxHeartbeats 2000000
open LCg LCt
theorem ints_at : ∀ {vs : List Value} {ns : List Int}, IntsAre vs ns → ∀ (i : Nat) (v : Value), vs[i]? = some v → ∃ b t, ns[i]? = some b ∧ v = .int b t
  | _, _, .nil, i, v, h => by simp at h
  | _, _, .cons n t r, 0, v, h => ⟨n, t, rfl, by simpa using h.symm⟩
  | _, _, .cons n t r, i + 1, v, h => by
    have := ints_at r i v (by simpa using h)
    simpa using this
theorem flat_len (es qs : List Int) : (es.flatMap fun a => qs.filter fun b => decide (a < b)).length ≤ es.length * qs.length := by
  induction es with
  | nil => simp
  | cons a r ih =>
    rw [List.flatMap_cons, List.length_append, List.length_cons, Nat.succ_mul]
    rw [Nat.add_comm]
    exact Nat.add_le_add ih (List.length_filter_le (fun b => decide (a < b)) qs)
inductive OutSt (h₀ : Heap) (L : Addr) (m : Str → Option Value) (s₃ : Shared) (C D I ax : Addr) (vs : List Value) (es qs : List Int) (news : List (Addr × Obj)) (k : Nat) (s' : Shared) : Prop
  | mk (h' : Heap) (tk i : Nat) (ys : List Value) (m' : Str → Option Value) (e : s' = { s₃ with heap := h', toks := tk }) (hi : i ≤ es.length) (hk : k = es.length + 1 - i) (hst : h'.IsListIter I ax i ∧ h'.IsList ax vs.toArray) (F : Fr h₀ L h' m) (hn : h'.Ns C m') (N : News h₀ L h' ((D, lst ys) :: news)) (hys : IntsAre ys ((es.take i).flatMap fun a => qs.filter fun b => decide (a < b))) : OutSt h₀ L m s₃ C D I ax vs es qs news k s'
section
variable {prog : Program} {w : World} {A : Around} {E : Value → Shared → Prop} {s : Shared} {h₀ : Heap} {L : Addr} {m : Str → Option Value} {env : Env}

theorem outer_loop {elt i0 i1 ct : Expr} {p q : Str} {pp pq : Pos} {scope : Scope} {cl : List (Str × Addr)} {pos : Pos} {I C D ax bx : Addr} {vs us : List Value} {es qs : List Int} {news : List (Addr × Obj)} {R : Result → Shared → Prop} {s₃ : Shared} {m₃ : Str → Option Value}
    (hh : A.handled = none) (S1 : SrcAt h₀ ax vs.toArray news) (hes : IntsAre vs es) (S2' : ∃ o, (bx, o) ∈ news ∧ o.cls = .type "list" ∧ ∃ n, o.data = .seq us.toArray n) (hqs : IntsAre us qs) (hsz : es.length * qs.length ≤ 8000000) (hszq : qs.length ≤ 8000000)
    (hkind : scope.kind = .function) (hp : p ≠ q) (hlp : scope.names.lookup p = some .local) (hlq : scope.names.lookup q = some .local)
    (hI1 : ∀ led' m₂ oC a ta h tk (E' : Value → Shared → Prop), (∀ x ∈ news, x ∈ led') → NsObj oC m₂ → m₂ p = some (.int a ta) → Fr h₀ L h m → News h₀ L h ((C, oC) :: led') →
      wpAny (model prog w) A (eval i1 (compEnvC scope cl C env)) (fun v s' => v = .ref bx ∧ Same h₀ L m { s₃ with heap := h, toks := tk } ((C, oC) :: led') s') E' { s₃ with heap := h, toks := tk })
    (hT : ∀ led' m₂ oC a ta b tb h tk (E' : Value → Shared → Prop), (∀ x ∈ news, x ∈ led') → NsObj oC m₂ → m₂ p = some (.int a ta) → m₂ q = some (.int b tb) → Fr h₀ L h m → News h₀ L h ((C, oC) :: led') →
      wpAny (model prog w) A (isTrue ct (compEnvC scope cl C env) (eval ct (compEnvC scope cl C env))) (fun ok s' => ok = decide (a < b) ∧ Same h₀ L m { s₃ with heap := h, toks := tk } ((C, oC) :: led') s') E' { s₃ with heap := h, toks := tk })
    (hE : ∀ led' m₂ oC a ta b tb h tk (E' : Value → Shared → Prop), (∀ x ∈ news, x ∈ led') → NsObj oC m₂ → m₂ p = some (.int a ta) → m₂ q = some (.int b tb) → Fr h₀ L h m → News h₀ L h ((C, oC) :: led') →
      wpAny (model prog w) A (eval elt (compEnvC scope cl C env)) (fun y s' => (∃ t, y = .int b t) ∧ Same h₀ L m { s₃ with heap := h, toks := tk } ((C, oC) :: led') s') E' { s₃ with heap := h, toks := tk })
    (hst : s₃.heap.IsListIter I ax 0 ∧ s₃.heap.IsList ax vs.toArray) (hax : ax ≠ I) (F : Fr h₀ L s₃.heap m) (hC : s₃.heap.Ns C m₃) (N : News h₀ L s₃.heap ((D, lst []) :: news))
    (hoff : ∀ x ∈ news, x.1 ≠ I ∧ x.1 ≠ C ∧ x.1 ≠ D) (haC : ax ≠ C) (haD : ax ≠ D) (hIC : I ≠ C) (hID : I ≠ D) (hCD : C ≠ D) (hIL : L ≠ I) (hCL : C ≠ L) (hDL : D ≠ L) (hI₀ : h₀.get? I = none) (hC₀ : h₀.get? C = none) (hD₀ : h₀.get? D = none)
    (hbC : bx ≠ C) (hbD : bx ≠ D)
    (hs : ∀ x, foldedSetIterable i1 (compEnvC scope cl C env) x = pure x)
    (done : ∀ h tk m' ys', Fr h₀ L h m → h.Ns C m' → News h₀ L h ((D, lst ys') :: news) → IntsAre ys' (es.flatMap fun a => qs.filter fun b => decide (a < b)) → R (.ok .next) { s₃ with heap := h, toks := tk }) :
    codeAny (model prog w) A (.compLoop (.ListComp elt [⟨.Name p pp, i0, [], 0⟩, ⟨.Name q pq, i1, [ct], 0⟩] scope pos) 0 (.ref I) (.ref D) (compEnvC scope cl C env)) R s₃ := by
  have S2 : SrcAt h₀ bx us.toArray news := .inr S2'
  have W := Walks.list (prog := prog) (w := w) (A := A) hh I ax hax vs.toArray
  have hn : vs.toArray.size = es.length := by rw [List.size_toArray]; exact hes.length
  have hCf : C ∉ [I, ax] := by simp only [List.mem_cons, List.not_mem_nil, or_false, not_or]; exact ⟨Ne.symm hIC, Ne.symm haC⟩
  refine codeAny_out
    (OutSt h₀ L m s₃ C D I ax vs es qs news) ?_ (es.length + 1)
    ⟨s₃.heap, s₃.toks, 0, [], m₃, rfl, Nat.zero_le _, rfl, hst, F, hC, N, .nil⟩ (by intro v; rfl) hs
  rintro k s' ⟨h', tk, i, ys, m', rfl, hi, rfl, hst', F', hn', N', hys'⟩
  by_cases hlt : i < es.length
  · refine W.item i _ _ _ (hn ▸ hlt) hst' fun v h₂ tk₂ hPv hst₂ hk₂ => ?_
    obtain ⟨a, ta, ha, rfl⟩ := ints_at hes i v (by simpa using hPv)
    refine wpAny_assign_Name (wpAny_storeName_local (lookup_relabel_local hlp) (hn'.at' fun o e => hk₂ _ o (by simpa using Ne.symm hIC) e) (fun h₃ hn₃ hs₃ => ?_) (by simp [compEnvC, relabel, hkind]))
    have hst₃ := W.frame (i + 1) _ h₃ hst₂ fun b hb o e => hs₃.extBut b o (fun q => hCf (by have q' : b = C := q; rw [← q']; exact hb)) e
    obtain ⟨oI, heI, hoI⟩ := hst₃.1
    obtain ⟨oC, heC, hoC⟩ := ns_obj hn₃
    have F₃ : Fr h₀ L h₃ m := (fr_but F' hk₂ hIL hI₀).change hs₃ hCL hC₀
    have N₂ : News h₀ L h₂ ((D, lst ys) :: news) := news_but N' hk₂ fun x hx => by
      rcases List.mem_cons.mp hx with rfl | hx
      · exact Ne.symm hID
      · exact (hoff x hx).1
    have N₃ : News h₀ L h₃ ((D, lst ys) :: news) := fun x hx => by
      refine ⟨hs₃.extBut _ _ ?_ (N₂ x hx).1, (N₂ x hx).2⟩
      rcases List.mem_cons.mp hx with rfl | hx
      · exact Ne.symm hCD
      · exact (hoff x hx).2.1
    have N₄ : News h₀ L h₃ ((C, oC) :: (D, lst ys) :: (I, oI) :: news) := fun x hx => by
      rcases List.mem_cons.mp hx with rfl | hx
      · exact ⟨heC, hCL, hC₀⟩
      rcases List.mem_cons.mp hx with rfl | hx
      · exact N₃ _ (.head _)
      rcases List.mem_cons.mp hx with rfl | hx
      · exact ⟨heI, Ne.symm hIL, hI₀⟩
      · exact N₃ x (.tail _ hx)
    have hap : (fun z => if z = p then some (Value.int a ta) else m' z) p = some (.int a ta) := by simp
    refine wpAny_mono (hI1 _ _ oC a ta h₃ _ _ (fun x hx => .tail _ (.tail _ hx)) hoC hap F₃ N₄) (fun v s₄ h₄ => ?_) fun _ _ e => e
    obtain ⟨rfl, h₄', tk₄, rfl, F₄, N₅⟩ := h₄
    have Nn : News h₀ L h₄' news := fun x hx => N₅ x (.tail _ (.tail _ (.tail _ hx)))
    have hl2 : h₄'.IsList bx us.toArray := S2.list F₄.keep Nn
    have hblt : bx < h₄'.objs.size := by obtain ⟨_, e, _⟩ := hl2; exact Heap.lt_size e
    refine wpAny_pyIter_list hl2 ?_
    generalize hI2 : h₄'.objs.size = I2
    have hbI : bx ≠ I2 := by rw [← hI2]; exact Nat.ne_of_lt hblt
    have W2 := Walks.list (prog := prog) (w := w) (A := A) hh I2 bx hbI us.toArray
    have up : ∀ b o, h₄'.get? b = some o → (h₄'.push { cls := .type "list_iterator", data := .fields #[.ref bx, .int 0 0] }).get? b = some o := fun b o e => Heap.get?_push_of_some _ e
    have hst2 : (h₄'.push { cls := .type "list_iterator", data := .fields #[.ref bx, .int 0 0] }).IsListIter I2 bx 0 ∧ (h₄'.push { cls := .type "list_iterator", data := .fields #[.ref bx, .int 0 0] }).IsList bx us.toArray := ⟨⟨_, by rw [← hI2]; exact Heap.get?_push_size _ rfl, rfl, rfl⟩, hl2.push _⟩
    have lt2 : ∀ {b : Addr} {o : Obj}, h₄'.get? b = some o → b ≠ I2 := fun e => by rw [← hI2]; exact Nat.ne_of_lt (Heap.lt_size e)
    have eC := (N₅ (C, oC) (.head _)).1
    have eD := (N₅ (D, lst ys) (.tail _ (.head _))).1
    have eI := (N₅ (I, oI) (.tail _ (.tail _ (.head _)))).1
    have hI2₀ : h₀.get? I2 = none := by rw [← hI2]; exact next_is_new F₄
    have hLI2 : L ≠ I2 := by rw [← hI2]; exact Nat.ne_of_lt F₄.ns.lt
    have hqlen : us.toArray.size = qs.length := by rw [List.size_toArray]; exact hqs.length
    have loop : ∀ RR : Result → Shared → Prop, (∀ s', (∃ m_1, m_1 < es.length + 1 - i ∧ OutSt h₀ L m s₃ C D I ax vs es qs news m_1 s') → RR (.ok .next) s') →
        codeAny (model prog w) A (.compLoop (.ListComp elt [⟨.Name p pp, i0, [], 0⟩, ⟨.Name q pq, i1, [ct], 0⟩] scope pos) 1 (.ref I2) (.ref D) (compEnvC scope cl C env)) RR
        { s₃ with heap := h₄'.push { cls := .type "list_iterator", data := .fields #[.ref bx, .int 0 0] }, toks := tk₄ } := by
      intro RR hRR
      refine inner_loop (led := (I, oI) :: news) (s₃ := { s₃ with heap := h₄'.push { cls := .type "list_iterator", data := .fields #[.ref bx, .int 0 0] }, toks := tk₄ }) (a := a) (ta := ta) (ns := qs) (ys₀ := ys) (prev := (es.take i).flatMap fun a => qs.filter fun b => decide (a < b))
        W2 hqlen (fun i v h => ints_at hqs i v (by simpa using h)) (fun i h st => by obtain ⟨o, e, _⟩ := st.1; exact ⟨o, e⟩)
        ?_ hkind hp hlq ?_ ?_ hst2 (F₄.push _) (hoC.ns (up _ _ eC)) hap ?_ hys' ?_ ?_ (Ne.symm (lt2 eC)) (Ne.symm (lt2 eD)) hCD hLI2 hCL hDL hI2₀ hC₀ hD₀ ?_ ?_ ?_
      · intro i h h' o st e e' Nw
        refine ⟨?_, ?_⟩
        · obtain ⟨o', q, r⟩ := st.1
          rw [e] at q; cases q
          exact ⟨o, e', r⟩
        · obtain ⟨ob, hb1, hb2⟩ := S2'
          exact ⟨ob, (Nw _ (.tail _ hb1)).1, hb2⟩
      · intro led' m₂ oC' b tb h tk E' hsub
        exact hT led' m₂ oC' a ta b tb h tk E' (fun x hx => hsub x (.tail _ hx))
      · intro led' m₂ oC' b tb h tk E' hsub
        exact hE led' m₂ oC' a ta b tb h tk E' (fun x hx => hsub x (.tail _ hx))
      · intro x hx
        have z := N₅ x (.tail _ hx)
        exact ⟨up _ _ z.1, z.2⟩
      · have h1 := flat_len (es.take i) qs
        have h2 : (es.take i).length * qs.length ≤ es.length * qs.length := Nat.mul_le_mul_right _ (by rw [List.length_take]; exact Nat.min_le_right _ _)
        exact Nat.le_trans (Nat.add_le_add (Nat.le_trans h1 (Nat.le_trans h2 hsz)) hszq) (by decide)
      · intro x hx
        have z := N₅ x (.tail _ (.tail _ hx))
        refine ⟨lt2 z.1, ?_⟩
        rcases List.mem_cons.mp hx with rfl | hx
        · exact ⟨hIC, hID⟩
        · exact (hoff x hx).2
      · simp only [List.mem_cons, List.not_mem_nil, or_false, not_or]
        exact ⟨lt2 eD, Ne.symm hbD⟩
      · simp only [List.mem_cons, List.not_mem_nil, or_false, not_or]
        exact ⟨lt2 eC, Ne.symm hbC⟩
      · intro h tk mm ys' Fz hnz Nz hysz
        refine hRR _ ⟨es.length + 1 - (i + 1), lt_step hlt, h, tk, i + 1, ys', mm, rfl, hlt, rfl, ⟨?_, ?_⟩, Fz, hnz, fun x hx => Nz x ?_, ?_⟩
        · exact ⟨oI, (Nz (I, oI) (.tail _ (.head _))).1, hoI⟩
        · exact S1.list Fz.keep fun x hx => Nz x (.tail _ (.tail _ hx))
        · rcases List.mem_cons.mp hx with rfl | hx
          · exact .head _
          · exact .tail _ (.tail _ hx)
        · rw [List.take_add_one, ha, List.flatMap_append]
          simpa using hysz
    exact codeAny_compStart_in (loop _ fun _ h => h) (W2.self 0 _ _ _ hst2 (loop _ fun _ h => h))
  · obtain rfl : i = es.length := Nat.le_antisymm hi (Nat.not_lt.mp hlt)
    rw [List.take_length] at hys'
    refine W.done _ _ _ (by rw [hn]; exact hst') fun h₂ tk₂ hk₂ => ?_
    exact done h₂ tk₂ _ ys (fr_but F' hk₂ hIL hI₀) (hn'.at' fun o e => hk₂ _ o (by simpa using Ne.symm hIC) e) (news_but N' hk₂ fun x hx => by
      rcases List.mem_cons.mp hx with rfl | hx
      · exact Ne.symm hID
      · exact (hoff x hx).1) hys'
end

end
-- part Cy
section
set_option maxHeartbeats 2000000
open LCg LCt
section
variable {prog : Program} {w : World} {A : Around} {E : Value → Shared → Prop} {s : Shared} {h₀ : Heap} {L : Addr} {m : Str → Option Value} {env : Env}
inductive Src2 (prog : Program) (w : World) (A : Around) (h₀ : Heap) (L : Addr) (m : Str → Option Value) (env : Env) (elt i1 ct : Expr) (p q y : Str) (scope : Scope) (cl : List (Str × Addr)) (Q : Flow → Shared → Prop) (xv : Value) (s₁ : Shared) : Prop
  | mk (ax bx : Addr) (vs us : List Value) (es qs : List Int) (news : List (Addr × Obj)) (c1 : xv = .ref ax) (c2 : A.handled = none) (c3 : Fr h₀ L s₁.heap m) (c4 : News h₀ L s₁.heap news) (c5 : SrcAt h₀ ax vs.toArray news) (c6 : IntsAre vs es) (c7 : (∃ o, (bx, o) ∈ news ∧ o.cls = .type "list" ∧ ∃ n, o.data = .seq us.toArray n)) (c8 : IntsAre us qs) (c9 : es.length * qs.length ≤ 8000000) (c10 : qs.length ≤ 8000000) (c11 : (∀ C led' m₂ oC a ta h tk (E' : Value → Shared → Prop), (∀ x ∈ news, x ∈ led') → NsObj oC m₂ → m₂ p = some (.int a ta) → Fr h₀ L h m → News h₀ L h ((C, oC) :: led') → wpAny (model prog w) A (eval i1 (compEnvC scope cl C env)) (fun v s' => v = .ref bx ∧ Same h₀ L m { s₁ with heap := h, toks := tk } ((C, oC) :: led') s') E' { s₁ with heap := h, toks := tk })) (c12 : (∀ C led' m₂ oC a ta b tb h tk (E' : Value → Shared → Prop), (∀ x ∈ news, x ∈ led') → NsObj oC m₂ → m₂ p = some (.int a ta) → m₂ q = some (.int b tb) → Fr h₀ L h m → News h₀ L h ((C, oC) :: led') → wpAny (model prog w) A (isTrue ct (compEnvC scope cl C env) (eval ct (compEnvC scope cl C env))) (fun ok s' => ok = decide (a < b) ∧ Same h₀ L m { s₁ with heap := h, toks := tk } ((C, oC) :: led') s') E' { s₁ with heap := h, toks := tk })) (c13 : (∀ C led' m₂ oC a ta b tb h tk (E' : Value → Shared → Prop), (∀ x ∈ news, x ∈ led') → NsObj oC m₂ → m₂ p = some (.int a ta) → m₂ q = some (.int b tb) → Fr h₀ L h m → News h₀ L h ((C, oC) :: led') → wpAny (model prog w) A (eval elt (compEnvC scope cl C env)) (fun y s' => (∃ t, y = .int b t) ∧ Same h₀ L m { s₁ with heap := h, toks := tk } ((C, oC) :: led') s') E' { s₁ with heap := h, toks := tk })) (c14 : (∀ D ys h tk, IntsAre ys (es.flatMap fun a => qs.filter fun b => decide (a < b)) → Fr h₀ L h (fun z => if z = y then some (.ref D) else m z) → News h₀ L h ((D, lst ys) :: news) → (∀ p ∈ news, p.1 < D) → Q .next { s₁ with heap := h, toks := tk })) : Src2 prog w A h₀ L m env elt i1 ct p q y scope cl Q xv s₁

theorem Assign_Comp2 {elt iter i1 ct : Expr} {p q y : Str} {pp pq py : Pos} {scope : Scope} {cl : List (Str × Addr)} {pos spos : Pos} {Q : Flow → Shared → Prop} (F₀ : Fr h₀ L s.heap m) (hLe : env.locals = L)
    (hsw : swapsWith (.ListComp elt [⟨.Name p pp, iter, [], 0⟩, ⟨.Name q pq, i1, [ct], 0⟩] scope pos) (some (.Name y py)) spos.line env = pure true)
    (hclos : closureFor scope env = pure cl) (hcell : ∀ z ∈ scope.names, z.2 ≠ .cell) (hkind : scope.kind = .function)
    (hnames : ∀ z ∈ scope.names, z.2 = .local → scope.names.lookup z.1 = some .local) (hpq : p ≠ q) (hlp : scope.names.lookup p = some .local) (hlq : scope.names.lookup q = some .local)
    (hy : env.kindOf y = some .local) (hp : (env.scope.kind == .class || (env.scope.kind == .module && env.locals != env.globals)) = false)
    (h : wpAny (model prog w) A (eval iter env) (fun xv s₁ => Hold (Src2 prog w A h₀ L m env elt i1 ct p q y scope cl Q xv s₁)) E s)
    (hs : ∀ x, foldedSetIterable iter env x = pure x := by intro _; rfl) (hs1 : ∀ C x, foldedSetIterable i1 (compEnvC scope cl C env) x = pure x := by intro _ _; rfl) :
    wpAny (model prog w) A (exec (.Assign [.Name y py] (.ListComp elt [⟨.Name p pp, iter, [], 0⟩, ⟨.Name q pq, i1, [ct], 0⟩] scope pos) spos) env) Q E s := by
  subst hLe
  rw [exec_Assign_Name_used _ _ _ _ hsw]
  refine wpAny_bind (wpAny_standAt (wpAny_bind ?_))
  show wpAny _ A (do let _ ← comprehension (.ListComp elt [⟨.Name p pp, iter, [], 0⟩, ⟨.Name q pq, i1, [ct], 0⟩] scope pos) scope env _ (newList []) false (eval iter env) (some (assign (.Name y py) env))) _ _ s
  refine wpAny_bind (wpAny_mono (wpAny_comprehension_free (use := some (assign (.Name y py) env)) (Q := fun _ s' => Q .next s') rfl hs hclos hkind hnames
    (wpAny_mono h (fun xv s₁ h₁ => ?_) fun _ _ e => e)) (fun _ s' hq => wpAny_pure (wpAny_pure hq)) fun _ _ e => e)
  obtain ⟨ax, bx, vs, us, es, qs, news, rfl, hh, F, N, S1, hes, S2', hqs, hsz, hszq, hI1, hT, hE, fin⟩ := h₁
  have hl := S1.list F.keep N
  have hlt : ax < s₁.heap.objs.size := by obtain ⟨_, e, _⟩ := hl; exact Heap.lt_size e
  have hlt2 : bx < s₁.heap.objs.size := by obtain ⟨ob, hb, _⟩ := S2'; exact Heap.lt_size (N _ hb).1
  refine wpAny_pyIter_list hl ?_
  generalize hH1 : s₁.heap.push { cls := .type "list_iterator", data := .fields #[.ref ax, .int 0 0] } = H1
  have up1 : ∀ b o, s₁.heap.get? b = some o → H1.get? b = some o := fun b o e => hH1 ▸ Heap.get?_push_of_some _ e
  have hIz : H1.objs.size = s₁.heap.objs.size + 1 := by rw [← hH1, Heap.size_push]
  have hit : H1.IsListIter s₁.heap.objs.size ax 0 := ⟨_, hH1 ▸ Heap.get?_push_size _ rfl, rfl, rfl⟩
  obtain ⟨I, hIe⟩ : ∃ I : Addr, I = s₁.heap.objs.size := ⟨_, rfl⟩
  rw [← hIe] at hit ⊢
  refine wpAny_newObj_type (wpAny_newFunctionEnv hcell (by intro y hy; simp at hy) (fun h₁ hns₁ hsb₁ => ?_) hkind)
  dsimp only at hns₁ hsb₁ ⊢
  generalize hH2 : H1.push { cls := .type "list", dict := none, data := .seq ([] : List Value).toArray } = H2 at hns₁ hsb₁ ⊢
  have hC : H2.objs.size = H1.objs.size + 1 := by rw [← hH2, Heap.size_push]
  obtain ⟨C, hCe⟩ : ∃ C : Addr, C = H2.objs.size := ⟨_, rfl⟩
  obtain ⟨D, hDe⟩ : ∃ D : Addr, D = H1.objs.size := ⟨_, rfl⟩
  rw [← hCe] at hns₁ hsb₁ ⊢
  rw [← hDe]
  have nI : @Eq Nat I s₁.heap.objs.size := hIe
  have nD : @Eq Nat D (s₁.heap.objs.size + 1) := hDe.trans hIz
  have nC : @Eq Nat C (s₁.heap.objs.size + 2) := by rw [hCe, hC, hIz]
  have hDC : D ≠ C := two_ne 1 2 nD nC (by decide)
  have hIC : I ≠ C := two_ne 0 2 nI nC (by decide)
  have hID : I ≠ D := two_ne 0 1 nI nD (by decide)
  have below : ∀ b, b < s₁.heap.objs.size → b ≠ I ∧ b ≠ C ∧ b ≠ D := fun b hb => ⟨at_ne 0 nI hb, at_ne 2 nC hb, at_ne 1 nD hb⟩
  have fresh₀ : ∀ a : Addr, @LE.le Nat _ s₁.heap.objs.size a → h₀.get? a = none := fun a ha => by
    cases e : h₀.get? a with
    | none => rfl
    | some o' => exact absurd (Heap.lt_size (F.keep a o' e)) (Nat.not_lt.mpr ha)
  have old2 : ∀ b o, H1.get? b = some o → h₁.get? b = some o := fun b o e => hsb₁.extBut b o (fun q => at_ne 1 (hCe.trans hC) (Heap.lt_size e) q) (Heap.get?_push_of_some _ (hH2 ▸ Heap.get?_push_of_some _ e))
  have old : ∀ b o, s₁.heap.get? b = some o → h₁.get? b = some o := fun b o e => old2 b o (up1 b o e)
  have hacc : h₁.get? D = some (lst []) := by rw [hDe]; exact hsb₁.extBut _ _ (hDe ▸ hDC) (Heap.get?_push_of_some _ (hH2 ▸ Heap.get?_push_size _ rfl))
  have hLlt : env.locals < s₁.heap.objs.size := F.ns.lt
  have hD₀ : h₀.get? D = none := fresh₀ _ (at_le 1 nD)
  have hC₀ : h₀.get? C = none := fresh₀ _ (at_le 2 nC)
  have hI₀ : h₀.get? I = none := fresh₀ _ (at_le 0 nI)
  have hst : h₁.IsListIter I ax 0 ∧ h₁.IsList ax vs.toArray := by
    obtain ⟨o, e, r⟩ := hit
    obtain ⟨o', e', r'⟩ := hl
    exact ⟨⟨o, old2 _ _ e, r⟩, ⟨o', old _ _ e', r'⟩⟩
  have N₁ : News h₀ env.locals h₁ ((D, lst []) :: news) := fun x hx => by
    rcases List.mem_cons.mp hx with rfl | hx
    · exact ⟨hacc, Ne.symm (below _ hLlt).2.2, hD₀⟩
    · exact ⟨old _ _ (N x hx).1, (N x hx).2⟩
  have loop : ∀ s₃ : Shared, s₃ = { s₁ with heap := h₁, toks := s₁.toks + ([] : List (Str × Value)).length } →
      codeAny (model prog w) A (.compLoop (.ListComp elt [⟨.Name p pp, iter, [], 0⟩, ⟨.Name q pq, i1, [ct], 0⟩] scope pos) 0 (.ref I) (.ref D) (compEnvC scope cl C env))
        (compPost (model prog w) A E (some (assign (.Name y py) env)) (fun _ s' => Q .next s') (.ref D) C) s₃ := by
    rintro s₃ rfl
    refine outer_loop (s₃ := { s₁ with heap := h₁, toks := s₁.toks + ([] : List (Str × Value)).length }) (news := news) (vs := vs) (us := us) (es := es) (qs := qs) (bx := bx) (ax := ax) hh S1 hes S2' hqs hsz hszq hkind hpq hlp hlq
      (hI1 C) (hT C) (hE C) hst (below _ hlt).1 (F.keeps old) hns₁ N₁ (fun x hx => below _ (Heap.lt_size (N x hx).1)) (below _ hlt).2.1 (below _ hlt).2.2 hIC hID (Ne.symm hDC) (below _ hLlt).1 (Ne.symm (below _ hLlt).2.1) (Ne.symm (below _ hLlt).2.2) hI₀ hC₀ hD₀
      (below _ hlt2).2.1 (below _ hlt2).2.2 (hs1 C) ?_
    intro h' tk m' ys' F' hn N' hys
    show wpAny _ A (assign (.Name y py) env (.ref D)) _ _ _
    refine wpAny_assign_Name (wpAny_storeName_local hy F'.ns (fun h₂ hn₂ hs₂ => ?_) hp)
    have hL₀ : h₀.get? env.locals = none := Heap.get?_none_of_le F'.above
    have hCL : C ≠ env.locals := Ne.symm (below _ hLlt).2.1
    have F₂ : Fr h₀ env.locals h₂ (fun z => if z = y then some (.ref D) else m z) := ⟨hn₂, fun b o e => hs₂.extBut b o (fun q => by rw [q, hL₀] at e; cases e) (F'.keep b o e), F'.above⟩
    refine ⟨m', hn.sameBut hs₂ hCL, fun h'' hs'' => fin D ys' h'' _ hys (F₂.change hs'' hCL hC₀) (fun x hx => ?_) (fun x hx => Nat.lt_of_lt_of_le (Heap.lt_size (N x hx).1) (at_le 1 nD))⟩
    have z : h₂.get? x.1 = some x.2 := hs₂.extBut _ _ (N' x hx).2.1 (N' x hx).1
    refine ⟨hs''.extBut _ _ ?_ z, (N' x hx).2⟩
    rcases List.mem_cons.mp hx with rfl | hx
    · exact hDC
    · exact (below _ (Heap.lt_size (N x hx).1)).2.1
  exact codeAny_compStart_list (loop _ rfl) ((Walks.list (prog := prog) (w := w) (A := A) hh I ax (below _ hlt).1 vs.toArray).self 0 _ _ _ hst (loop _ rfl))
end

end
-- part Mc
section
end
-- part Tu
section
section
theorem lines8 : True := by
  k_with_none
  k_with "for_hold" => ((k_here; (rename Fr _ _ _ _ => lF'); (with_unfolding_all refine' For_hold lF' (by exact rfl) (by exact rfl) ?_; k_whole)))
  k_with "clean_enter" => ((refine' defG ?k1 ?k2 ?k3 ?k4 ?k5 ?kA ?kF ?kK ?k6 ?k7 ?k8 ?k9 ?kB ?_ ?c2 ?c3 ?c4 ?c5; (case kA => exact rfl); (case kF => exact rfl); (case kK => assumption); (case k1 => k_asm); (case k2 => k_asm); (case k3 => k_asm); (case k4 => k_asm); (case k5 => k_asm); (case k6 => k_is); (case k7 => k_is); (case k8 => ktr_room); (case k9 => exact BindsTo.of_eq rfl); (case c5 => decide); (case kB => exact locs rfl); (case c2 => exact rfl); (case c3 => exact rfl); (case c4 => exact rfl); k_whole; intro g' L' h' FG' F' N' B' X' T'; (try dsimp only); (try k_lift B'); (try k_fold)))
  k_with "cells_enter" => ((refine' code_defC ?k1 ?k2 ?k3 ?k4 ?k5 ?kA ?kF ?kK ?k6 ?k7 ?k8 ?k9 ?kB ?kD ?_ ?c2 ?c3 ?c4; (case kA => exact rfl); (case kF => exact rfl); (case kK => assumption); (case k1 => k_asm); (case k2 => k_asm); (case k3 => k_asm); (case k4 => k_asm); (case k5 => k_asm); (case k6 => k_is); (case k7 => k_is); (case k8 => ktr_room); (case k9 => exact BindsTo.of_eq rfl); (case kB => exact rfl); (case kD => decide +kernel); (case c2 => exact rfl); (case c3 => exact rfl); (case c4 => exact rfl); k_whole; intro g' L' h' tk' cells' FG' F' N' Y' B' X' T' l1; (try k_lt l1); k_cells Y'; (try simp only [List.cons_append, List.nil_append] at N'); (try dsimp only); (try k_lift B'); (try k_fold)))
  k_with "lc_hold" => ((k_here; k_dflt (refine ListComp_W (F₀ := by k_asm) (by with_unfolding_all rfl) (by decide) (by rfl) (by decide) (by rfl) ?_)))
  k_with "lk_hold" => ((k_here; (with_reducible show wpAny _ _ (eval (Expr.ListComp _ [⟨_, _, [], 0⟩] _ _) _) _ _ _); k_dflt (refine ListComp_K (F₀ := by k_asm) (by with_unfolding_all rfl) (by intro _ _; rfl) (by intro _; rfl) (by rfl) (by decide) (by intro _ _; rfl) ?_)))
  k_with "lt_hold" => ((k_here; (with_reducible show wpAny _ _ (eval (Expr.ListComp _ [⟨_, _, [_], 0⟩] _ _) _) _ _ _); k_dflt (refine ListComp_TH (F₀ := by k_asm) (by with_unfolding_all rfl) (by decide) (by rfl) (by decide) (by rfl) ?_)))
  k_with "al_hold" => ((k_here; (with_reducible show wpAny _ _ (exec (Stmt.Assign [Expr.Name _ _] (Expr.ListComp _ [⟨_, _, [], 0⟩] _ _) _) _) _ _ _); k_dflt (refine' Assign_ListComp_W (F₀ := by k_asm) (by rfl) (by with_unfolding_all rfl) (by with_unfolding_all rfl) (by decide) (by rfl) (by decide) (by rfl) (by rfl) (by rfl) ?_); k_whole))
  k_with "eval ListComp" => (k_extra "lc_hold")
  exact True.intro
set_option maxRecDepth 100000 in
set_option maxHeartbeats 8000000 in
theorem turned_sum {w : World} {p : Program} {loose : List Str} {mean : ExcName → Option Value} {mg mb : Str → Option Value} {dp un : Nat} {gd : Option (List Code)} {cn : Str} {cs : Scope} {a : Addr} {ccd : Value} {cl : List (Str × Addr)} {outer : List Env} {A₀ : Around} {base h₀ : Heap} {L : Addr} {m : Str → Option Value} {news : List (Addr × Obj)} {s : Shared} {Q E : Value → Shared → Prop}
    (B : Below A₀ base outer h₀) (F : Fr h₀ L s.heap m) (X : (Mine.hd.heap_39 w.params).In h₀) (N : News h₀ L s.heap news) (T : Top p loose mean mg mb h₀) (hk : cs.kind = .function) (hd : dp + 16 < recursionLimit) (hu : un + 160 < cLine)
    (hgd : gd = some []) (x : List Nat) (t : Tok) (hx : ∀ c ∈ x, c < 256) (h1 : 1 ≤ x.length) (hlen : x.length ≤ 5000)
    (ret : ∀ t h' tk', Fr h₀ L h' m → News h₀ L h' news → Q (.str (tx x.reverse) t) {s with heap := h', toks := tk'}) :
    wpG (model PySem.Challenge.rw_zn0009_01.row.prog w) (ktrTop dp un gd cn cs L a ccd cl outer) (call (.ref 87) [.str (tx x) t]) Q E s := by
  have hlen' : (tx x).length ≤ 5000 := by rw [tx_length]; exact hlen
  revert X
  k_fill
  intro X
  refine wpG_call ?_
  k_dflt k_extra "clean_enter"
  refine wpG_execs_cons ?_
  refine wpG_Assign_Name ?_
  refine wpG_Call_Name ?_
  k_steps
  refine wpG_callWith (P := (Mine.hd.heap_39 w.params).In) rfl (keeps_K (by k_is)) (wpG_evalArgs (wpG_spliced_cons (wpG_if_false rfl (wpG_of ?_))))
  k_steps
  unfold Hold
  (rename Fr _ _ _ _ => Fa)
  (rename News _ _ _ _ => Na)
  refine goU_str rfl Fa Na (by simp [tx]; omega) (fun g1 => comp_rest (fun i v => ∃ t, v = .int (x.getD i 0 : Nat) t) ?_ ?_)
  · intro i v I oI C oC D m₂ ys h1' tk1 E' hi hv hC hx' F1 N1 off ne
    obtain ⟨c, u, hc, rfl⟩ := hv
    clear Fa Na
    k_steps
    have e1 : x.getD i 0 = c := by
      have hc' : x[i]? = some c := by simpa [tx] using hc
      rw [List.getD_eq_getElem?_getD, hc']; rfl
    exact LCg.CompEnd.intro F1 N1 news (fun p hp => hp) off trivial ⟨rfl, _, by rw [e1]⟩
  · intro ys hl hy D h1' tk1 F1 N1 off
    clear Fa Na
    rw [tx_cps_size] at hl
    have hints : IntsAre ys (x.map fun c : Nat => (c : Int)) := ints_of (by simp [hl]) (fun i v hv => by
      obtain ⟨t, e⟩ := hy i v hv
      have hlt : i < x.length := by
        have := (List.getElem?_eq_some_iff.mp hv).1
        omega
      refine ⟨t, ?_⟩
      rw [e]
      congr 1
      simp [List.getD_eq_getElem?_getD, hlt])
    k_steps
    (rename Fr _ _ _ _ => Fb)
    (rename News _ _ _ _ => Nb)
    refine bytes_K Fb Nb ⟨_, (Nb _ (.head _)).1, rfl, _, rfl⟩ hints ?_ (by rw [sizeLine_eq]; omega) rfl (fun h2 t2 k2 F2 N2 _ => ?_)
    · intro n hn
      obtain ⟨c, hc, rfl⟩ := List.mem_map.1 hn
      have := hx c hc
      omega
    rw [show ((x.map fun c : Nat => (c : Int)).map fun n => n.toNat.toUInt8) = x.map (fun c => c.toUInt8) by simp]
    clear Fb Nb hints hy
    refine wpG_spliced_cons (wpG_if_false rfl (wpG_of ?_))
    k_steps
    (rename Fr _ _ _ _ => Fc)
    (rename News _ _ _ _ => Nc)
    (rename Frag.In _ _ => X3)
    refine wpG_spliced_nil ?_
    refine ⟨X3.keeps Fc.keep, ?_⟩
    refine' swap_sum ?k1 ?k2 ?k3 ?k4 ?k5 ?k6 ?k7 ?k8 ?k9 (x.map fun c => c.toUInt8) _ _ _ ?k10 ?k11 ?k12 ?_
    case k1 => k_asm
    case k2 => k_asm
    case k3 => k_asm
    case k4 => k_asm
    case k5 => k_asm
    case k6 => rfl
    case k7 => ktr_room
    case k8 => ktr_units
    case k9 => exact hgd
    case k10 => simp [tx_length]
    case k11 => rw [tx_length]; omega
    case k12 => rw [tx_length]; omega
    clear Fc Nc
    intro t3 h3 tk3 F3 N3
    k_steps
    refine wpG_of ?_
    k_steps
    unfold Hold
    (rename Fr _ _ _ _ => Fa)
    (rename News _ _ _ _ => Na)
    refine goU_bytes rfl Fa Na (by simp; omega) (fun g1 => comp_rest (fun i v => ∃ t : Tok, v = Value.str (tx [x.reverse.getD i 0]) t) ?_ ?_)
    · intro i v I oI C oC D m₂ ys h1' tk1 E' hi hv hC hx' F1 N1 off ne
      obtain ⟨c, u, hc, rfl⟩ := hv
      have hc2 : (c.toNat : Int) = ((x.reverse.getD i 0 : Nat) : Int) ∧ x.reverse.getD i 0 < 256 := by
        have hc' : (x.reverse.map fun c => c.toUInt8)[i]? = some c := by simpa using hc
        rw [List.getElem?_map] at hc'
        cases hq : x.reverse[i]? with
        | none => rw [hq] at hc'; cases hc'
        | some q =>
          rw [hq] at hc'
          have e1 : c = q.toUInt8 := by simpa using hc'.symm
          have hq2 : q < 256 := hx q (List.mem_reverse.1 (List.mem_of_getElem? hq))
          rw [List.getD_eq_getElem?_getD, hq, e1]
          refine ⟨?_, hq2⟩
          show ((q % 256 : Nat) : Int) = ((q : Nat) : Int)
          omega
      rw [hc2.1] at hx'
      have hc3 := hc2.2
      clear Fa Na
      k_steps
      (rename Fr _ _ _ _ => Fb)
      (rename News _ _ _ _ => Nb)
      exact LCg.CompEnd.intro Fb Nb _ (fun p hp => hp) off trivial ⟨rfl, _, by simp only [Int.toNat_natCast]; rfl⟩
    · intro ys hl hy D h1' tk1 F1 N1 off
      clear Fa Na
      have hl' : ys.length = x.length := by simpa using hl
      have hstrs : StrsAre ys ((x.reverse.map fun c => [c]).map tx) := strs_of (by simp [hl']) (fun i v y hv hl2 => by
        obtain ⟨t, e⟩ := hy i v hv
        rw [List.getElem?_map, List.getElem?_map] at hl2
        cases hq : x.reverse[i]? with
        | none => rw [hq] at hl2; cases hl2
        | some q =>
          rw [hq] at hl2
          rw [List.getD_eq_getElem?_getD, hq] at e
          simp at hl2
          subst hl2
          exact ⟨t, e⟩)
      k_steps
      (rename Fr _ _ _ _ => Fb)
      (rename News _ _ _ _ => Nb)
      have e9 : (x.reverse.map fun c => [c]).flatten = x.reverse := by rw [← List.flatMap_def]; simp
      refine call_join_flat ⟨_, (Nb _ (.head _)).1, rfl, _, rfl⟩ hstrs (by rw [e9]; simp; omega) (fun t9 k9 => ?_)
      rw [e9]
      k_steps
      (rename Fr _ _ _ _ => Fz)
      (rename News _ _ _ _ => Nz)
      exact ret _ _ _ Fz (Nz.perm fun p hp => .tail _ (.tail _ hp))
end

end
-- part To
section
theorem off_lt {p : Addr × Obj} {L c : Addr} (h : p.1 < L) (hc : @LE.le Nat _ L c) : p.1 ≠ c := Nat.ne_of_lt (Nat.lt_of_lt_of_le h hc)
theorem sgn_other {w : Int} {c : Nat} (h : c ∉ [38, 60, 62, 34, 9, 13]) : sgn w c = [c] := by
  simp only [List.mem_cons, List.not_mem_nil, or_false, not_or] at h
  unfold sgn nameOf
  simp [h]
theorem occ_no {M : Str} {c : Nat} (h : c ∉ [38, 60, 62, 34, 9, 13]) (hM : ∀ d ∈ M.cps.toList, d ∈ [38, 60, 62, 34, 9, 13]) (hq : (Builtin.Str.occurrences M (tx [c]) 0 M.length 1).isEmpty = false) : False := by
  have f := StrLaws.found_one M c
  have e : (⟨#[c]⟩ : Str) = tx [c] := rfl
  rw [e, hq] at f
  have f' := f.symm
  simp only [Bool.not_false, decide_eq_true_eq] at f'
  exact h (hM c (by simpa using f'))
section
local macro_rules | `(tactic| k_all) => `(tactic| (intro p' hp'; (rename ∀ p ∈ _, Prod.fst p < _ => lq'); exact off_lt (lq' p' hp') (by omega)))
theorem lines9 : True := by
  k_with_none
  k_with "for_hold" => ((k_here; (rename Fr _ _ _ _ => lF'); (with_unfolding_all refine' For_hold lF' (by exact rfl) (by exact rfl) ?_; k_whole)))
  k_with "clean_enter" => ((refine' defG ?k1 ?k2 ?k3 ?k4 ?k5 ?kA ?kF ?kK ?k6 ?k7 ?k8 ?k9 ?kB ?_ ?c2 ?c3 ?c4 ?c5; (case kA => exact rfl); (case kF => exact rfl); (case kK => assumption); (case k1 => k_asm); (case k2 => k_asm); (case k3 => k_asm); (case k4 => k_asm); (case k5 => k_asm); (case k6 => k_is); (case k7 => k_is); (case k8 => ktr_room); (case k9 => exact BindsTo.of_eq rfl); (case c5 => decide); (case kB => exact locs rfl); (case c2 => exact rfl); (case c3 => exact rfl); (case c4 => exact rfl); k_whole; intro g' L' h' FG' F' N' B' X' T'; (try dsimp only); (try k_lift B'); (try k_fold)))
  k_with "cells_enter" => ((refine' code_defC ?k1 ?k2 ?k3 ?k4 ?k5 ?kA ?kF ?kK ?k6 ?k7 ?k8 ?k9 ?kB ?kD ?_ ?c2 ?c3 ?c4; (case kA => exact rfl); (case kF => exact rfl); (case kK => assumption); (case k1 => k_asm); (case k2 => k_asm); (case k3 => k_asm); (case k4 => k_asm); (case k5 => k_asm); (case k6 => k_is); (case k7 => k_is); (case k8 => ktr_room); (case k9 => exact BindsTo.of_eq rfl); (case kB => exact rfl); (case kD => decide +kernel); (case c2 => exact rfl); (case c3 => exact rfl); (case c4 => exact rfl); k_whole; intro g' L' h' tk' cells' FG' F' N' Y' B' X' T' l1; (try k_lt l1); k_cells Y'; (try simp only [List.cons_append, List.nil_append] at N'); (try dsimp only); (try k_lift B'); (try k_fold)))
  k_with "lc_hold" => ((k_here; k_dflt (refine ListComp_W (F₀ := by k_asm) (by with_unfolding_all rfl) (by decide) (by rfl) (by decide) (by rfl) ?_)))
  k_with "lk_hold" => ((k_here; (with_reducible show wpAny _ _ (eval (Expr.ListComp _ [⟨_, _, [], 0⟩] _ _) _) _ _ _); k_dflt (refine ListComp_K (F₀ := by k_asm) (by with_unfolding_all rfl) (by intro _ _; rfl) (by intro _; rfl) (by rfl) (by decide) (by intro _ _; rfl) ?_)))
  k_with "lt_hold" => ((k_here; (with_reducible show wpAny _ _ (eval (Expr.ListComp _ [⟨_, _, [_], 0⟩] _ _) _) _ _ _); k_dflt (refine ListComp_TH (F₀ := by k_asm) (by with_unfolding_all rfl) (by decide) (by rfl) (by decide) (by rfl) ?_)))
  k_with "al_hold" => ((k_here; (with_reducible show wpAny _ _ (exec (Stmt.Assign [Expr.Name _ _] (Expr.ListComp _ [⟨_, _, [], 0⟩] _ _) _) _) _ _ _); k_dflt (refine' Assign_ListComp_W (F₀ := by k_asm) (by rfl) (by with_unfolding_all rfl) (by with_unfolding_all rfl) (by decide) (by rfl) (by decide) (by rfl) (by rfl) (by rfl) ?_); k_whole))
  k_with "CompEnd" => (((rename Fr _ _ _ _ => Fb'); (rename News _ _ _ _ => Nb'); refine LCg.CompEnd.intro Fb' Nb' _ (fun p hp => hp) (by assumption) trivial ⟨rfl, ?_⟩))
  k_with "eval ListComp" => (k_extra "lc_hold")
  exact True.intro
set_option maxRecDepth 100000 in
set_option maxHeartbeats 8000000 in
theorem told_sum {w : World} {p : Program} {loose : List Str} {mean : ExcName → Option Value} {mg mb : Str → Option Value} {dp un : Nat} {gd : Option (List Code)} {cn : Str} {cs : Scope} {a : Addr} {ccd : Value} {cl : List (Str × Addr)} {outer : List Env} {A₀ : Around} {base h₀ : Heap} {L : Addr} {m : Str → Option Value} {news : List (Addr × Obj)} {s : Shared} {Q E : Value → Shared → Prop}
    (B : Below A₀ base outer h₀) (F : Fr h₀ L s.heap m) (X : (Mine.hd.heap_39 w.params).In h₀) (N : News h₀ L s.heap news) (T : Top p loose mean mg mb h₀) (hk : cs.kind = .function) (hd : dp + 16 < recursionLimit) (hu : un + 160 < cLine)
    (x : List Nat) (t t2 : Tok) (wr : Int) (h0 : 0 ≤ wr) (h1 : wr < 3) (hlen : x.length ≤ 5000)
    (ret : ∀ t h' tk', Fr h₀ L h' m → News h₀ L h' news → Q (.str (tx (toldL wr x)) t) {s with heap := h', toks := tk'}) :
    wpAny (model PySem.Challenge.rw_zn0009_01.row.prog w) (ktrTop dp un gd cn cs L a ccd cl outer) (call (.ref 82) [.str (tx x) t, .int wr t2]) Q E s := by
  have hlen' : (tx x).length ≤ 5000 := by rw [tx_length]; exact hlen
  revert X
  k_fill
  intro X
  refine wpAny_call ?_
  k_dflt k_extra "cells_enter"
  obtain ⟨Rl, hRl⟩ : ∃ R : Nat → Value → Prop, R = fun i v => ∃ t : Tok, v = Value.str (tx (sgn wr (x.getD i 0))) t := ⟨_, rfl⟩
  have ret' : ∀ (t : Tok) (h' : Heap) (tk' : Nat), Fr h₀ L h' m → News h₀ L h' news → Q (Value.str (tx (x.map (sgn wr)).flatten) t) {s with heap := h', toks := tk'} := by
    rw [← List.flatMap_def]; exact ret
  have hRs : ∀ ys : List Value, ys.length = x.length → (∀ i v, ys[i]? = some v → Rl i v) → StrsAre ys ((x.map (sgn wr)).map tx) ∧ (x.map (sgn wr)).flatten.length ≤ 1000000 := by
    intro ys hl hy
    refine ⟨strs_of (by simp [hl]) (fun i v y hv hl2 => ?_), ?_⟩
    · have := hy i v hv
      rw [hRl] at this
      obtain ⟨t, e⟩ := this
      rw [List.getElem?_map, List.getElem?_map] at hl2
      cases hq : x[i]? with
      | none => rw [hq] at hl2; cases hl2
      | some q =>
        rw [hq] at hl2
        rw [List.getD_eq_getElem?_getD, hq] at e
        simp at hl2
        subst hl2
        exact ⟨t, e⟩
    · rw [← List.flatMap_def]
      have : ∀ l : List Nat, (l.flatMap (sgn wr)).length ≤ 6 * l.length := by
        intro l
        induction l with
        | nil => simp
        | cons c r ih => rw [List.flatMap_cons, List.length_append, List.length_cons]; have := sgn_length wr c; omega
      have := this x
      omega
  clear ret
  obtain rfl | rfl | rfl : wr = 0 ∨ wr = 1 ∨ wr = 2 := by omega
  all_goals k_steps
  all_goals (
    unfold Hold
    (rename Fr _ _ _ _ => Fa)
    (rename News _ _ _ _ => Na)
    refine goU_str rfl Fa Na (by rw [tx_cps_size]; omega) (fun g1 => comp_rest Rl ?_ ?_))
  all_goals first
    | (intro i v I oI C oC D m₂ ys h1' tk1 E' hi hv hC hx' F1 N1 off ne
       obtain ⟨u, rfl⟩ := signAt_tx hv
       have hend : ∀ y (t : Tok), y = tx (sgn _ (x.getD i 0)) → Rl i (.str y t) := fun y t e => by rw [hRl]; exact ⟨t, by rw [e]⟩
       clear hv Fa Na hRs hRl
       generalize x.getD i 0 = c at hx' hend
       generalize Rl i = R' at hend ⊢
       by_cases c0 : c = 38
       · subst c0
         rw [show tx [38] = Str.ofString "&" by decide +kernel] at hx'
         k_steps
         all_goals first | exact hend _ _ (by decide +kernel) | (exfalso; (rename List.isEmpty _ = _ => hq); revert hq; decide +kernel)
       by_cases c1 : c = 60
       · subst c1
         rw [show tx [60] = Str.ofString "<" by decide +kernel] at hx'
         k_steps
         all_goals first | exact hend _ _ (by decide +kernel) | (exfalso; (rename List.isEmpty _ = _ => hq); revert hq; decide +kernel)
       by_cases c2 : c = 62
       · subst c2
         rw [show tx [62] = Str.ofString ">" by decide +kernel] at hx'
         k_steps
         all_goals first | exact hend _ _ (by decide +kernel) | (exfalso; (rename List.isEmpty _ = _ => hq); revert hq; decide +kernel)
       by_cases c3 : c = 34
       · subst c3
         rw [show tx [34] = Str.ofString "\"" by decide +kernel] at hx'
         k_steps
         all_goals first | exact hend _ _ (by decide +kernel) | (exfalso; (rename List.isEmpty _ = _ => hq); revert hq; decide +kernel)
       by_cases c4 : c = 9
       · subst c4
         rw [show tx [9] = Str.ofString "\t" by decide +kernel] at hx'
         k_steps
         all_goals first | exact hend _ _ (by decide +kernel) | (exfalso; (rename List.isEmpty _ = _ => hq); revert hq; decide +kernel)
       by_cases c5 : c = 13
       · subst c5
         rw [show tx [13] = Str.ofString "\r" by decide +kernel] at hx'
         k_steps
         all_goals first | exact hend _ _ (by decide +kernel) | (exfalso; (rename List.isEmpty _ = _ => hq); revert hq; decide +kernel)
       have hno : c ∉ [38, 60, 62, 34, 9, 13] := by simp [c0, c1, c2, c3, c4, c5]
       clear c0 c1 c2 c3 c4 c5
       k_steps
       all_goals first
         | exact hend _ _ (congrArg tx (sgn_other hno).symm)
         | (exfalso; (rename List.isEmpty _ = false => hq); exact occ_no hno (by decide +kernel) hq))
    | (intro ys hl hy D h1' tk1 F1 N1 off
       clear Fa Na
       rw [tx_cps_size] at hl
       obtain ⟨hstrs, hz⟩ := hRs ys hl hy
       clear hRs hRl hy
       k_steps
       (rename Fr _ _ _ _ => Fb)
       (rename News _ _ _ _ => Nb)
       refine call_join_flat ⟨_, (Nb _ (.head _)).1, rfl, _, rfl⟩ hstrs hz (fun t9 k9 => ?_)
       k_steps
       (rename Fr _ _ _ _ => Fz)
       (rename News _ _ _ _ => Nz)
       exact ret' _ _ _ Fz (Nz.perm fun p hp => by simp only [List.mem_cons]; simp [hp]))
end

end
-- part Dk
section
section
variable {prog : Program} {w : World} {A : Around} {E : Value → Shared → Prop} {s : Shared} {env : Env} {h₀ : Heap} {target : Expr} {body : List Stmt} {Q : Flow → Shared → Prop}

theorem ForT_hold {iter : Expr} {pos : Pos} {m : Str → Option Value} (F : Fr h₀ env.locals s.heap m)
    (h : wpAny (model prog w) A (eval iter env) (fun xv s₁ => Hold (wpAny (model prog w) A (pyIter xv) (fun it s₂ => TurnsAt prog w A h₀ env target body Q E it s₂) E s₁)) E s)
    (hs : ∀ x, foldedSetIterable iter env x = pure x := by intro _; rfl)
    (hE : PassesOwn (model prog w) A env E := by passes_own) :
    wpAny (model prog w) A (exec (.For target iter body [] pos) env) Q E s := For_turns F h hs hE

/-- what a turn leaves: the state told by J, the iterator and the dict as they were -/
inductive TurnEndI (h₀ : Heap) (L : Addr) (s₁ : Shared) (it : Addr × Obj) (adr : List Addr) (d : Addr × Obj) (J : (Str → Option Value) → List (Addr × Obj) → Prop) (s₂ : Shared) : Prop
  | mk (h' : Heap) (tk : Nat) (m' : Str → Option Value) (all nx : List (Addr × Obj)) (e : s₂ = { s₁ with heap := h', toks := tk }) (F : Fr h₀ L h' m') (N : News h₀ L h' all) (hi : it ∈ all) (hn : ∀ p ∈ nx, p ∈ all) (hd : d ∈ nx) (ha : nx.map (·.1) = adr) (hj : J m' nx) : TurnEndI h₀ L s₁ it adr d J s₂
def TurnEnd (h₀ : Heap) (L : Addr) (s₁ : Shared) (it : Addr × Obj) (adr : List Addr) (d : Addr × Obj) (J : (Str → Option Value) → List (Addr × Obj) → Prop) (Q : Flow → Shared → Prop) (f : Flow) (s₂ : Shared) : Prop :=
  match f with
  | .ret v => Q (.ret v) s₂
  | .brk => Q .next s₂
  | _ => TurnEndI h₀ L s₁ it adr d J s₂
theorem TurnEnd.next {L : Addr} {s₁ : Shared} {it : Addr × Obj} {adr : List Addr} {d : Addr × Obj} {J : (Str → Option Value) → List (Addr × Obj) → Prop} {h' : Heap} {tk : Nat} {m' : Str → Option Value} {all : List (Addr × Obj)} (nx : List (Addr × Obj))
    (F : Fr h₀ L h' m') (N : News h₀ L h' all) (hi : it ∈ all) (hn : ∀ p ∈ nx, p ∈ all) (hd : d ∈ nx) (ha : nx.map (·.1) = adr) (hj : J m' nx) : TurnEnd h₀ L s₁ it adr d J Q .next { s₁ with heap := h', toks := tk } :=
  ⟨h', tk, m', all, nx, rfl, F, N, hi, hn, hd, ha, hj⟩
theorem TurnEnd.unr {L I : Addr} {s₁ : Shared} {it : Obj} {adr : List Addr} {d : Addr × Obj} {J : (Str → Option Value) → List (Addr × Obj) → Prop} {rest : (Str → Option Value) → List (Addr × Obj) → Prop} (hI : ∀ a ∈ adr, a ≠ I)
    (hr : ∀ m' nx, nx.map (·.1) = adr → d ∈ nx → J m' nx → rest m' nx) {f : Flow} {s₂ : Shared} (h : TurnEnd h₀ L s₁ (I, it) adr d J Q f s₂) : UnrPostW h₀ L s₁ [(I, it)] rest Q f s₂ := by
  have go : TurnEndI h₀ L s₁ (I, it) adr d J s₂ → UnrEndW h₀ L s₁ [(I, it)] rest s₂ := by
    rintro ⟨h', tk, m', all, nx, e, F, N, hi, hn, hd, ha, hj⟩
    refine ⟨h', tk, m', nx, e, F, fun p hp => ?_, fun p hp q hq => ?_, hr m' nx ha hd hj⟩
    · rcases List.mem_append.mp hp with hp | hp
      · rw [List.mem_singleton.mp hp]; exact N _ hi
      · exact N _ (hn p hp)
    · rw [List.mem_singleton.mp hq]
      exact hI _ (ha ▸ List.mem_map_of_mem hp)
  cases f with
  | ret v => exact h
  | brk => exact h
  | next => exact go h
  | cont => exact go h

theorem items_rest {Itms : List Itm} {I : Addr} {ty : String} {d : Addr} {od : Obj} {news₀ : List (Addr × Obj)} (J : Nat → (Str → Option Value) → List (Addr × Obj) → Prop) (hI : ∀ p ∈ news₀, p.1 < I)
    (turn : ∀ i a v h tk m₁ nx it, Itms[i]? = some a → a.Is v h → it.cls = .type ty → Fr h₀ env.locals h m₁ → News h₀ env.locals h ((I, it) :: nx) → nx.map (·.1) = news₀.map (·.1) → (d, od) ∈ nx → J i m₁ nx →
      wpAny (model prog w) A (assign target env v) (fun _ s₂ => wpAny (model prog w) A (execs body env) (TurnEnd h₀ env.locals { s with heap := h, toks := tk } (I, it) (news₀.map (·.1)) (d, od) (J (i + 1)) Q) E s₂) E { s with heap := h, toks := tk })
    (done : ∀ h tk m₁ nx, J Itms.length m₁ nx → Fr h₀ env.locals h m₁ → News h₀ env.locals h nx → Q .next { s with heap := h, toks := tk }) :
    ∀ (xs : List Itm) (i : Nat) (m₁ : Str → Option Value) (nx : List (Addr × Obj)), xs = Itms.drop i → i ≤ Itms.length → nx.map (·.1) = news₀.map (·.1) → (d, od) ∈ nx → J i m₁ nx →
      ItemsRest prog w A E h₀ env target body Q s [(I, ty)] [(d, od)] xs m₁ nx := by
  intro xs
  induction xs with
  | nil =>
    intro i m₁ nx hx hi ha hd hj
    have e : i = Itms.length := by
      have := congrArg List.length hx
      simp at this
      omega
    subst e
    exact ItemsRest.zero fun h tk F N => done h tk m₁ nx hj F N
  | cons a r ih =>
    intro i m₁ nx hx hi ha hd hj
    have hlt : i < Itms.length := by
      have := congrArg List.length hx
      simp at this
      omega
    have hdrop := List.drop_eq_getElem_cons hlt
    rw [hdrop] at hx
    obtain ⟨rfl, hr⟩ := List.cons.inj hx
    intro v h tk hv F
    refine AllObj.cons fun o ho => AllObj.nil fun N => ?_
    refine wpAny_mono (turn i _ v h tk m₁ nx o (List.getElem?_eq_getElem hlt) hv ho F N ha hd hj) (fun _ s₂ h₂ => wpAny_mono h₂ (fun f s₃ p => ?_) fun _ _ e => e) fun _ _ e => e
    refine TurnEnd.unr (fun a ha' => ?_) (fun m' nx' ha' hd' hj' => ⟨⟨hd', trivial⟩, ?_⟩) p
    · obtain ⟨q, hq, rfl⟩ := List.mem_map.1 ha'
      exact Nat.ne_of_lt (hI q hq)
    · exact ih (i + 1) m' nx' hr hlt ha' hd' hj'

theorem iter_itemsC {elts : List Expr} {kk : Nat} {pos : Pos} {d vw : Addr} {od : Obj} {c : List (Int × Int)} {m₀ : Str → Option Value} {news : List (Addr × Obj)} (J : Nat → (Str → Option Value) → List (Addr × Obj) → Prop)
    (hh : A.handled = none) (F : Fr h₀ env.locals s.heap m₀) (N : News h₀ env.locals s.heap news) (hvw : ∃ ov, s.heap.get? vw = some ov ∧ ov.cls = .type "dict_items" ∧ ov.data = .fields #[.ref d]) (T : IntTab prog w s.heap d (kdfD c)) (hm : (d, od) ∈ news) (hj : J 0 m₀ news)
    (turn : ∀ i k x T t u h tk m₁ nx I it, c[i]? = some (k, x) → IsTup h T #[.int k t, .int x u] → (∀ a ∈ news.map (·.1), a ≠ I) → Fr h₀ env.locals h m₁ → News h₀ env.locals h ((I, it) :: nx) → nx.map (·.1) = news.map (·.1) → (d, od) ∈ nx → J i m₁ nx →
      wpAny (model prog w) A (assign (.Tuple elts kk pos) env (.ref T)) (fun _ s₂ => wpAny (model prog w) A (execs body env) (TurnEnd h₀ env.locals { s with heap := h, toks := tk } (I, it) (news.map (·.1)) (d, od) (J (i + 1)) Q) E s₂) E { s with heap := h, toks := tk })
    (done : ∀ h tk m₁ nx, J c.length m₁ nx → Fr h₀ env.locals h m₁ → News h₀ env.locals h nx → Q .next { s with heap := h, toks := tk }) :
    wpAny (model prog w) A (pyIter (.ref vw)) (fun it s₂ => TurnsAt prog w A h₀ env (.Tuple elts kk pos) body Q E it s₂) E s := by
  refine kti_items (xs := (kdfD c).map (fun p => Itm.pairF (kyVal p.1) p.2)) hh F N hvw T hm (fun k v hk => ?_) rfl fun I hI => ?_
  · have e : v.isInt k = true := hk
    cases v <;> simp [Value.isInt] at e
    exact ⟨_, by rw [e]; rfl⟩
  · refine items_rest (Itms := (kdfD c).map (fun p => Itm.pairF (kyVal p.1) p.2)) J hI ?_ (fun h tk m₁ nx hj' => done h tk m₁ nx (by simpa using hj')) _ 0 m₀ news rfl (Nat.zero_le _) rfl hm hj
    rintro i a v h tk m₁ nx it ha hv hit F₁ N₁ hadr hd hJ
    simp only [kdfD, List.map_map, List.getElem?_map] at ha
    cases hc : c[i]? with
    | none => rw [hc] at ha; cases ha
    | some p =>
      rw [hc] at ha
      obtain rfl := Option.some.inj ha
      obtain ⟨T', t, x, rfl, hx, ht⟩ := hv
      obtain ⟨u, rfl⟩ := PyProof.V.Flat.int_inv hx
      refine turn i p.1 p.2 T' t u h tk m₁ nx I it hc ht ?_ F₁ N₁ hadr hd hJ
      intro b hb
      obtain ⟨q, hq, rfl⟩ := List.mem_map.1 hb
      exact Nat.ne_of_lt (hI q hq)

theorem iter_valsC {d vw : Addr} {od : Obj} {c : List (Int × Int)} {m₀ : Str → Option Value} {news : List (Addr × Obj)} (J : Nat → (Str → Option Value) → List (Addr × Obj) → Prop)
    (hh : A.handled = none) (F : Fr h₀ env.locals s.heap m₀) (N : News h₀ env.locals s.heap news) (hvw : s.heap.IsValuesView vw d) (T : IntTab prog w s.heap d (kdfD c)) (hm : (d, od) ∈ news) (hj : J 0 m₀ news)
    (turn : ∀ i k x u h tk m₁ nx I it, c[i]? = some (k, x) → (∀ a ∈ news.map (·.1), a ≠ I) → Fr h₀ env.locals h m₁ → News h₀ env.locals h ((I, it) :: nx) → nx.map (·.1) = news.map (·.1) → (d, od) ∈ nx → J i m₁ nx →
      wpAny (model prog w) A (assign target env (.int x u)) (fun _ s₂ => wpAny (model prog w) A (execs body env) (TurnEnd h₀ env.locals { s with heap := h, toks := tk } (I, it) (news.map (·.1)) (d, od) (J (i + 1)) Q) E s₂) E { s with heap := h, toks := tk })
    (done : ∀ h tk m₁ nx, J c.length m₁ nx → Fr h₀ env.locals h m₁ → News h₀ env.locals h nx → Q .next { s with heap := h, toks := tk }) :
    wpAny (model prog w) A (pyIter (.ref vw)) (fun it s₂ => TurnsAt prog w A h₀ env target body Q E it s₂) E s := by
  refine kti_vals (xs := (kdfD c).map (fun p => Itm.flat p.2)) hh F N hvw T hm rfl fun I hI => ?_
  refine items_rest (Itms := (kdfD c).map (fun p => Itm.flat p.2)) J hI ?_ (fun h tk m₁ nx hj' => done h tk m₁ nx (by simpa using hj')) _ 0 m₀ news rfl (Nat.zero_le _) rfl hm hj
  rintro i a v h tk m₁ nx it ha hv hit F₁ N₁ hadr hd hJ
  simp only [kdfD, List.map_map, List.getElem?_map] at ha
  cases hc : c[i]? with
  | none => rw [hc] at ha; cases ha
  | some p =>
    rw [hc] at ha
    obtain rfl := Option.some.inj ha
    have hx : Flat v (.int p.2) := hv
    obtain ⟨u, rfl⟩ := PyProof.V.Flat.int_inv hx
    refine turn i p.1 p.2 u h tk m₁ nx I it hc ?_ F₁ N₁ hadr hd hJ
    intro b hb
    obtain ⟨q, hq, rfl⟩ := List.mem_map.1 hb
    exact Nat.ne_of_lt (hI q hq)
end

end
-- part Dm
section
theorem kdf_getItem {prog : Program} {w : World} {A : Around} {E : Value → Shared → Prop} {s : Shared} {d : Addr} {c : List (Int × Int)} {k : Int} {tk : Tok} {Q : Value → Shared → Prop} (T : IntTab prog w s.heap d (kdfD c)) (hk : kdfHas c k = true) (h : ∀ t, Q (.int (kdfLook c k 0) t) { s with toks := s.toks + 1 }) :
    wpAny (model prog w) A (getItem (.ref d) (.int k tk)) Q E s := by
  obtain ⟨lo, kvs, hd, hf⟩ := T
  obtain ⟨v, hv, hfl⟩ := hf.of_lookup PyProof.V.same_int (kdfD_item hk)
  obtain ⟨t, rfl⟩ := PyProof.V.Flat.int_inv hfl
  exact wpAny_getItem_of (intKind_is _ _ _ _) hd.mapOf hv (h t)
inductive DicAt (prog : Program) (w : World) (c : List (Int × Int)) (d : Addr) (news nx : List (Addr × Obj)) : Prop
  | mk (o : Obj) (kvs : List (Int × Value)) (e : nx = (d, o) :: news) (hd : o.IsDictOf (PySem.intKind prog w) kvs) (hf : FlatPairs PyData.int kvs (kdfD c)) : DicAt prog w c d news nx
def Jd (f : List (Int × Int) → Int × Int → List (Int × Int)) (prog : Program) (w : World) (b c : List (Int × Int)) (x y : Str) (d : Addr) (news : List (Addr × Obj)) (m₀ : Str → Option Value) (i : Nat) (m : Str → Option Value) (nx : List (Addr × Obj)) : Prop :=
  DicAt prog w ((c.take i).foldl f b) d news nx ∧ ∀ z : Str, z ≠ x → z ≠ y → m z = m₀ z
theorem fold_take {α β : Type} {f : β → α → β} {c : List α} {i : Nat} {p : α} (h : c[i]? = some p) (b : β) : (c.take (i + 1)).foldl f b = f ((c.take i).foldl f b) p := by
  rw [List.take_add_one, h]
  simp

end
-- part Cc
section

def Jc (c : List (Int × Int)) (a b : Str) (news : List (Addr × Obj)) (m₀ : Str → Option Value) (i : Nat) (m : Str → Option Value) (nx : List (Addr × Obj)) : Prop :=
  nx = news ∧ (∃ t, m a = some (.int ((c.take i).map (·.2)).sum t)) ∧ ∀ z : Str, z ≠ a → z ≠ b → m z = m₀ z
theorem sum_take {c : List (Int × Int)} {i : Nat} {k x : Int} (h : c[i]? = some (k, x)) : ((c.take (i + 1)).map (·.2)).sum = ((c.take i).map (·.2)).sum + x := by
  rw [List.take_add_one, h]
  simp
theorem mapVA {a b : Str} {m₁ m₀ : Str → Option Value} {v : Value} (ha : m₁ a = some v) (hm : ∀ z, z ≠ a → z ≠ b → m₁ z = m₀ z) :
    m₁ = fun y => if y = a then some v else if y = b then m₁ y else m₀ y := by
  funext y
  by_cases h1 : y = a
  · rw [if_pos h1, h1]; exact ha
  · rw [if_neg h1]
    by_cases h2 : y = b
    · rw [if_pos h2]
    · rw [if_neg h2]; exact hm y h1 h2
section
theorem lines10 : True := by
  k_with_none
  k_with "for_hold" => ((k_here; (rename Fr _ _ _ _ => lF'); (with_unfolding_all refine' For_hold lF' (by exact rfl) (by exact rfl) ?_; k_whole)))
  k_with "clean_enter" => ((refine' defG ?k1 ?k2 ?k3 ?k4 ?k5 ?kA ?kF ?kK ?k6 ?k7 ?k8 ?k9 ?kB ?_ ?c2 ?c3 ?c4 ?c5; (case kA => exact rfl); (case kF => exact rfl); (case kK => assumption); (case k1 => k_asm); (case k2 => k_asm); (case k3 => k_asm); (case k4 => k_asm); (case k5 => k_asm); (case k6 => k_is); (case k7 => k_is); (case k8 => ktr_room); (case k9 => exact BindsTo.of_eq rfl); (case c5 => decide); (case kB => exact locs rfl); (case c2 => exact rfl); (case c3 => exact rfl); (case c4 => exact rfl); k_whole; intro g' L' h' FG' F' N' B' X' T'; (try dsimp only); (try k_lift B'); (try k_fold)))
  k_with "cells_enter" => ((refine' code_defC ?k1 ?k2 ?k3 ?k4 ?k5 ?kA ?kF ?kK ?k6 ?k7 ?k8 ?k9 ?kB ?kD ?_ ?c2 ?c3 ?c4; (case kA => exact rfl); (case kF => exact rfl); (case kK => assumption); (case k1 => k_asm); (case k2 => k_asm); (case k3 => k_asm); (case k4 => k_asm); (case k5 => k_asm); (case k6 => k_is); (case k7 => k_is); (case k8 => ktr_room); (case k9 => exact BindsTo.of_eq rfl); (case kB => exact rfl); (case kD => decide +kernel); (case c2 => exact rfl); (case c3 => exact rfl); (case c4 => exact rfl); k_whole; intro g' L' h' tk' cells' FG' F' N' Y' B' X' T' l1; (try k_lt l1); k_cells Y'; (try simp only [List.cons_append, List.nil_append] at N'); (try dsimp only); (try k_lift B'); (try k_fold)))
  k_with "lc_hold" => ((k_here; k_dflt (refine ListComp_W (F₀ := by k_asm) (by with_unfolding_all rfl) (by decide) (by rfl) (by decide) (by rfl) ?_)))
  k_with "lk_hold" => ((k_here; (with_reducible show wpAny _ _ (eval (Expr.ListComp _ [⟨_, _, [], 0⟩] _ _) _) _ _ _); k_dflt (refine ListComp_K (F₀ := by k_asm) (by with_unfolding_all rfl) (by intro _ _; rfl) (by intro _; rfl) (by rfl) (by decide) (by intro _ _; rfl) ?_)))
  k_with "lt_hold" => ((k_here; (with_reducible show wpAny _ _ (eval (Expr.ListComp _ [⟨_, _, [_], 0⟩] _ _) _) _ _ _); k_dflt (refine ListComp_TH (F₀ := by k_asm) (by with_unfolding_all rfl) (by decide) (by rfl) (by decide) (by rfl) ?_)))
  k_with "al_hold" => ((k_here; (with_reducible show wpAny _ _ (exec (Stmt.Assign [Expr.Name _ _] (Expr.ListComp _ [⟨_, _, [], 0⟩] _ _) _) _) _ _ _); k_dflt (refine' Assign_ListComp_W (F₀ := by k_asm) (by rfl) (by with_unfolding_all rfl) (by with_unfolding_all rfl) (by decide) (by rfl) (by decide) (by rfl) (by rfl) (by rfl) ?_); k_whole))
  k_with "forT_hold" => ((k_here; (rename Fr _ _ _ _ => lF'); (with_unfolding_all refine' ForT_hold lF' ?_); k_whole))
  k_with "m_mem" => (first | with_reducible assumption | exact List.Mem.head _ | (refine' List.mem_cons_of_mem _ ?_; k_extra "m_mem"))
  k_with "m_tab" => (exact TabAt.ofNews (by k_asm) (by k_extra "m_mem") (by k_asm) (by k_asm) (by k_asm))
  k_with "m_items" => ((k_here; (with_reducible show wpAny _ _ (getMethod (Value.ref _) (PySem.Str.ofString "items") _) _ _ _); k_dflt (refine getMethod_tab (knd := PySem.intKind _ _) (enc := PyData.int) PySem.F.slot_dict_items PySem.F.type_dict_items (by k_extra "m_tab") ?_)))
  k_with "m_get" => ((k_here; (with_reducible show wpAny _ _ (getMethod (Value.ref _) (PySem.Str.ofString "get") _) _ _ _); k_dflt (refine getMethod_tab (knd := PySem.intKind _ _) (enc := PyData.int) PySem.F.slot_dict_get PySem.F.type_dict_get (by k_extra "m_tab") ?_)))
  k_with "m_callItems" => ((k_here; (with_reducible show wpAny _ _ (call (Value.builtin "dict.items") [Value.ref _]) _ _ _); k_dflt (refine' call_items_tab (knd := PySem.intKind _ _) (enc := PyData.int) (by k_extra "m_tab") (by k_asm) (by k_asm) ?_); intro h' o' hv' F' N'))
  k_with "m_callGet" => ((k_here; (with_reducible show wpAny _ _ (call (Value.builtin "dict.get") [Value.ref _, Value.int _ _, Value.int _ _]) _ _ _); k_dflt (refine kdf_get2 (by k_extra "m_tab") ?_); intro _))
  k_with "m_in" => ((k_here; k_dflt (refine kdf_in (by k_extra "m_tab") ?_)))
  k_with "m_item" => ((k_here; (with_reducible show wpAny _ _ (subscriptTail _ _ (Value.ref _) (Value.int _ _)) _ _ _); k_dflt (refine kdf_item (by k_extra "m_tab") (by assumption) ?_); intro _))
  k_with "m_off" => (first | with_reducible assumption | exact List.forall_mem_nil _ | (refine' List.forall_mem_cons.mpr ⟨(by k_extra "m_ne0"), (by k_extra "m_off")⟩))
  k_with "m_ne0" => ((dsimp only; first | with_reducible assumption | (refine Ne.symm ?_; with_reducible assumption) | k_ne))
  k_with "m_upd" => (first | (refine' UpdF.head (by k_extra "m_off")) | (refine' UpdF.tail (by k_extra "m_ne0") (by k_extra "m_upd")))
  k_with "m_set" => ((k_here; (with_reducible show wpAny _ _ (setItem (Value.ref _) (Value.int _ _) (Value.int _ _)) _ _ _); k_dflt (refine' kdf_setItem (by k_asm) (by k_asm) (by k_extra "m_upd") (by k_asm) (by k_asm) (by first | with_reducible assumption | omega) ?_); intro h' o' kvs' F' N' hd' hf'; (try dsimp only at N')))
  k_with "m_getItem" => ((k_here; (with_reducible show wpAny _ _ (getItem (Value.ref _) (Value.int _ _)) _ _ _); k_dflt (refine kdf_getItem (by k_extra "m_tab") (by assumption) ?_); intro _))
  k_with "exec For Name Call cons nil" => (k_extra "forT_hold")
  exact True.intro
set_option maxRecDepth 100000 in
set_option maxHeartbeats 8000000 in
theorem count_sum {w : World} {p : Program} {loose : List Str} {mean : ExcName → Option Value} {mg mb : Str → Option Value} {dp un : Nat} {gd : Option (List Code)} {cn : Str} {cs : Scope} {a : Addr} {ccd : Value} {cl : List (Str × Addr)} {outer : List Env} {A₀ : Around} {base h₀ : Heap} {L : Addr} {m : Str → Option Value} {news : List (Addr × Obj)} {s : Shared} {Q E : Value → Shared → Prop}
    (B : Below A₀ base outer h₀) (F : Fr h₀ L s.heap m) (X : (Mine.hd.heap_39 w.params).In h₀) (N : News h₀ L s.heap news) (T : Top p loose mean mg mb h₀) (hk : cs.kind = .function) (hd : dp + 8 < recursionLimit) (hu : un + 80 < cLine)
    (d : Addr) (od : Obj) (kvs : List (Int × Value)) (c : List (Int × Int)) (lo : (d == sysModules) = false) (hm : (d, od) ∈ news) (hd1 : od.IsDictOf (PySem.intKind PySem.Challenge.rw_zn0009_01.row.prog w) kvs) (hf1 : FlatPairs PyData.int kvs (kdfD c)) (hlen : c.length ≤ 100)
    (ret : ∀ t h' tk', Fr h₀ L h' m → News h₀ L h' news → Q (.int ((c.map (·.2)).sum) t) {s with heap := h', toks := tk'}) :
    wpAny (model PySem.Challenge.rw_zn0009_01.row.prog w) (ktrTop dp un gd cn cs L a ccd cl outer) (call (.ref 28) [.ref d]) Q E s := by
  revert X
  k_fill
  intro X
  refine wpAny_call ?_
  k_dflt cell_enter
  k_steps
  unfold Hold
  (rename Fr _ _ _ _ => Fa)
  (rename News _ _ _ _ => Na)
  refine iter_valsC (c := c) (Jc c "nc" "calls" (_ :: news) _) rfl Fa Na (by exact ⟨_, (Na _ (.head _)).1, rfl, rfl⟩) (TabAt.ofNews Na (.tail _ hm) lo hd1 hf1) (.tail _ hm) ⟨rfl, ⟨_, rfl⟩, fun _ _ _ => rfl⟩ ?_ ?_
  · rintro i k x u h tk m₁ nx I it hc hI F1 N1 ha hd' ⟨rfl, ⟨ts, hs⟩, hmm⟩
    rw [mapVA hs hmm] at F1
    clear hs hmm Fa Na
    k_steps
    (rename Fr _ _ _ _ => Fe)
    (rename News _ _ _ _ => Ne)
    refine TurnEnd.next _ Fe Ne (.head _) (fun p hp => .tail _ hp) hd' ha ⟨rfl, ⟨_, by rw [sum_take hc]; rfl⟩, fun z h1 h2 => ?_⟩
    simp only [h1, h2, if_false]
  · rintro h tk m₁ nx ⟨rfl, ⟨ts, hs⟩, hmm⟩ F1 N1
    rw [mapVA hs hmm] at F1
    clear hs hmm Fa Na
    k_steps
    rw [List.take_length]
    (rename Fr _ _ _ _ => Fz)
    (rename News _ _ _ _ => Nz)
    exact ret _ _ _ Fz (Nz.perm fun p hp => .tail _ hp)
end

end
-- part Ad
section
def putOne (c : List (Int × Int)) (p : Int × Int) : List (Int × Int) := kdfPut c p.1 p.2
def addOne (c : List (Int × Int)) (p : Int × Int) : List (Int × Int) := kdfPut c p.1 (kdfLook c p.1 0 + p.2)
def addC (c₁ c₂ : List (Int × Int)) : List (Int × Int) := c₂.foldl addOne (c₁.foldl putOne [])
theorem putOne_len (c : List (Int × Int)) (p : Int × Int) : (putOne c p).length ≤ c.length + 1 := kdfPut_len _ _ _
theorem addOne_len (c : List (Int × Int)) (p : Int × Int) : (addOne c p).length ≤ c.length + 1 := kdfPut_len _ _ _
theorem fold_len (f : List (Int × Int) → Int × Int → List (Int × Int)) (hf : ∀ c p, (f c p).length ≤ c.length + 1) : ∀ (l b : List (Int × Int)), (l.foldl f b).length ≤ b.length + l.length
  | [], b => by simp
  | p :: l, b => by
    have h1 := fold_len f hf l (f b p)
    have h2 := hf b p
    simp only [List.foldl_cons, List.length_cons]
    omega
theorem look_no {c : List (Int × Int)} {k : Int} (h : kdfHas c k = false) : kdfLook c k 0 = 0 := by
  unfold kdfLook
  have e : (c.find? fun p => decide (p.1 = k)) = none := by
    rw [List.find?_eq_none]
    intro x hx hq
    unfold kdfHas at h
    rw [List.any_eq_false] at h
    exact h x hx hq
  rw [e]; rfl
theorem addOne_no {c : List (Int × Int)} {k x : Int} (h : kdfHas c k = false) : addOne c (k, x) = kdfPut c k x := by
  unfold addOne
  rw [look_no h, Int.zero_add]
section
theorem lines11 : True := by
  k_with_none
  k_with "for_hold" => ((k_here; (rename Fr _ _ _ _ => lF'); (with_unfolding_all refine' For_hold lF' (by exact rfl) (by exact rfl) ?_; k_whole)))
  k_with "clean_enter" => ((refine' defG ?k1 ?k2 ?k3 ?k4 ?k5 ?kA ?kF ?kK ?k6 ?k7 ?k8 ?k9 ?kB ?_ ?c2 ?c3 ?c4 ?c5; (case kA => exact rfl); (case kF => exact rfl); (case kK => assumption); (case k1 => k_asm); (case k2 => k_asm); (case k3 => k_asm); (case k4 => k_asm); (case k5 => k_asm); (case k6 => k_is); (case k7 => k_is); (case k8 => ktr_room); (case k9 => exact BindsTo.of_eq rfl); (case c5 => decide); (case kB => exact locs rfl); (case c2 => exact rfl); (case c3 => exact rfl); (case c4 => exact rfl); k_whole; intro g' L' h' FG' F' N' B' X' T'; (try dsimp only); (try k_lift B'); (try k_fold)))
  k_with "cells_enter" => ((refine' code_defC ?k1 ?k2 ?k3 ?k4 ?k5 ?kA ?kF ?kK ?k6 ?k7 ?k8 ?k9 ?kB ?kD ?_ ?c2 ?c3 ?c4; (case kA => exact rfl); (case kF => exact rfl); (case kK => assumption); (case k1 => k_asm); (case k2 => k_asm); (case k3 => k_asm); (case k4 => k_asm); (case k5 => k_asm); (case k6 => k_is); (case k7 => k_is); (case k8 => ktr_room); (case k9 => exact BindsTo.of_eq rfl); (case kB => exact rfl); (case kD => decide +kernel); (case c2 => exact rfl); (case c3 => exact rfl); (case c4 => exact rfl); k_whole; intro g' L' h' tk' cells' FG' F' N' Y' B' X' T' l1; (try k_lt l1); k_cells Y'; (try simp only [List.cons_append, List.nil_append] at N'); (try dsimp only); (try k_lift B'); (try k_fold)))
  k_with "lc_hold" => ((k_here; k_dflt (refine ListComp_W (F₀ := by k_asm) (by with_unfolding_all rfl) (by decide) (by rfl) (by decide) (by rfl) ?_)))
  k_with "lk_hold" => ((k_here; (with_reducible show wpAny _ _ (eval (Expr.ListComp _ [⟨_, _, [], 0⟩] _ _) _) _ _ _); k_dflt (refine ListComp_K (F₀ := by k_asm) (by with_unfolding_all rfl) (by intro _ _; rfl) (by intro _; rfl) (by rfl) (by decide) (by intro _ _; rfl) ?_)))
  k_with "lt_hold" => ((k_here; (with_reducible show wpAny _ _ (eval (Expr.ListComp _ [⟨_, _, [_], 0⟩] _ _) _) _ _ _); k_dflt (refine ListComp_TH (F₀ := by k_asm) (by with_unfolding_all rfl) (by decide) (by rfl) (by decide) (by rfl) ?_)))
  k_with "al_hold" => ((k_here; (with_reducible show wpAny _ _ (exec (Stmt.Assign [Expr.Name _ _] (Expr.ListComp _ [⟨_, _, [], 0⟩] _ _) _) _) _ _ _); k_dflt (refine' Assign_ListComp_W (F₀ := by k_asm) (by rfl) (by with_unfolding_all rfl) (by with_unfolding_all rfl) (by decide) (by rfl) (by decide) (by rfl) (by rfl) (by rfl) ?_); k_whole))
  k_with "forT_hold" => ((k_here; (rename Fr _ _ _ _ => lF'); (with_unfolding_all refine' ForT_hold lF' ?_); k_whole))
  k_with "m_mem" => (first | with_reducible assumption | exact List.Mem.head _ | (refine' List.mem_cons_of_mem _ ?_; k_extra "m_mem"))
  k_with "m_tab" => (exact TabAt.ofNews (by k_asm) (by k_extra "m_mem") (by k_asm) (by k_asm) (by k_asm))
  k_with "m_items" => ((k_here; (with_reducible show wpAny _ _ (getMethod (Value.ref _) (PySem.Str.ofString "items") _) _ _ _); k_dflt (refine getMethod_tab (knd := PySem.intKind _ _) (enc := PyData.int) PySem.F.slot_dict_items PySem.F.type_dict_items (by k_extra "m_tab") ?_)))
  k_with "m_get" => ((k_here; (with_reducible show wpAny _ _ (getMethod (Value.ref _) (PySem.Str.ofString "get") _) _ _ _); k_dflt (refine getMethod_tab (knd := PySem.intKind _ _) (enc := PyData.int) PySem.F.slot_dict_get PySem.F.type_dict_get (by k_extra "m_tab") ?_)))
  k_with "m_callItems" => ((k_here; (with_reducible show wpAny _ _ (call (Value.builtin "dict.items") [Value.ref _]) _ _ _); k_dflt (refine' call_items_tab (knd := PySem.intKind _ _) (enc := PyData.int) (by k_extra "m_tab") (by k_asm) (by k_asm) ?_); intro h' o' hv' F' N'))
  k_with "m_callGet" => ((k_here; (with_reducible show wpAny _ _ (call (Value.builtin "dict.get") [Value.ref _, Value.int _ _, Value.int _ _]) _ _ _); k_dflt (refine kdf_get2 (by k_extra "m_tab") ?_); intro _))
  k_with "m_in" => ((k_here; k_dflt (refine kdf_in (by k_extra "m_tab") ?_)))
  k_with "m_item" => ((k_here; (with_reducible show wpAny _ _ (subscriptTail _ _ (Value.ref _) (Value.int _ _)) _ _ _); k_dflt (refine kdf_item (by k_extra "m_tab") (by assumption) ?_); intro _))
  k_with "m_off" => (first | with_reducible assumption | exact List.forall_mem_nil _ | (refine' List.forall_mem_cons.mpr ⟨(by k_extra "m_ne0"), (by k_extra "m_off")⟩))
  k_with "m_ne0" => ((dsimp only; first | with_reducible assumption | (refine Ne.symm ?_; with_reducible assumption) | k_ne))
  k_with "m_upd" => (first | (refine' UpdF.head (by k_extra "m_off")) | (refine' UpdF.tail (by k_extra "m_ne0") (by k_extra "m_upd")))
  k_with "m_set" => ((k_here; (with_reducible show wpAny _ _ (setItem (Value.ref _) (Value.int _ _) (Value.int _ _)) _ _ _); k_dflt (refine' kdf_setItem (by k_asm) (by k_asm) (by k_extra "m_upd") (by k_asm) (by k_asm) (by first | with_reducible assumption | omega) ?_); intro h' o' kvs' F' N' hd' hf'; (try dsimp only at N')))
  k_with "m_getItem" => ((k_here; (with_reducible show wpAny _ _ (getItem (Value.ref _) (Value.int _ _)) _ _ _); k_dflt (refine kdf_getItem (by k_extra "m_tab") (by assumption) ?_); intro _))
  k_with "getItem ref int" => (k_extra "m_getItem")
  k_with "exec For Tuple Call cons nil" => (k_extra "forT_hold")
  k_with "compareOp In int ref" => (k_extra "m_in")
  k_with "subscriptTail" => (k_extra "m_item")
  k_with "setItem ref int" => (k_extra "m_set")
  k_with "getMethod ref" => (k_extra "m_items")
  k_with "call builtin:dict.items" => (k_extra "m_callItems")
  exact True.intro
set_option maxRecDepth 100000 in
set_option maxHeartbeats 8000000 in
theorem add_sum {w : World} {p : Program} {loose : List Str} {mean : ExcName → Option Value} {mg mb : Str → Option Value} {dp un : Nat} {gd : Option (List Code)} {cn : Str} {cs : Scope} {a : Addr} {ccd : Value} {cl : List (Str × Addr)} {outer : List Env} {A₀ : Around} {base h₀ : Heap} {L : Addr} {m : Str → Option Value} {news : List (Addr × Obj)} {s : Shared} {Q E : Value → Shared → Prop}
    (B : Below A₀ base outer h₀) (F : Fr h₀ L s.heap m) (X : (Mine.hd.heap_39 w.params).In h₀) (N : News h₀ L s.heap news) (T : Top p loose mean mg mb h₀) (hk : cs.kind = .function) (hd : dp + 8 < recursionLimit) (hu : un + 80 < cLine)
    (d1 d2 : Addr) (o1 o2 : Obj) (kvs1 kvs2 : List (Int × Value)) (c1 c2 : List (Int × Int)) (lo1 : (d1 == sysModules) = false) (hm1 : (d1, o1) ∈ news) (hd1 : o1.IsDictOf (PySem.intKind PySem.Challenge.rw_zn0009_01.row.prog w) kvs1) (hf1 : FlatPairs PyData.int kvs1 (kdfD c1)) (hlen1 : c1.length ≤ 100)
    (lo2 : (d2 == sysModules) = false) (hm2 : (d2, o2) ∈ news) (hd2 : o2.IsDictOf (PySem.intKind PySem.Challenge.rw_zn0009_01.row.prog w) kvs2) (hf2 : FlatPairs PyData.int kvs2 (kdfD c2)) (hlen2 : c2.length ≤ 100)
    (ret : ∀ d o kvs h' tk', Fr h₀ L h' m → News h₀ L h' ((d, o) :: news) → o.IsDictOf (PySem.intKind PySem.Challenge.rw_zn0009_01.row.prog w) kvs → FlatPairs PyData.int kvs (kdfD (addC c1 c2)) → (d == sysModules) = false → (∀ p ∈ news, p.1 ≠ d) → Q (.ref d) {s with heap := h', toks := tk'}) :
    wpAny (model PySem.Challenge.rw_zn0009_01.row.prog w) (ktrTop dp un gd cn cs L a ccd cl outer) (call (.ref 21) [.ref d1, .ref d2]) Q E s := by
  revert X
  k_fill
  intro X
  refine wpAny_call ?_
  k_dflt cell_enter
  k_steps

  unfold Hold
  (rename Fr _ _ _ _ => Fa)
  (rename News _ _ _ _ => Na)
  (rename ∀ p ∈ _, Prod.fst p < _ => l1)
  (rename (_ == sysModules) = false => lod)
  have hoff : ∀ p ∈ news, p.1 ≠ _ := fun p hp => Nat.ne_of_lt (l1 p hp)
  replace Na := kti_tail Na
  refine iter_itemsC (c := c1) (Jd putOne PySem.Challenge.rw_zn0009_01.row.prog w [] c1 "func" "caller" _ news _) rfl Fa Na (by assumption) (TabAt.ofNews Na (.tail _ hm1) lo1 hd1 hf1) (.tail _ hm1) ⟨⟨_, _, rfl, by assumption, by assumption⟩, fun _ _ _ => rfl⟩ ?_ ?_
  · rintro i k x T t u h tk m₁ nx I it hc hT hI F1 N1 ha hdn ⟨⟨on, kvsn, rfl, hdo, hfo⟩, hmm⟩
    rw [mapAB' hmm] at F1
    have hne := hI _ (.head _)
    have hle := fold_len putOne putOne_len (c1.take i) []
    rw [List.length_take, List.length_nil] at hle
    clear hmm Fa Na hd2 hf2 hd1 hf1 l1 hI
    k_steps
    (rename Fr _ _ _ _ => Fe)
    (rename News _ _ _ _ => Ne)
    refine TurnEnd.next (_ :: news) Fe Ne (.head _) (fun p hp => .tail _ hp) (.tail _ hm1) rfl ⟨⟨_, _, rfl, by assumption, by rw [fold_take hc]; assumption⟩, fun z h1 h2 => ?_⟩
    simp only [h1, h2, if_false]
  · rintro h tk m₁ nx ⟨⟨on, kvsn, rfl, hdo, hfo⟩, hmm⟩ F1 N1
    rw [mapAB' hmm] at F1
    rw [List.take_length] at hfo
    clear hmm Fa Na
    k_steps
    unfold Hold
    (rename Fr _ _ _ _ => Fa)
    (rename News _ _ _ _ => Na)
    replace Na := kti_tail Na
    have hle1 := fold_len putOne putOne_len c1 []
    rw [List.length_nil] at hle1
    refine iter_itemsC (c := c2) (Jd addOne PySem.Challenge.rw_zn0009_01.row.prog w (c1.foldl putOne []) c2 "func" "caller" _ news _) rfl Fa Na (by assumption) (TabAt.ofNews Na (.tail _ hm2) lo2 hd2 hf2) (.tail _ hm2) ⟨⟨_, _, rfl, by assumption, by assumption⟩, fun _ _ _ => rfl⟩ ?_ ?_
    · rintro i k x T t u h tk m₁ nx I it hc hT hI F1 N1 ha hdn ⟨⟨on, kvsn, rfl, hdo, hfo⟩, hmm⟩
      rw [mapAB' hmm] at F1
      have hne := hI _ (.head _)
      have hle := fold_len addOne addOne_len (c2.take i) (c1.foldl putOne [])
      rw [List.length_take] at hle
      clear hmm Fa Na hd2 hf2 hd1 hf1 l1 hI
      k_steps
      all_goals (
        (rename Fr _ _ _ _ => Fe)
        (rename News _ _ _ _ => Ne)
        refine TurnEnd.next (_ :: news) Fe Ne (.head _) (fun p hp => .tail _ hp) (.tail _ hm2) rfl ⟨⟨_, _, rfl, by assumption, ?_⟩, fun z h1 h2 => ?_⟩)
      · rw [fold_take hc]; assumption
      · simp only [h1, h2, if_false]
      · (rename kdfHas _ _ = false => hno)
        rw [fold_take hc, addOne_no hno]; assumption
      · simp only [h1, h2, if_false]
    · rintro h tk m₁ nx ⟨⟨on, kvsn, rfl, hdo, hfo⟩, hmm⟩ F1 N1
      rw [mapAB' hmm] at F1
      rw [List.take_length] at hfo
      clear hmm Fa Na
      k_steps
      (rename Fr _ _ _ _ => Fz)
      (rename News _ _ _ _ => Nz)
      exact ret _ _ _ _ _ Fz Nz hdo hfo lod hoff
end

end
-- part Tb
section
/-- which of the word's four letters the sign is -/
def e4 (a b c d : Bool) : Nat → Bool
  | 0 => a
  | 1 => b
  | 2 => c
  | 3 => d
  | _ => false
def eOf (w : List Nat) (c : Nat) : Nat → Bool := e4 (decide (w.getD 0 0 = c)) (decide (w.getD 1 0 = c)) (decide (w.getD 2 0 = c)) (decide (w.getD 3 0 = c))
theorem eOf_at (w : List Nat) (c : Nat) {j : Nat} (h : j < 4) : eOf w c j = decide (w.getD j 0 = c) := by
  match j, h with
  | 0, _ => rfl
  | 1, _ => rfl
  | 2, _ => rfl
  | 3, _ => rfl
/-- the table of a stretch's numbers: g i k tells the stretch of k letters from i on -/
def tabOf (g : Nat → Nat → Int) : List (Int × Int) := (List.range 5).flatMap fun i => (List.range (5 - i)).map fun k => ((10 * i + (i + k : Nat) : Int), g i k)
def moreCell (b : Bool) (e : Nat → Bool) (T : List (Int × Int)) (i : Nat) (M : List (Int × Int)) (k : Nat) : List (Int × Int) :=
  if e (i + k) = true then kdfPut M (10 * i + (i + k : Nat) + 1) (kdfLook T (10 * i + (i + k : Nat)) 0 + (if b = true then kdfLook M (10 * i + (i + k : Nat)) 0 else 0)) else M
def moreRow (b : Bool) (e : Nat → Bool) (T M : List (Int × Int)) (i : Nat) : List (Int × Int) := (List.range (4 - i)).foldl (moreCell b e T i) M
def moreT (b : Bool) (e : Nat → Bool) (T : List (Int × Int)) : List (Int × Int) := (List.range 4).foldl (moreRow b e T) []
def dltO (b : Bool) (e : Nat → Bool) (g : Nat → Nat → Int) (i : Nat) : Nat → Option Int
  | 0 => none
  | k + 1 => if e (i + k) = true then some (g i k + (if b = true then (dltO b e g i k).getD 0 else 0)) else none
def nxt (b : Bool) (e : Nat → Bool) (g : Nat → Nat → Int) (i k : Nat) : Int := match dltO b e g i k with
  | none => g i k
  | some d => g i k + d
theorem turn4 (g : Nat → Nat → Int) (b a₀ a₁ a₂ a₃ : Bool) : addC (tabOf g) (moreT b (e4 a₀ a₁ a₂ a₃) (tabOf g)) = tabOf (nxt b (e4 a₀ a₁ a₂ a₃) g) := by
  cases b <;> cases a₀ <;> cases a₁ <;> cases a₂ <;> cases a₃ <;> kernel_rfl
theorem turn_tab (g : Nat → Nat → Int) (b : Bool) (w : List Nat) (c : Nat) : addC (tabOf g) (moreT b (eOf w c) (tabOf g)) = tabOf (nxt b (eOf w c) g) := turn4 g b _ _ _ _
theorem turn_none (g : Nat → Nat → Int) (b : Bool) {w : List Nat} {c : Nat} (hw : w.length = 4) (h : c ∉ w) : tabOf (nxt b (eOf w c) g) = tabOf g := by
  match w, hw with
  | [a₀, a₁, a₂, a₃], _ =>
    have e : eOf [a₀, a₁, a₂, a₃] c = e4 false false false false := by
      simp only [List.mem_cons, List.not_mem_nil, or_false, not_or] at h
      unfold eOf
      simp [Ne.symm h.1, Ne.symm h.2.1, Ne.symm h.2.2.1, Ne.symm h.2.2.2]
    rw [e]
    cases b <;> kernel_rfl
theorem tab_has (g : Nat → Nat → Int) {i k : Nat} (h : i + k < 5) {z : Int} (hz : z = 10 * i + (i + k : Nat)) : kdfHas (tabOf g) z = true := by
  subst hz
  match i, k, h with
  | 0, 0, _ => kernel_rfl
  | 0, 1, _ => kernel_rfl
  | 0, 2, _ => kernel_rfl
  | 0, 3, _ => kernel_rfl
  | 0, 4, _ => kernel_rfl
  | 1, 0, _ => kernel_rfl
  | 1, 1, _ => kernel_rfl
  | 1, 2, _ => kernel_rfl
  | 1, 3, _ => kernel_rfl
  | 2, 0, _ => kernel_rfl
  | 2, 1, _ => kernel_rfl
  | 2, 2, _ => kernel_rfl
  | 3, 0, _ => kernel_rfl
  | 3, 1, _ => kernel_rfl
  | 4, 0, _ => kernel_rfl
  | 0, k + 5, h => omega
  | 1, k + 4, h => omega
  | 2, k + 3, h => omega
  | 3, k + 2, h => omega
  | 4, k + 1, h => omega
  | i + 5, k, h => omega
theorem tab_look (g : Nat → Nat → Int) {i k : Nat} (h : i + k < 5) {z : Int} (hz : z = 10 * i + (i + k : Nat)) : kdfLook (tabOf g) z 0 = g i k := by
  subst hz
  match i, k, h with
  | 0, 0, _ => kernel_rfl
  | 0, 1, _ => kernel_rfl
  | 0, 2, _ => kernel_rfl
  | 0, 3, _ => kernel_rfl
  | 0, 4, _ => kernel_rfl
  | 1, 0, _ => kernel_rfl
  | 1, 1, _ => kernel_rfl
  | 1, 2, _ => kernel_rfl
  | 1, 3, _ => kernel_rfl
  | 2, 0, _ => kernel_rfl
  | 2, 1, _ => kernel_rfl
  | 2, 2, _ => kernel_rfl
  | 3, 0, _ => kernel_rfl
  | 3, 1, _ => kernel_rfl
  | 4, 0, _ => kernel_rfl
  | 0, k + 5, h => omega
  | 1, k + 4, h => omega
  | 2, k + 3, h => omega
  | 3, k + 2, h => omega
  | 4, k + 1, h => omega
  | i + 5, k, h => omega
theorem tab_len (g : Nat → Nat → Int) : (tabOf g).length = 15 := by kernel_rfl
theorem moreCell_len (b : Bool) (e : Nat → Bool) (T : List (Int × Int)) (i : Nat) (c : List (Int × Int)) (k : Nat) : (moreCell b e T i c k).length ≤ c.length + 1 := by
  unfold moreCell
  split
  · exact kdfPut_len _ _ _
  · omega
/-- the tables, sign by sign -/
def tally (b : Bool) (w : List Nat) (l : List Nat) : Nat → Nat → Int := l.foldl (fun g c => nxt b (eOf w c) g) (fun _ k => if k = 0 then 1 else 0)
theorem tally_snoc (b : Bool) (w l : List Nat) (c : Nat) : tally b w (l ++ [c]) = nxt b (eOf w c) (tally b w l) := by
  unfold tally
  rw [List.foldl_append]; rfl

end
-- part Ls
section
section
variable {prog : Program} {w : World} {A : Around} {E : Value → Shared → Prop} {s : Shared} {env : Env} {h₀ : Heap} {x : Str} {body : List Stmt} {Q : Flow → Shared → Prop}
/-- what a turn leaves whose ledger may change its places -/
inductive GEndI (h₀ : Heap) (L : Addr) (s₁ : Shared) (it : Addr × Obj) (J : (Str → Option Value) → List (Addr × Obj) → Prop) (s₂ : Shared) : Prop
  | mk (h' : Heap) (tk : Nat) (m' : Str → Option Value) (all nx : List (Addr × Obj)) (e : s₂ = { s₁ with heap := h', toks := tk }) (F : Fr h₀ L h' m') (N : News h₀ L h' all) (hi : it ∈ all) (hn : ∀ p ∈ nx, p ∈ all) (ha : ∀ p ∈ nx, p.1 ≠ it.1) (hj : J m' nx) : GEndI h₀ L s₁ it J s₂
def GEnd (h₀ : Heap) (L : Addr) (s₁ : Shared) (it : Addr × Obj) (J : (Str → Option Value) → List (Addr × Obj) → Prop) (Q : Flow → Shared → Prop) (f : Flow) (s₂ : Shared) : Prop :=
  match f with
  | .ret v => Q (.ret v) s₂
  | .brk => Q .next s₂
  | _ => GEndI h₀ L s₁ it J s₂
theorem GEnd.next {L : Addr} {s₁ : Shared} {it : Addr × Obj} {J : (Str → Option Value) → List (Addr × Obj) → Prop} {h' : Heap} {tk : Nat} {m' : Str → Option Value} {all : List (Addr × Obj)} (nx : List (Addr × Obj))
    (F : Fr h₀ L h' m') (N : News h₀ L h' all) (hi : it ∈ all) (hn : ∀ p ∈ nx, p ∈ all) (ha : ∀ p ∈ nx, p.1 ≠ it.1) (hj : J m' nx) : GEnd h₀ L s₁ it J Q .next { s₁ with heap := h', toks := tk } :=
  ⟨h', tk, m', all, nx, rfl, F, N, hi, hn, ha, hj⟩

theorem loop_G {I : Addr} {n : Nat} {P : Nat → Value → Prop} {St : Nat → Heap → Prop} {m₀ : Str → Option Value} {news : List (Addr × Obj)} (J : Nat → (Str → Option Value) → List (Addr × Obj) → Prop)
    (W : Walks prog w A I [I] [I] n P St) (hIo : ∀ i h, St i h → ∃ o, h.get? I = some o) (hLf : env.locals ≠ I) (hI₀ : h₀.get? I = none) (hnw : ∀ p ∈ news, p.1 ≠ I) (hst : St 0 s.heap) (F : Fr h₀ env.locals s.heap m₀) (N : News h₀ env.locals s.heap news) (hj : J 0 m₀ news)
    (turn : ∀ i v m₁ nx h tk it, i < n → P i v → J i m₁ nx → (∀ p ∈ nx, p.1 ≠ I) → Fr h₀ env.locals h (fun y => if y = x then some v else m₁ y) → News h₀ env.locals h ((I, it) :: nx) →
      wpAny (model prog w) A (execs body env) (GEnd h₀ env.locals { s with heap := h, toks := tk } (I, it) (J (i + 1)) Q) E { s with heap := h, toks := tk })
    (done : ∀ m₁ nx h tk, J n m₁ nx → Fr h₀ env.locals h m₁ → News h₀ env.locals h nx → Q .next { s with heap := h, toks := tk }) :
    LoopAtV prog w A h₀ env x body Q E (.ref I) s := by
  refine ⟨I, [I], [I], n, P, St, m₀, news, J, rfl, W, by simpa using hLf, fun b hb => by rw [List.mem_singleton.mp hb]; exact hI₀, fun p hp => by simpa using hnw p hp, hst, F, N, hj, ?_, ?_⟩
  · rintro i v m₁ nx s₁ own ⟨hh', tk', rfl⟩ hin hP hJ hoff hown hget hall hst₁ F₁ N₁
    obtain ⟨it, hit⟩ := hIo _ _ hst₁
    have hm : (I, it) ∈ own := hall I (by simp) hI₀ it hit
    have hown' : ∀ p ∈ own, p = (I, it) := by
      intro p hp
      have h1 : p.1 = I := by simpa using hown p hp
      have h2 := hget p hp
      rw [h1] at h2
      have h3 : it = p.2 := Option.some.inj (hit.symm.trans h2)
      exact Prod.ext h1 h3.symm
    have hnx : ∀ p ∈ nx, p.1 ≠ I := fun p hp => by simpa using hoff p hp
    refine wpAny_mono (turn i v m₁ nx hh' tk' it hin hP hJ hnx F₁ (fun p hp => N₁ p ?_)) (fun f s₂ p => ?_) fun _ _ e => e
    · rcases List.mem_cons.mp hp with rfl | hp
      · exact List.mem_append_left _ hm
      · exact List.mem_append_right _ hp
    have fin : GEndI h₀ env.locals { s with heap := hh', toks := tk' } (I, it) (J (i + 1)) s₂ → LoopStepU h₀ env.locals [I] own (J (i + 1)) { s with heap := hh', toks := tk' } .next s₂ := by
      rintro ⟨h', tk, m', all, nx', e, F', N', hi, hn, ha, hj'⟩
      refine ⟨rfl, h', tk, m', nx', e, F', fun p hp => ?_, fun p hp => by simpa using ha p hp, hj'⟩
      rcases List.mem_append.mp hp with hp | hp
      · rw [hown' p hp]; exact N' _ hi
      · exact N' _ (hn p hp)
    cases f with
    | ret v => exact .ret p
    | brk => exact .brk p
    | next => exact .next (fin p)
    | cont => exact .cont (fin p)
  · rintro h' tk m' news' F' N' _ hJ
    exact done m' news' h' tk hJ F' N'

theorem iter_strG {l : List Nat} {t : Tok} {m₀ : Str → Option Value} {news : List (Addr × Obj)} (J : Nat → (Str → Option Value) → List (Addr × Obj) → Prop)
    (hh : A.handled = none) (F : Fr h₀ env.locals s.heap m₀) (N : News h₀ env.locals s.heap news) (hj : J 0 m₀ news)
    (turn : ∀ i c u m₁ nx h tk I it, l[i]? = some c → J i m₁ nx → (∀ p ∈ nx, p.1 ≠ I) → Fr h₀ env.locals h (fun y => if y = x then some (.str (tx [c]) u) else m₁ y) → News h₀ env.locals h ((I, it) :: nx) →
      wpAny (model prog w) A (execs body env) (GEnd h₀ env.locals { s with heap := h, toks := tk } (I, it) (J (i + 1)) Q) E { s with heap := h, toks := tk })
    (done : ∀ m₁ nx h tk, J l.length m₁ nx → Fr h₀ env.locals h m₁ → News h₀ env.locals h nx → Q .next { s with heap := h, toks := tk }) :
    wpAny (model prog w) A (pyIter (.str (tx l) t)) (fun it s₂ => LoopAtV prog w A h₀ env x body Q E it s₂) E s := by
  have go : ∀ (ty : String) (W : Walks prog w A s.heap.objs.size [s.heap.objs.size] [s.heap.objs.size] (tx l).cps.size (SignAt (tx l)) (fun i h => h.IsStrIter s.heap.objs.size ty (tx l) t i)),
      LoopAtV prog w A h₀ env x body Q E (.ref s.heap.objs.size) { s with heap := s.heap.push { cls := .type ty, data := .fields #[.str (tx l) t, .int 0 0] } } := fun ty W => by
    refine loop_G J W (fun i h st => by obtain ⟨o, e, _⟩ := st; exact ⟨o, e⟩) (Nat.ne_of_lt F.ns.lt) (next_is_new F) (fun p hp => Nat.ne_of_lt (Heap.lt_size (N p hp).1)) ⟨_, Heap.get?_push_size _ rfl, rfl, rfl⟩ (F.push _) (N.grown fun _ _ e => Heap.get?_push_of_some _ e) hj ?_ ?_
    · rintro i v m₁ nx h tk it hi ⟨c, u, hc, rfl⟩ hJ hnx F₁ N₁
      exact turn i c u m₁ nx h tk _ it (by simpa [tx] using hc) hJ hnx F₁ N₁
    · intro m₁ nx h tk hJ F₁ N₁
      rw [tx_cps_size] at hJ
      exact done m₁ nx h tk hJ F₁ N₁
  cases ha : (tx l).cps.all (· < 128)
  · exact wpAny_pyIter_wide ha (go _ (Walks.strWide hh _ (tx l) t))
  · exact wpAny_pyIter_ascii ha (go _ (Walks.strAscii hh _ (tx l) t))

theorem iter_rangeG {r : Addr} {a₀ b₀ c₀ : Int} {t₀ u₀ v₀ : Tok} {n : Nat} {m₀ : Str → Option Value} {news : List (Addr × Obj)} (J : Nat → (Str → Option Value) → List (Addr × Obj) → Prop)
    (hh : A.handled = none) (hr : IsRange s.heap r a₀ b₀ c₀ t₀ u₀ v₀) (hsmall : Builtin.Range.small a₀ b₀ c₀ = true) (hn : Builtin.Range.rangeSize a₀ b₀ c₀ = (n : Int)) (F : Fr h₀ env.locals s.heap m₀) (N : News h₀ env.locals s.heap news) (hj : J 0 m₀ news)
    (turn : ∀ (i : Nat) (z : Int) t m₁ nx h tk I it, i < n → z = a₀ + (i : Int) * c₀ → J i m₁ nx → (∀ p ∈ nx, p.1 ≠ I) → Fr h₀ env.locals h (fun y => if y = x then some (.int z t) else m₁ y) → News h₀ env.locals h ((I, it) :: nx) →
      wpAny (model prog w) A (execs body env) (GEnd h₀ env.locals { s with heap := h, toks := tk } (I, it) (J (i + 1)) Q) E { s with heap := h, toks := tk })
    (done : ∀ m₁ nx h tk, J n m₁ nx → Fr h₀ env.locals h m₁ → News h₀ env.locals h nx → Q .next { s with heap := h, toks := tk }) :
    wpAny (model prog w) A (pyIter (.ref r)) (fun it s₂ => LoopAtV prog w A h₀ env x body Q E it s₂) E s := by
  refine wpAny_pyIter_range hr hsmall ?_
  have W : Walks prog w A s.heap.objs.size [s.heap.objs.size] [s.heap.objs.size] n (fun i v => i < n ∧ ∃ t, v = .int (a₀ + i * c₀) t)
      (fun i h => IsRangeIter h s.heap.objs.size (a₀ + (i : Nat) * c₀) ((n : Int) - (i : Nat)) c₀) := (Walks.range hh _ a₀ c₀ n).bound
  refine loop_G J W (fun i h st => ⟨_, st⟩) (Nat.ne_of_lt F.ns.lt) (next_is_new F) (fun p hp => Nat.ne_of_lt (Heap.lt_size (N p hp).1)) (by show IsRangeIter _ _ _ _ _; rw [hn]; simpa using Heap.get?_push_size _ rfl) (F.push _) (N.grown fun _ _ e => Heap.get?_push_of_some _ e) hj ?_ ?_
  · rintro i v m₁ nx h tk it hi ⟨_, t, rfl⟩ hJ hnx F₁ N₁
    exact turn i _ t m₁ nx h tk _ it hi rfl hJ hnx F₁ N₁
  · intro m₁ nx h tk hJ F₁ N₁
    exact done m₁ nx h tk hJ F₁ N₁
end
theorem m_perm2 (a b : Addr × Obj) (r : List (Addr × Obj)) : ∀ p ∈ b :: a :: r, p ∈ a :: b :: r := by
  intro p hp
  simp only [List.mem_cons] at hp ⊢
  rcases hp with h | h | h <;> simp [h]
theorem m_sub2 (a b : Addr × Obj) (r : List (Addr × Obj)) : ∀ p ∈ a :: r, p ∈ a :: b :: r := by
  intro p hp
  simp only [List.mem_cons] at hp ⊢
  rcases hp with h | h <;> simp [h]
theorem m_apart {d I : Addr} {o o' : Obj} {r : List (Addr × Obj)} (h : ∀ p ∈ (d, o) :: r, p.1 ≠ I) : ∀ p ∈ (d, o') :: r, p.1 ≠ I := by
  intro p hp
  rcases List.mem_cons.mp hp with rfl | hp
  · exact h (d, o) (.head _)
  · exact h p (.tail _ hp)
theorem fp_put {kvs : List (Int × Value)} {c : List (Int × Int)} {k k' v v' : Int} (hf : FlatPairs PyData.int kvs (kdfD (kdfPut c k v))) (hk : k = k') (hv : v = v') : FlatPairs PyData.int kvs (kdfD (kdfPut c k' v')) := by
  subst hk; subst hv; exact hf
theorem map5 {a b c d e : Str} {m₁ m₀ : Str → Option Value} (hm : ∀ z, z ≠ a → z ≠ b → z ≠ c → z ≠ d → z ≠ e → m₁ z = m₀ z) :
    m₁ = fun y => if y = a then m₁ y else if y = b then m₁ y else if y = c then m₁ y else if y = d then m₁ y else if y = e then m₁ y else m₀ y := by
  funext y
  by_cases h1 : y = a
  · rw [if_pos h1]
  · by_cases h2 : y = b
    · rw [if_neg h1, if_pos h2]
    · by_cases h3 : y = c
      · rw [if_neg h1, if_neg h2, if_pos h3]
      · by_cases h4 : y = d
        · rw [if_neg h1, if_neg h2, if_neg h3, if_pos h4]
        · by_cases h5 : y = e
          · rw [if_neg h1, if_neg h2, if_neg h3, if_neg h4, if_pos h5]
          · rw [if_neg h1, if_neg h2, if_neg h3, if_neg h4, if_neg h5]; exact hm y h1 h2 h3 h4 h5
theorem map5v {x a b c d : Str} {m₁ m₀ : Str → Option Value} {V : Option Value} {v : Value} (ha : m₁ a = some v) (hm : ∀ z, z ≠ x → z ≠ a → z ≠ b → z ≠ c → z ≠ d → m₁ z = m₀ z) :
    (fun y => if y = x then V else m₁ y) = fun y => if y = x then V else if y = a then some v else if y = b then m₁ y else if y = c then m₁ y else if y = d then m₁ y else m₀ y := by
  funext y
  by_cases h0 : y = x
  · rw [if_pos h0, if_pos h0]
  · rw [if_neg h0, if_neg h0]
    by_cases h1 : y = a
    · rw [if_pos h1, h1]; exact ha
    · by_cases h2 : y = b
      · rw [if_neg h1, if_pos h2]
      · by_cases h3 : y = c
        · rw [if_neg h1, if_neg h2, if_pos h3]
        · by_cases h4 : y = d
          · rw [if_neg h1, if_neg h2, if_neg h3, if_pos h4]
          · rw [if_neg h1, if_neg h2, if_neg h3, if_neg h4]; exact hm y h0 h1 h2 h3 h4
theorem small1 {a b : Int} (ha : -1000000 ≤ a) (ha' : a ≤ 1000000) (hb : -1000000 ≤ b) (hb' : b ≤ 1000000) : Builtin.Range.small a b 1 = true := small_one (by omega) (by omega) (by omega) (by omega)
theorem rangeSize1 {a b : Int} {n : Nat} (h : b - a = n) : Builtin.Range.rangeSize a b 1 = (n : Int) := by
  rw [rangeSize_one]; split <;> omega
theorem span_small {z B : Int} {i n : Nat} (hz : z = 0 + (i : Int) * 1) (hi : i ≤ n) (hB : B = n) (hn : n ≤ 1000) : Builtin.Range.small z B 1 = true := small1 (by omega) (by omega) (by omega) (by omega)
theorem span_size {z B : Int} {i n : Nat} (hz : z = 0 + (i : Int) * 1) (hi : i ≤ n) (hB : B = n) : Builtin.Range.rangeSize z B 1 = ((n - i : Nat) : Int) := rangeSize1 (by omega)
def kdfFold {α : Type} (f : List (Int × Int) → α → List (Int × Int)) (l : List α) (b : List (Int × Int)) : List (Int × Int) := l.foldl f b
theorem foldN_succ {β : Type} (f : β → Nat → β) (b : β) (n : Nat) : (List.range (n + 1)).foldl f b = f ((List.range n).foldl f b) n := by
  rw [List.range_succ, List.foldl_append]; rfl
theorem foldN_len (f : List (Int × Int) → Nat → List (Int × Int)) (hf : ∀ c p, (f c p).length ≤ c.length + 1) (b : List (Int × Int)) : ∀ n, ((List.range n).foldl f b).length ≤ b.length + n
  | 0 => by simp
  | n + 1 => by
    rw [foldN_succ]
    have := foldN_len f hf b n
    have := hf ((List.range n).foldl f b) n
    omega

end
-- part Ta
section
/-- a cell of the table that is one letter by letter -/
def cellT (i : Nat) (T : List (Int × Int)) (k : Nat) : List (Int × Int) := kdfPut T (10 * i + (i + k : Nat)) (if k = 0 then 1 else 0)
def rowT (T : List (Int × Int)) (i : Nat) : List (Int × Int) := (List.range (5 - i)).foldl (cellT i) T
def tab0 : List (Int × Int) := (List.range 5).foldl rowT []
theorem cellT_len (i : Nat) (c : List (Int × Int)) (p : Nat) : (cellT i c p).length ≤ c.length + 1 := kdfPut_len _ _ _
theorem rowT_len (c : List (Int × Int)) (i : Nat) : (rowT c i).length ≤ c.length + 5 := by
  have := foldN_len (cellT i) (cellT_len i) c (5 - i)
  unfold rowT
  omega
theorem rows_len (n : Nat) : ((List.range n).foldl rowT []).length ≤ 5 * n := by
  induction n with
  | zero => simp
  | succ n ih =>
    rw [foldN_succ]
    have := rowT_len ((List.range n).foldl rowT []) n
    omega
theorem allLt_at {d : Nat} : ∀ {l : List (Addr × Obj)}, AllLt d l → ∀ p ∈ l, p.1 < d
  | [], _, _, h => nomatch h
  | q :: r, x, p, h => by
    rcases List.mem_cons.mp h with rfl | h
    · exact x.1
    · exact allLt_at x.2 p h
theorem moreCell_yes {b : Bool} {e : Nat → Bool} {T M : List (Int × Int)} {i k : Nat} (h : e (i + k) = true) : moreCell b e T i M k = kdfPut M (10 * i + (i + k : Nat) + 1) (kdfLook T (10 * i + (i + k : Nat)) 0 + (if b = true then kdfLook M (10 * i + (i + k : Nat)) 0 else 0)) := if_pos h
theorem moreCell_no {b : Bool} {e : Nat → Bool} {T M : List (Int × Int)} {i k : Nat} (h : e (i + k) = false) : moreCell b e T i M k = M := if_neg (by rw [h]; decide)
theorem item_tx (w : List Nat) (j : Nat) {z : Int} (hz : z = j) (h : j < w.length) {c : Nat} : (Txt.item (tx w) z == tx [c]) = decide (w.getD j 0 = c) := by
  subst hz
  rw [item_meets (x := tx w) (i := (j : Int)) ⟨by omega, by rw [tx_length]; omega⟩]
  have e : (tx w).cps.getD ((j : Int)).toNat 0 = w.getD j 0 := by
    show (w.toArray).getD j 0 = _
    simp [List.getD_eq_getElem?_getD, h, Array.getD]
  rw [e, Bool.eq_iff_iff]
  simp only [beq_iff_eq, decide_eq_true_eq]
  constructor
  · intro h'
    have := tx_inj (a := [w.getD j 0]) (b := [c]) h'
    simpa using this
  · intro h'
    rw [h']; rfl
theorem lines12 : True := by
  k_with_none
  k_with "for_hold" => ((k_here; (rename Fr _ _ _ _ => lF'); (with_unfolding_all refine' For_hold lF' (by exact rfl) (by exact rfl) ?_; k_whole)))
  k_with "clean_enter" => ((refine' defG ?k1 ?k2 ?k3 ?k4 ?k5 ?kA ?kF ?kK ?k6 ?k7 ?k8 ?k9 ?kB ?_ ?c2 ?c3 ?c4 ?c5; (case kA => exact rfl); (case kF => exact rfl); (case kK => assumption); (case k1 => k_asm); (case k2 => k_asm); (case k3 => k_asm); (case k4 => k_asm); (case k5 => k_asm); (case k6 => k_is); (case k7 => k_is); (case k8 => ktr_room); (case k9 => exact BindsTo.of_eq rfl); (case c5 => decide); (case kB => exact locs rfl); (case c2 => exact rfl); (case c3 => exact rfl); (case c4 => exact rfl); k_whole; intro g' L' h' FG' F' N' B' X' T'; (try dsimp only); (try k_lift B'); (try k_fold)))
  k_with "cells_enter" => ((refine' code_defC ?k1 ?k2 ?k3 ?k4 ?k5 ?kA ?kF ?kK ?k6 ?k7 ?k8 ?k9 ?kB ?kD ?_ ?c2 ?c3 ?c4; (case kA => exact rfl); (case kF => exact rfl); (case kK => assumption); (case k1 => k_asm); (case k2 => k_asm); (case k3 => k_asm); (case k4 => k_asm); (case k5 => k_asm); (case k6 => k_is); (case k7 => k_is); (case k8 => ktr_room); (case k9 => exact BindsTo.of_eq rfl); (case kB => exact rfl); (case kD => decide +kernel); (case c2 => exact rfl); (case c3 => exact rfl); (case c4 => exact rfl); k_whole; intro g' L' h' tk' cells' FG' F' N' Y' B' X' T' l1; (try k_lt l1); k_cells Y'; (try simp only [List.cons_append, List.nil_append] at N'); (try dsimp only); (try k_lift B'); (try k_fold)))
  k_with "lc_hold" => ((k_here; k_dflt (refine ListComp_W (F₀ := by k_asm) (by with_unfolding_all rfl) (by decide) (by rfl) (by decide) (by rfl) ?_)))
  k_with "lk_hold" => ((k_here; (with_reducible show wpAny _ _ (eval (Expr.ListComp _ [⟨_, _, [], 0⟩] _ _) _) _ _ _); k_dflt (refine ListComp_K (F₀ := by k_asm) (by with_unfolding_all rfl) (by intro _ _; rfl) (by intro _; rfl) (by rfl) (by decide) (by intro _ _; rfl) ?_)))
  k_with "lt_hold" => ((k_here; (with_reducible show wpAny _ _ (eval (Expr.ListComp _ [⟨_, _, [_], 0⟩] _ _) _) _ _ _); k_dflt (refine ListComp_TH (F₀ := by k_asm) (by with_unfolding_all rfl) (by decide) (by rfl) (by decide) (by rfl) ?_)))
  k_with "al_hold" => ((k_here; (with_reducible show wpAny _ _ (exec (Stmt.Assign [Expr.Name _ _] (Expr.ListComp _ [⟨_, _, [], 0⟩] _ _) _) _) _ _ _); k_dflt (refine' Assign_ListComp_W (F₀ := by k_asm) (by rfl) (by with_unfolding_all rfl) (by with_unfolding_all rfl) (by decide) (by rfl) (by decide) (by rfl) (by rfl) (by rfl) ?_); k_whole))
  k_with "forT_hold" => ((k_here; (rename Fr _ _ _ _ => lF'); (with_unfolding_all refine' ForT_hold lF' ?_); k_whole))
  k_with "m_mem" => (first | with_reducible assumption | exact List.Mem.head _ | (refine' List.mem_cons_of_mem _ ?_; k_extra "m_mem"))
  k_with "m_tab" => (exact TabAt.ofNews (by k_asm) (by k_extra "m_mem") (by k_asm) (by k_asm) (by k_asm))
  k_with "m_items" => ((k_here; (with_reducible show wpAny _ _ (getMethod (Value.ref _) (PySem.Str.ofString "items") _) _ _ _); k_dflt (refine getMethod_tab (knd := PySem.intKind _ _) (enc := PyData.int) PySem.F.slot_dict_items PySem.F.type_dict_items (by k_extra "m_tab") ?_)))
  k_with "m_get" => ((k_here; (with_reducible show wpAny _ _ (getMethod (Value.ref _) (PySem.Str.ofString "get") _) _ _ _); k_dflt (refine getMethod_tab (knd := PySem.intKind _ _) (enc := PyData.int) PySem.F.slot_dict_get PySem.F.type_dict_get (by k_extra "m_tab") ?_)))
  k_with "m_callItems" => ((k_here; (with_reducible show wpAny _ _ (call (Value.builtin "dict.items") [Value.ref _]) _ _ _); k_dflt (refine' call_items_tab (knd := PySem.intKind _ _) (enc := PyData.int) (by k_extra "m_tab") (by k_asm) (by k_asm) ?_); intro h' o' hv' F' N'))
  k_with "m_callGet" => ((k_here; (with_reducible show wpAny _ _ (call (Value.builtin "dict.get") [Value.ref _, Value.int _ _, Value.int _ _]) _ _ _); k_dflt (refine kdf_get2 (by k_extra "m_tab") ?_); intro _))
  k_with "m_in" => ((k_here; k_dflt (refine kdf_in (by k_extra "m_tab") ?_)))
  k_with "m_item" => ((k_here; (with_reducible show wpAny _ _ (subscriptTail _ _ (Value.ref _) (Value.int _ _)) _ _ _); k_dflt (refine kdf_item (by k_extra "m_tab") (by assumption) ?_); intro _))
  k_with "m_off" => (first | with_reducible assumption | exact List.forall_mem_nil _ | (refine' List.forall_mem_cons.mpr ⟨(by k_extra "m_ne0"), (by k_extra "m_off")⟩))
  k_with "m_ne0" => ((dsimp only; first | with_reducible assumption | (refine Ne.symm ?_; with_reducible assumption) | k_ne))
  k_with "m_upd" => (first | (refine' UpdF.head (by k_extra "m_off")) | (refine' UpdF.tail (by k_extra "m_ne0") (by k_extra "m_upd")))
  k_with "m_set" => ((k_here; (with_reducible show wpAny _ _ (setItem (Value.ref _) (Value.int _ _) (Value.int _ _)) _ _ _); k_dflt (refine' kdf_setItem (by k_asm) (by k_asm) (by k_extra "m_upd") (by k_asm) (by k_asm) (by first | with_reducible assumption | omega) ?_); intro h' o' kvs' F' N' hd' hf'; (try dsimp only at N')))
  k_with "m_getItem" => ((k_here; (with_reducible show wpAny _ _ (getItem (Value.ref _) (Value.int _ _)) _ _ _); k_dflt (refine kdf_getItem (by k_extra "m_tab") (by assumption) ?_); intro _))
  exact True.intro
theorem moreRow_eq (b : Bool) (e : Nat → Bool) (T M : List (Int × Int)) (i : Nat) : moreRow b e T M i = (List.range (4 - i)).foldl (moreCell b e T i) M := rfl
theorem moreT_eq (b : Bool) (e : Nat → Bool) (T : List (Int × Int)) : (List.range 4).foldl (moreRow b e T) [] = moreT b e T := rfl
theorem occ_in {wd : List Nat} {c : Nat} (hq : (Builtin.Str.occurrences (tx wd) (tx [c]) 0 (tx wd).length 1).isEmpty = false) : c ∈ wd := by
  have f := StrLaws.found_one (tx wd) c
  have e : (⟨#[c]⟩ : Str) = tx [c] := rfl
  rw [e, hq] at f
  have f' := f.symm
  simp only [Bool.not_false, decide_eq_true_eq] at f'
  simpa [tx] using f'
theorem mapV1 {a : Str} {m₁ : Str → Option Value} {v : Value} (ha : m₁ a = some v) : m₁ = fun y => if y = a then some v else m₁ y := by
  funext y
  by_cases h1 : y = a
  · rw [if_pos h1, h1]; exact ha
  · rw [if_neg h1]
theorem occ_notin {wd : List Nat} {c : Nat} (hq : (Builtin.Str.occurrences (tx wd) (tx [c]) 0 (tx wd).length 1).isEmpty = true) : c ∉ wd := by
  have f := StrLaws.found_one (tx wd) c
  have e : (⟨#[c]⟩ : Str) = tx [c] := rfl
  rw [e, hq] at f
  have f' := f.symm
  simp only [Bool.not_true, decide_eq_false_iff_not] at f'
  exact fun h => f' (by simpa [tx] using h)
theorem moreRow_len (b : Bool) (e : Nat → Bool) (T M : List (Int × Int)) (i : Nat) : (moreRow b e T M i).length ≤ M.length + 4 := by
  have := foldN_len (moreCell b e T i) (moreCell_len b e T i) M (4 - i)
  unfold moreRow
  omega
theorem rowsM_len (b : Bool) (e : Nat → Bool) (T : List (Int × Int)) (n : Nat) : ((List.range n).foldl (moreRow b e T) []).length ≤ 4 * n := by
  induction n with
  | zero => simp
  | succ n ih =>
    rw [foldN_succ]
    have := moreRow_len b e T ((List.range n).foldl (moreRow b e T) []) n
    omega
theorem more_small (b : Bool) (e : Nat → Bool) (T : List (Int × Int)) {i k : Nat} (hi : i < 4) (hk : k < 4 - i) : ((List.range k).foldl (moreCell b e T i) ((List.range i).foldl (moreRow b e T) [])).length ≤ 16777216 := by
  have h1 := rowsM_len b e T i
  have h2 := foldN_len (moreCell b e T i) (moreCell_len b e T i) ((List.range i).foldl (moreRow b e T) []) k
  omega
theorem cells_small {i k : Nat} (hi : i < 5) (hk : k < 5 - i) : ((List.range k).foldl (cellT i) ((List.range i).foldl rowT [])).length ≤ 16777216 := by
  have h1 := rows_len i
  have h2 := foldN_len (cellT i) (cellT_len i) ((List.range i).foldl rowT []) k
  omega
theorem tab0_eq (b : Bool) (w : List Nat) : (List.range 5).foldl rowT [] = tabOf (tally b w []) := by kernel_rfl
inductive Jm (prog : Program) (w : World) (b : Bool) (wd ln : List Nat) (news : List (Addr × Obj)) (m₀ : Str → Option Value) (i : Nat) (m : Str → Option Value) (nx : List (Addr × Obj)) : Prop
  | mk (d : Addr) (o : Obj) (kvs : List (Int × Value)) (c1 : nx = (d, o) :: news) (c2 : (d == sysModules) = false) (c3 : (∀ p ∈ news, p.1 ≠ d)) (c4 : o.IsDictOf (PySem.intKind prog w) kvs) (c5 : FlatPairs PyData.int kvs (kdfD (tabOf (tally b wd (ln.take i))))) (c6 : m "table" = some (.ref d)) (c7 : ∀ z : Str, z ≠ "sign" → z ≠ "table" → z ≠ "more" → z ≠ "i" → z ≠ "j" → m z = m₀ z) : Jm prog w b wd ln news m₀ i m nx
def Jt (prog : Program) (w : World) (C : Nat → List (Int × Int)) (x y : Str) (d : Addr) (news : List (Addr × Obj)) (m₀ : Str → Option Value) (i : Nat) (m : Str → Option Value) (nx : List (Addr × Obj)) : Prop :=
  DicAt prog w (C i) d news nx ∧ ∀ z : Str, z ≠ x → z ≠ y → m z = m₀ z
section
theorem lines13 : True := by
  k_with_none
  k_with "for_hold" => ((k_here; (rename Fr _ _ _ _ => lF'); (with_unfolding_all refine' For_hold lF' (by exact rfl) (by exact rfl) ?_; k_whole)))
  k_with "clean_enter" => ((refine' defG ?k1 ?k2 ?k3 ?k4 ?k5 ?kA ?kF ?kK ?k6 ?k7 ?k8 ?k9 ?kB ?_ ?c2 ?c3 ?c4 ?c5; (case kA => exact rfl); (case kF => exact rfl); (case kK => assumption); (case k1 => k_asm); (case k2 => k_asm); (case k3 => k_asm); (case k4 => k_asm); (case k5 => k_asm); (case k6 => k_is); (case k7 => k_is); (case k8 => ktr_room); (case k9 => exact BindsTo.of_eq rfl); (case c5 => decide); (case kB => exact locs rfl); (case c2 => exact rfl); (case c3 => exact rfl); (case c4 => exact rfl); k_whole; intro g' L' h' FG' F' N' B' X' T'; (try dsimp only); (try k_lift B'); (try k_fold)))
  k_with "cells_enter" => ((refine' code_defC ?k1 ?k2 ?k3 ?k4 ?k5 ?kA ?kF ?kK ?k6 ?k7 ?k8 ?k9 ?kB ?kD ?_ ?c2 ?c3 ?c4; (case kA => exact rfl); (case kF => exact rfl); (case kK => assumption); (case k1 => k_asm); (case k2 => k_asm); (case k3 => k_asm); (case k4 => k_asm); (case k5 => k_asm); (case k6 => k_is); (case k7 => k_is); (case k8 => ktr_room); (case k9 => exact BindsTo.of_eq rfl); (case kB => exact rfl); (case kD => decide +kernel); (case c2 => exact rfl); (case c3 => exact rfl); (case c4 => exact rfl); k_whole; intro g' L' h' tk' cells' FG' F' N' Y' B' X' T' l1; (try k_lt l1); k_cells Y'; (try simp only [List.cons_append, List.nil_append] at N'); (try dsimp only); (try k_lift B'); (try k_fold)))
  k_with "lc_hold" => ((k_here; k_dflt (refine ListComp_W (F₀ := by k_asm) (by with_unfolding_all rfl) (by decide) (by rfl) (by decide) (by rfl) ?_)))
  k_with "lk_hold" => ((k_here; (with_reducible show wpAny _ _ (eval (Expr.ListComp _ [⟨_, _, [], 0⟩] _ _) _) _ _ _); k_dflt (refine ListComp_K (F₀ := by k_asm) (by with_unfolding_all rfl) (by intro _ _; rfl) (by intro _; rfl) (by rfl) (by decide) (by intro _ _; rfl) ?_)))
  k_with "lt_hold" => ((k_here; (with_reducible show wpAny _ _ (eval (Expr.ListComp _ [⟨_, _, [_], 0⟩] _ _) _) _ _ _); k_dflt (refine ListComp_TH (F₀ := by k_asm) (by with_unfolding_all rfl) (by decide) (by rfl) (by decide) (by rfl) ?_)))
  k_with "al_hold" => ((k_here; (with_reducible show wpAny _ _ (exec (Stmt.Assign [Expr.Name _ _] (Expr.ListComp _ [⟨_, _, [], 0⟩] _ _) _) _) _ _ _); k_dflt (refine' Assign_ListComp_W (F₀ := by k_asm) (by rfl) (by with_unfolding_all rfl) (by with_unfolding_all rfl) (by decide) (by rfl) (by decide) (by rfl) (by rfl) (by rfl) ?_); k_whole))
  k_with "forT_hold" => ((k_here; (rename Fr _ _ _ _ => lF'); (with_unfolding_all refine' ForT_hold lF' ?_); k_whole))
  k_with "m_mem" => (first | with_reducible assumption | exact List.Mem.head _ | (refine' List.mem_cons_of_mem _ ?_; k_extra "m_mem"))
  k_with "m_tab" => (exact TabAt.ofNews (by k_asm) (by k_extra "m_mem") (by k_asm) (by k_asm) (by k_asm))
  k_with "m_items" => ((k_here; (with_reducible show wpAny _ _ (getMethod (Value.ref _) (PySem.Str.ofString "items") _) _ _ _); k_dflt (refine getMethod_tab (knd := PySem.intKind _ _) (enc := PyData.int) PySem.F.slot_dict_items PySem.F.type_dict_items (by k_extra "m_tab") ?_)))
  k_with "m_get" => ((k_here; (with_reducible show wpAny _ _ (getMethod (Value.ref _) (PySem.Str.ofString "get") _) _ _ _); k_dflt (refine getMethod_tab (knd := PySem.intKind _ _) (enc := PyData.int) PySem.F.slot_dict_get PySem.F.type_dict_get (by k_extra "m_tab") ?_)))
  k_with "m_callItems" => ((k_here; (with_reducible show wpAny _ _ (call (Value.builtin "dict.items") [Value.ref _]) _ _ _); k_dflt (refine' call_items_tab (knd := PySem.intKind _ _) (enc := PyData.int) (by k_extra "m_tab") (by k_asm) (by k_asm) ?_); intro h' o' hv' F' N'))
  k_with "m_callGet" => ((k_here; (with_reducible show wpAny _ _ (call (Value.builtin "dict.get") [Value.ref _, Value.int _ _, Value.int _ _]) _ _ _); k_dflt (refine kdf_get2 (by k_extra "m_tab") ?_); intro _))
  k_with "m_in" => ((k_here; k_dflt (refine kdf_in (by k_extra "m_tab") ?_)))
  k_with "m_item" => ((k_here; (with_reducible show wpAny _ _ (subscriptTail _ _ (Value.ref _) (Value.int _ _)) _ _ _); k_dflt (refine kdf_item (by k_extra "m_tab") (by assumption) ?_); intro _))
  k_with "m_off" => (first | with_reducible assumption | exact List.forall_mem_nil _ | (refine' List.forall_mem_cons.mpr ⟨(by k_extra "m_ne0"), (by k_extra "m_off")⟩))
  k_with "m_ne0" => ((dsimp only; first | with_reducible assumption | (refine Ne.symm ?_; with_reducible assumption) | k_ne))
  k_with "m_upd" => (first | (refine' UpdF.head (by k_extra "m_off")) | (refine' UpdF.tail (by k_extra "m_ne0") (by k_extra "m_upd")))
  k_with "m_set" => ((k_here; (with_reducible show wpAny _ _ (setItem (Value.ref _) (Value.int _ _) (Value.int _ _)) _ _ _); k_dflt (refine' kdf_setItem (by k_asm) (by k_asm) (by k_extra "m_upd") (by k_asm) (by k_asm) (by first | with_reducible assumption | omega) ?_); intro h' o' kvs' F' N' hd' hf'; (try dsimp only at N')))
  k_with "m_getItem" => ((k_here; (with_reducible show wpAny _ _ (getItem (Value.ref _) (Value.int _ _)) _ _ _); k_dflt (refine kdf_getItem (by k_extra "m_tab") (by assumption) ?_); intro _))
  k_with "exec For Name Call cons nil" => (k_extra "for_hold")
  k_with "exec For Name Name cons nil" => (k_extra "for_hold")
  k_with "getMethod ref" => (k_extra "m_get")
  k_with "call builtin:dict.get" => (k_extra "m_callGet")
  k_with "subscriptTail" => (k_extra "m_item")
  k_with "setItem ref int" => (k_extra "m_set")
  k_with "execs nil" => ((k_here; (try dsimp only); refine wpAny_execs_nil ?_))
  exact True.intro
set_option maxRecDepth 100000 in
set_option maxHeartbeats 8000000 in
theorem tally_sum {w : World} {p : Program} {loose : List Str} {mean : ExcName → Option Value} {mg mb : Str → Option Value} {dp un : Nat} {gd : Option (List Code)} {cn : Str} {cs : Scope} {a : Addr} {ccd : Value} {cl : List (Str × Addr)} {outer : List Env} {A₀ : Around} {base h₀ : Heap} {L : Addr} {m : Str → Option Value} {news : List (Addr × Obj)} {s : Shared} {Q E : Value → Shared → Prop}
    (B : Below A₀ base outer h₀) (F : Fr h₀ L s.heap m) (X : (Mine.hd.heap_39 w.params).In h₀) (N : News h₀ L s.heap news) (T : Top p loose mean mg mb h₀) (hk : cs.kind = .function) (hd : dp + 16 < recursionLimit) (hu : un + 160 < cLine)
    (wd ln : List Nat) (t t2 : Tok) (b : Bool) (hwd : wd.length = 4) (hln : ln.length ≤ 5000)
    (ret : ∀ d o kvs h' tk', Fr h₀ L h' m → News h₀ L h' ((d, o) :: news) → o.IsDictOf (PySem.intKind PySem.Challenge.rw_zn0009_01.row.prog w) kvs → FlatPairs PyData.int kvs (kdfD (tabOf (tally b wd ln))) → (d == sysModules) = false → (∀ p ∈ news, p.1 ≠ d) → Q (.ref d) {s with heap := h', toks := tk'}) :
    wpAny (model PySem.Challenge.rw_zn0009_01.row.prog w) (ktrTop dp un gd cn cs L a ccd cl outer) (call (.ref 94) [.str (tx wd) t, .str (tx ln) t2, .bool b]) Q E s := by
  revert X
  k_fill
  intro X
  refine wpAny_call ?_
  k_dflt cell_enter
  k_steps
  unfold Hold
  (rename Fr _ _ _ _ => Fa)
  (rename News _ _ _ _ => Na)
  (rename IsRange _ _ _ _ _ _ _ _ => rg)
  (rename ∀ p ∈ _, Prod.fst p < _ => l1)
  (rename (_ == sysModules) = false => lod)
  have hoff : ∀ p ∈ news, p.1 ≠ _ := fun p hp => Nat.ne_of_lt (l1 p hp)
  refine iter_rangeG (n := 5) (Jt PySem.Challenge.rw_zn0009_01.row.prog w (fun n => (List.range n).foldl rowT []) "i" "j" _ news _) rfl rg (by decide) (by decide) Fa Na ⟨⟨_, _, rfl, by assumption, by assumption⟩, fun _ _ _ => rfl⟩ ?_ ?_
  · rintro i z t m₁ nx h tk I it hi hz ⟨⟨on, kvsn, rfl, hdo, hfo⟩, hmm⟩ hI F1 N1
    dsimp only at hfo
    rw [mapAB hmm] at F1
    have hne := hI _ (.head _)
    have hle := rows_len i
    clear hmm Fa Na rg l1
    k_steps
    unfold Hold
    (rename Fr _ _ _ _ => Fa)
    (rename News _ _ _ _ => Na)
    (rename IsRange _ _ _ _ _ _ _ _ => rg)
    refine iter_rangeG (n := 5 - i) (Jt PySem.Challenge.rw_zn0009_01.row.prog w (fun k => (List.range k).foldl (cellT i) ((List.range i).foldl rowT [])) "j" "j" _ ((I, it) :: news) _) rfl rg (span_small hz (Nat.le_of_lt hi) rfl (by decide)) (span_size hz (Nat.le_of_lt hi) rfl) Fa (Na.perm (m_perm2 _ _ _)) ⟨⟨_, _, rfl, hdo, hfo⟩, fun _ _ _ => rfl⟩ ?_ ?_
    · rintro k z2 t2 m₂ nx2 h2 tk2 I2 it2 hk hz2 ⟨⟨on2, kvsn2, rfl, hdo2, hfo2⟩, hmm2⟩ hI2 F2 N2
      dsimp only at hfo2
      rw [mapA (fun z h => hmm2 z h h)] at F2
      have hne2 := hI2 _ (.head _)
      have hle2 := cells_small hi hk
      clear hmm2 Fa Na rg hdo hfo
      k_steps
      all_goals (
        (rename Fr _ _ _ _ => Fe)
        (rename News _ _ _ _ => Ne)
        refine GEnd.next (_ :: (I, it) :: news) Fe Ne (.head _) (fun p hp => .tail _ hp) (m_apart hI2) ?_
        refine ⟨⟨_, _, rfl, by assumption, ?_⟩, fun z h1 h2 => ?_⟩)
      · dsimp only
        rw [foldN_succ]
        refine fp_put (by assumption) (idx10 hz hz2) ?_
        rw [if_pos (by omega)]
      · (try dsimp only); repeat rw [if_neg h1]
      · dsimp only
        rw [foldN_succ]
        refine fp_put (by assumption) (idx10 hz hz2) ?_
        rw [if_neg (by omega)]
      · (try dsimp only); repeat rw [if_neg h1]
    · rintro m₂ nx2 h2 tk2 ⟨⟨on2, kvsn2, rfl, hdo2, hfo2⟩, hmm2⟩ F2 N2
      clear Fa Na rg
      refine wpAny_execs_nil ?_
      refine GEnd.next (_ :: news) F2 N2 (.tail _ (.head _)) (m_sub2 _ _ _) (m_apart hI) ⟨⟨_, _, rfl, hdo2, ?_⟩, fun z h1 h2 => ?_⟩
      · dsimp only; rw [foldN_succ]; exact hfo2
      · rw [hmm2 z h2 h2]
        (try dsimp only); repeat first | rw [if_neg h1] | rw [if_neg h2]
  · rintro m₁ nx h tk ⟨⟨on, kvsn, rfl, hdo, hfo⟩, hmm⟩ F1 N1
    dsimp only at hfo
    rw [mapAB' hmm] at F1
    clear hmm Fa Na rg l1
    k_steps
    unfold Hold
    (rename Fr _ _ _ _ => Fa)
    (rename News _ _ _ _ => Na)
    rw [tab0_eq b wd] at hfo
    refine iter_strG (Jm PySem.Challenge.rw_zn0009_01.row.prog w b wd ln news _) rfl Fa Na ⟨_, _, _, rfl, lod, hoff, hdo, hfo, rfl, fun _ _ _ _ _ _ => rfl⟩ ?_ ?_
    · rintro i c u m₁ nx h tk I it hc ⟨d, o, kvs, rfl, lod, hoff, hdo, hfo, htab, hmm⟩ hI F1 N1
      rw [map5v htab hmm] at F1
      have hne := hI _ (.head _)
      clear hmm htab
      k_steps
      · (rename List.isEmpty _ = true => hq)
        have hno : c ∉ wd := occ_notin hq
        refine GEnd.next (_ :: news) F1 N1 (.head _) (fun p hp => .tail _ hp) hI ?_
        refine ⟨d, o, kvs, rfl, lod, hoff, hdo, ?_, rfl, fun z h0 h1 h2 h3 h4 => ?_⟩
        · rw [List.take_add_one, hc]
          simp only [Option.toList_some]
          rw [tally_snoc, turn_none _ _ hwd hno]
          exact hfo
        · (try dsimp only); repeat first | rw [if_neg h0] | rw [if_neg h1] | rw [if_neg h2] | rw [if_neg h3] | rw [if_neg h4]
      unfold Hold
      (rename Fr _ _ _ _ => Fa)
      (rename News _ _ _ _ => Na)
      (rename IsRange _ _ _ _ _ _ _ _ => rg)
      (rename _ ∧ _ ∧ AllLt _ _ => l9)
      obtain ⟨lI, ld, lnews⟩ := l9
      have hoffm : ∀ p ∈ news, p.1 ≠ _ := fun p hp => Nat.ne_of_lt (allLt_at lnews p hp)
      have hneI := Nat.ne_of_lt lI
      have hned := Nat.ne_of_lt ld
      obtain ⟨g, hg⟩ : ∃ g, g = tally b wd (ln.take i) := ⟨_, rfl⟩
      rw [← hg] at hfo
      refine iter_rangeG (n := 4) (Jt PySem.Challenge.rw_zn0009_01.row.prog w (fun n => (List.range n).foldl (moreRow b (eOf wd c) (tabOf g)) []) "i" "j" _ ((I, it) :: (d, o) :: news) _) rfl rg (by decide) (by decide) Fa Na ⟨⟨_, _, rfl, by assumption, by assumption⟩, fun _ _ _ => rfl⟩ ?_ ?_
      · rintro i2 z t3 m₂ nx2 h2 tk2 I2 it2 hi2 hz ⟨⟨om, kvm, rfl, hdm, hfm⟩, hmm2⟩ hI2 F2 N2
        dsimp only at hfm
        rw [mapAB hmm2] at F2
        have hne2 := hI2 _ (.head _)
        have hle2 := rowsM_len b (eOf wd c) (tabOf g) i2
        clear hmm2 Fa Na rg
        k_steps
        unfold Hold
        (rename Fr _ _ _ _ => Fa)
        (rename News _ _ _ _ => Na)
        (rename IsRange _ _ _ _ _ _ _ _ => rg)
        refine iter_rangeG (n := 4 - i2) (Jt PySem.Challenge.rw_zn0009_01.row.prog w (fun k => (List.range k).foldl (moreCell b (eOf wd c) (tabOf g) i2) ((List.range i2).foldl (moreRow b (eOf wd c) (tabOf g)) [])) "j" "j" _ ((I2, it2) :: (I, it) :: (d, o) :: news) _) rfl rg (span_small hz (Nat.le_of_lt hi2) rfl (by decide)) (span_size hz (Nat.le_of_lt hi2) rfl) Fa (Na.perm (m_perm2 _ _ _)) ⟨⟨_, _, rfl, hdm, hfm⟩, fun _ _ _ => rfl⟩ ?_ ?_
        · rintro k z2 t4 m₃ nx3 h3 tk3 I3 it3 hk hz2 ⟨⟨om3, kvm3, rfl, hdm3, hfm3⟩, hmm3⟩ hI3 F3 N3
          dsimp only at hfm3
          rw [mapA (fun z h => hmm3 z h h)] at F3
          have hne3 := hI3 _ (.head _)
          have hle3 := more_small b (eOf wd c) (tabOf g) hi2 hk
          have hkey := idx10 hz hz2
          have hhas := tab_has g (i := i2) (k := k) (Nat.lt_succ_of_lt (idx_lt hk)) hkey
          clear hmm3 Fa Na rg hdm hfm
          have hit : ((Txt.item (tx wd) z2 == tx [c]) = eOf wd c (i2 + k)) := by rw [eOf_at wd c (idx_lt hk), item_tx wd (i2 + k) (idx2 hz hz2) (hwd ▸ idx_lt hk)]
          k_steps
          · exfalso
            (rename _ ∨ _ => hor)
            rw [tx_length] at hor
            exact not_out (idx2 hz hz2) (hwd ▸ idx_lt hk) hor
          · (rename b = true => hb)
            (rename (Txt.item _ _ == _) = true => hq)
            (rename Fr _ _ _ _ => Fe)
            (rename News _ _ _ _ => Ne)
            rw [hit] at hq
            refine GEnd.next (_ :: (I2, it2) :: (I, it) :: (d, o) :: news) Fe Ne (.head _) (fun p hp => .tail _ hp) (m_apart hI3) ?_
            refine ⟨⟨_, _, rfl, by assumption, ?_⟩, fun z h1 h2 => ?_⟩
            · dsimp only
              rw [foldN_succ, moreCell_yes hq]
              refine fp_put (by assumption) (by rw [hkey]) ?_
              rw [hkey, if_pos hb]
            · (try dsimp only); repeat rw [if_neg h1]
          · (rename b = false => hb)
            (rename (Txt.item _ _ == _) = true => hq)
            (rename Fr _ _ _ _ => Fe)
            (rename News _ _ _ _ => Ne)
            rw [hit] at hq
            refine GEnd.next (_ :: (I2, it2) :: (I, it) :: (d, o) :: news) Fe Ne (.head _) (fun p hp => .tail _ hp) (m_apart hI3) ?_
            refine ⟨⟨_, _, rfl, by assumption, ?_⟩, fun z h1 h2 => ?_⟩
            · dsimp only
              rw [foldN_succ, moreCell_yes hq]
              refine fp_put (by assumption) (by rw [hkey]) ?_
              rw [hkey, hb]
              rfl
            · (try dsimp only); repeat rw [if_neg h1]
          · (rename (Txt.item _ _ == _) = false => hq)
            (rename Fr _ _ _ _ => Fe)
            (rename News _ _ _ _ => Ne)
            rw [hit] at hq
            refine GEnd.next (_ :: (I2, it2) :: (I, it) :: (d, o) :: news) Fe Ne (.head _) (fun p hp => .tail _ hp) hI3 ?_
            refine ⟨⟨_, _, rfl, hdm3, ?_⟩, fun z h1 h2 => ?_⟩
            · dsimp only
              rw [foldN_succ, moreCell_no hq]
              exact hfm3
            · (try dsimp only); repeat rw [if_neg h1]
        · rintro m₃ nx3 h3 tk3 ⟨⟨om3, kvm3, rfl, hdm3, hfm3⟩, hmm3⟩ F3 N3
          dsimp only at hfm3
          clear Fa Na rg
          refine wpAny_execs_nil ?_
          refine GEnd.next (_ :: (I, it) :: (d, o) :: news) F3 N3 (.tail _ (.head _)) (m_sub2 _ _ _) (m_apart hI2) ?_
          refine ⟨⟨_, _, rfl, hdm3, ?_⟩, fun z h1 h2 => ?_⟩
          · dsimp only; rw [foldN_succ, moreRow_eq]; exact hfm3
          · rw [hmm3 z h2 h2]
            (try dsimp only); repeat first | rw [if_neg h1] | rw [if_neg h2]
      · rintro m₂ nx2 h2 tk2 ⟨⟨om, kvm, rfl, hdm, hfm⟩, hmm2⟩ F2 N2
        dsimp only at hfm
        rw [mapAB' hmm2] at F2
        rw [moreT_eq] at hfm
        have hml := rowsM_len b (eOf wd c) (tabOf g) 4
        rw [moreT_eq] at hml
        have htl := tab_len g
        clear hmm2 Fa Na rg
        k_steps
        refine' add_sum ?k1 ?k2 ?k3 ?k4 ?k5 ?k6 ?k7 ?k8 d _ o _ kvs _ _ _ ?l1 ?m1 ?d1 ?f1 ?e1 ?l2 ?m2 hdm hfm ?e2 ?_
        case k1 => k_asm
        case k2 => k_asm
        case k3 => k_asm
        case k4 => k_asm
        case k5 => k_asm
        case k6 => rfl
        case k7 => ktr_room
        case k8 => ktr_units
        case l1 => assumption
        case m1 => exact .tail _ (.tail _ (.head _))
        case d1 => exact hdo
        case f1 => exact hfo
        case e1 => omega
        case l2 => assumption
        case m2 => exact .head _
        case e2 => omega
        intro dn onew kvn h' tk' Fn Nn hdn hfn lon offn
        rw [turn_tab] at hfn
        clear hfm hdm hml htl
        k_steps
        (rename Fr _ _ _ _ => Fe)
        (rename News _ _ _ _ => Ne)
        refine GEnd.next ((dn, onew) :: news) Fe Ne (.tail _ (.tail _ (.head _))) ?_ ?_ ?_
        · intro p hp
          rcases List.mem_cons.mp hp with rfl | hp
          · exact .head _
          · exact .tail _ (.tail _ (.tail _ (.tail _ hp)))
        · intro p hp
          rcases List.mem_cons.mp hp with rfl | hp
          · exact _root_.Ne.symm (offn (I, it) (.tail _ (.head _)))
          · exact hI p (.tail _ hp)
        · refine ⟨dn, onew, kvn, rfl, lon, fun p hp => offn p (.tail _ (.tail _ (.tail _ hp))), hdn, ?_, rfl, fun z h0 h1 h2 h3 h4 => ?_⟩
          · rw [List.take_add_one, hc]
            simp only [Option.toList_some]
            rw [tally_snoc, ← hg]
            exact hfn
          · (try dsimp only); repeat first | rw [if_neg h0] | rw [if_neg h1] | rw [if_neg h2] | rw [if_neg h3] | rw [if_neg h4]
    · rintro m₁ nx h tk ⟨d, o, kvs, rfl, lod, hoff, hdo, hfo, htab, hmm⟩ F1 N1
      rw [mapV1 htab] at F1
      rw [List.take_length] at hfo
      clear hmm htab
      dsimp only
      k_steps
      (rename Fr _ _ _ _ => Fz)
      (rename News _ _ _ _ => Nz)
      exact ret _ _ _ _ _ Fz Nz hdo hfo lod hoff
end

end
-- part Wp
section
/-- a letter's places in the line -/
def posOf (l : List Nat) (c : Nat) : List Int := ((List.range l.length).filter fun q => decide (l.getD q 0 = c)).map fun q : Nat => (q : Int)
/-- where a stretch of k letters from i on may end -/
def endsOf (w l : List Nat) (i : Nat) : Nat → List Int
  | 0 => [-1]
  | k + 1 => (endsOf w l i k).flatMap fun p => (posOf l (w.getD (i + k) 0)).filter fun q => decide (p < q)
def wayG (w l : List Nat) (i k : Nat) : Int := ((endsOf w l i k).length : Int)
def S (φ : Int → Int) (E : List Int) : Int := (E.map φ).sum
theorem S_nil (φ : Int → Int) : S φ [] = 0 := rfl
theorem S_cons (φ : Int → Int) (a : Int) (E : List Int) : S φ (a :: E) = φ a + S φ E := by simp [S]
theorem S_append (φ : Int → Int) (a b : List Int) : S φ (a ++ b) = S φ a + S φ b := by simp [S]
theorem S_flat (φ : Int → Int) (f : Int → List Int) : ∀ E : List Int, S φ (E.flatMap f) = S (fun p => S φ (f p)) E
  | [] => rfl
  | a :: r => by rw [List.flatMap_cons, S_append, S_cons, S_flat φ f r]
theorem S_congr {φ ψ : Int → Int} : ∀ {E : List Int}, (∀ p ∈ E, φ p = ψ p) → S φ E = S ψ E
  | [], _ => rfl
  | a :: r, h => by rw [S_cons, S_cons, h a (List.mem_cons_self ..), S_congr fun p hp => h p (List.mem_cons_of_mem _ hp)]
theorem S_plus (φ : Int → Int) (c : Int) : ∀ E : List Int, S (fun p => φ p + c) E = S φ E + (E.length : Int) * c
  | [] => by simp [S]
  | a :: r => by
    rw [S_cons, S_cons, S_plus φ c r, List.length_cons]
    rw [show ((r.length + 1 : Nat) : Int) = (r.length : Int) + 1 by omega, Int.add_mul]
    omega
theorem S_one : ∀ E : List Int, S (fun _ => 1) E = (E.length : Int)
  | [] => rfl
  | a :: r => by rw [S_cons, S_one r, List.length_cons]; omega
theorem posOf_snoc (l : List Nat) (c d : Nat) : posOf (l ++ [c]) d = posOf l d ++ (if d = c then [(l.length : Int)] else []) := by
  unfold posOf
  rw [List.length_append, List.length_singleton, List.range_succ, List.filter_append, List.map_append]
  congr 1
  · congr 1
    apply List.filter_congr
    intro q hq
    have : q < l.length := List.mem_range.mp hq
    simp [List.getD_eq_getElem?_getD, List.getElem?_append_left this]
  · by_cases h : d = c
    · subst h; simp [List.getD_eq_getElem?_getD]
    · have h' : ¬ c = d := fun e => h e.symm
      simp [List.getD_eq_getElem?_getD, h, h']
theorem posOf_lt {l : List Nat} {c : Nat} {q : Int} (h : q ∈ posOf l c) : q < (l.length : Int) := by
  unfold posOf at h
  obtain ⟨a, ha, rfl⟩ := List.mem_map.mp h
  have := List.mem_range.mp (List.mem_filter.mp ha).1
  omega
theorem endsOf_lt {w l : List Nat} {i : Nat} : ∀ {k : Nat} {p : Int}, p ∈ endsOf w l i k → p < (l.length : Int)
  | 0, p, h => by
    have : p = -1 := by simpa [endsOf] using h
    omega
  | k + 1, p, h => by
    unfold endsOf at h
    obtain ⟨a, _, h2⟩ := List.mem_flatMap.mp h
    exact posOf_lt (List.mem_filter.mp h2).1
/-- what one more sign brings -/
def more1 (w l : List Nat) (c i : Nat) : Nat → Int
  | 0 => 0
  | k + 1 => if w.getD (i + k) 0 = c then ((endsOf w l i k).length : Int) else 0
theorem ends_snoc (w l : List Nat) (c i : Nat) : ∀ (k : Nat) (φ : Int → Int), S φ (endsOf w (l ++ [c]) i k) = S φ (endsOf w l i k) + more1 w l c i k * φ (l.length : Int)
  | 0, φ => by simp [endsOf, more1]
  | k + 1, φ => by
    have e1 : ∀ l', S φ (endsOf w l' i (k + 1)) = S (fun p => S φ ((posOf l' (w.getD (i + k) 0)).filter fun q => decide (p < q))) (endsOf w l' i k) := fun l' => by
      show S φ ((endsOf w l' i k).flatMap _) = _
      rw [S_flat]
    rw [e1, ends_snoc w l c i k, e1]
    have e2 : S φ ((posOf (l ++ [c]) (w.getD (i + k) 0)).filter fun q => decide ((l.length : Int) < q)) = 0 := by
      have : ((posOf (l ++ [c]) (w.getD (i + k) 0)).filter fun q => decide ((l.length : Int) < q)) = [] := by
        rw [List.filter_eq_nil_iff]
        intro q hq
        have := posOf_lt hq
        simp at this ⊢
        omega
      rw [this]; rfl
    rw [e2, Int.mul_zero, Int.add_zero]
    by_cases hc : w.getD (i + k) 0 = c
    · have e3 : ∀ p ∈ endsOf w l i k, S φ ((posOf (l ++ [c]) (w.getD (i + k) 0)).filter fun q => decide (p < q)) = S φ ((posOf l (w.getD (i + k) 0)).filter fun q => decide (p < q)) + φ (l.length : Int) := by
        intro p hp
        have := endsOf_lt hp
        rw [posOf_snoc, if_pos hc, List.filter_append, S_append]
        congr 1
        rw [List.filter_cons, if_pos (by simpa using this)]
        simp [S]
      rw [S_congr e3, S_plus]
      show _ = _ + (if _ then _ else _) * _
      rw [if_pos hc]
    · have e3 : ∀ p ∈ endsOf w l i k, S φ ((posOf (l ++ [c]) (w.getD (i + k) 0)).filter fun q => decide (p < q)) = S φ ((posOf l (w.getD (i + k) 0)).filter fun q => decide (p < q)) := by
        intro p _
        rw [posOf_snoc, if_neg hc, List.append_nil]
      rw [S_congr e3]
      show _ = _ + (if _ then _ else _) * _
      rw [if_neg hc]
      omega
theorem wayG_snoc (w l : List Nat) (c i k : Nat) : wayG w (l ++ [c]) i k = wayG w l i k + more1 w l c i k := by
  unfold wayG
  rw [← S_one, ← S_one, ends_snoc, Int.mul_one]
theorem nxt_false_zero (e : Nat → Bool) (g : Nat → Nat → Int) (i : Nat) (b : Bool) : nxt b e g i 0 = g i 0 := rfl
theorem nxt_false_succ (e : Nat → Bool) (g : Nat → Nat → Int) (i k : Nat) : nxt false e g i (k + 1) = g i (k + 1) + (if e (i + k) = true then g i k else 0) := by
  unfold nxt
  rw [show dltO false e g i (k + 1) = if e (i + k) = true then some (g i k + (if false = true then (dltO false e g i k).getD 0 else 0)) else none from rfl]
  split
  · rename_i h
    split at h
    · cases h
    · rename_i h2; rw [if_neg h2]; omega
  · rename_i d h
    split at h
    · rename_i h2
      rw [if_pos h2]
      simp at h
      omega
    · cases h
theorem nxt_true_succ (e : Nat → Bool) (g : Nat → Nat → Int) (i k : Nat) : nxt true e g i (k + 1) = g i (k + 1) + (if e (i + k) = true then nxt true e g i k else 0) := by
  have hn : nxt true e g i k = g i k + (dltO true e g i k).getD 0 := by
    unfold nxt
    split
    · rename_i h; rw [h]; simp
    · rename_i d h; rw [h]; simp
  rw [hn]
  unfold nxt
  rw [show dltO true e g i (k + 1) = if e (i + k) = true then some (g i k + (if true = true then (dltO true e g i k).getD 0 else 0)) else none from rfl]
  split
  · rename_i h
    split at h
    · cases h
    · rename_i h2; rw [if_neg h2]; omega
  · rename_i d h
    split at h
    · rename_i h2
      rw [if_pos h2]
      simp at h
      omega
    · cases h
theorem snoc_ind {P : List Nat → Prop} (h0 : P []) (h1 : ∀ l c, P l → P (l ++ [c])) (l : List Nat) : P l := by
  have : ∀ l : List Nat, P l.reverse := by
    intro l
    induction l with
    | nil => exact h0
    | cons c r ih => rw [List.reverse_cons]; exact h1 _ _ ih
  have := this l.reverse
  rwa [List.reverse_reverse] at this
/-- the first table is told by choosing places -/
theorem ways_tally (w l : List Nat) : ∀ i k, i + k < 5 → wayG w l i k = tally false w l i k := by
  refine snoc_ind (P := fun l => ∀ i k, i + k < 5 → wayG w l i k = tally false w l i k) ?_ ?_ l
  · intro i k _
    cases k with
    | zero => rfl
    | succ k =>
      show ((endsOf w [] i (k + 1)).length : Int) = 0
      have : endsOf w [] i (k + 1) = [] := by
        unfold endsOf
        simp [posOf]
      rw [this]; rfl
  · intro l c ih i k h
    rw [wayG_snoc, tally_snoc, ih i k h]
    cases k with
    | zero => rw [nxt_false_zero]; simp [more1]
    | succ k =>
      rw [nxt_false_succ, eOf_at w c (show i + k < 4 by omega)]
      congr 1
      show (if _ then _ else _) = _
      simp only [decide_eq_true_eq]
      split
      · exact ih i k (by omega)
      · rfl

/-! the inverse -/
def unit (i : Nat) (j : Nat) : Int := if j = i then 1 else 0
def stp (e : Nat → Bool) (V : Nat → Int) : Nat → Int
  | 0 => V 0
  | j + 1 => V (j + 1) - (if e j = true then V j else 0)
def bck (e : Nat → Bool) (V : Nat → Int) : Nat → Int
  | 0 => V 0
  | j + 1 => V (j + 1) + (if e j = true then bck e V j else 0)
theorem bck_stp (e : Nat → Bool) (V : Nat → Int) : ∀ j, bck e (stp e V) j = V j
  | 0 => rfl
  | j + 1 => by
    show stp e V (j + 1) + (if e j = true then bck e (stp e V) j else 0) = _
    rw [bck_stp e V j]
    show V (j + 1) - _ + _ = _
    omega
def stps (w l : List Nat) (V : Nat → Int) : Nat → Int := l.foldl (fun V c => stp (eOf w c) V) V
def bcks (w l : List Nat) (V : Nat → Int) : Nat → Int := l.foldl (fun V c => bck (eOf w c) V) V
theorem bcks_stps (w : List Nat) : ∀ (l : List Nat) (V : Nat → Int), bcks w l.reverse (stps w l V) = V
  | [], _ => rfl
  | c :: r, V => by
    have ih := bcks_stps w r (stp (eOf w c) V)
    unfold bcks stps at ih ⊢
    rw [List.reverse_cons, List.foldl_append, List.foldl_cons, List.foldl_cons, List.foldl_nil]
    rw [ih]
    funext j
    exact bck_stp _ _ j
theorem bck_lin (e : Nat → Bool) (U V : Nat → Int) (a : Int) : ∀ j, bck e (fun j => U j + a * V j) j = bck e U j + a * bck e V j
  | 0 => rfl
  | j + 1 => by
    show (U (j + 1) + a * V (j + 1)) + (if e j = true then bck e _ j else 0) = (U (j + 1) + _) + a * (V (j + 1) + _)
    rw [bck_lin e U V a j]
    split
    · rw [Int.mul_add]; omega
    · rw [Int.mul_add]; omega
theorem bcks_lin (w : List Nat) : ∀ (l : List Nat) (U V : Nat → Int) (a : Int), bcks w l (fun j => U j + a * V j) = fun j => bcks w l U j + a * bcks w l V j
  | [], _, _, _ => rfl
  | c :: r, U, V, a => by
    show bcks w r (bck (eOf w c) _) = fun j => bcks w r (bck _ U) j + a * bcks w r (bck _ V) j
    rw [← bcks_lin w r]
    congr 1
    funext j
    exact bck_lin _ U V a j
theorem bck_loc (e : Nat → Bool) {U V : Nat → Int} {n : Nat} (h : ∀ j, j < n → U j = V j) : ∀ j, j < n → bck e U j = bck e V j
  | 0, hj => h 0 hj
  | j + 1, hj => by
    show U (j + 1) + _ = V (j + 1) + _
    rw [h _ hj, bck_loc e h j (by omega)]
theorem bcks_loc (w : List Nat) {n : Nat} : ∀ (l : List Nat) {U V : Nat → Int}, (∀ j, j < n → U j = V j) → ∀ j, j < n → bcks w l U j = bcks w l V j
  | [], _, _, h => h
  | c :: r, _, _, h => bcks_loc w r (bck_loc (eOf w c) h)
def rowB (g : Nat → Nat → Int) (i j : Nat) : Int := if j < i then 0 else g i (j - i)
def rowS (g : Nat → Nat → Int) (i j : Nat) : Int := if j < i then 0 else (-1) ^ (j - i) * g i (j - i)
theorem rowB_nxt (e : Nat → Bool) (g : Nat → Nat → Int) (i : Nat) : ∀ j, rowB (nxt true e g) i j = bck e (rowB g i) j
  | 0 => by
    show (if 0 < i then 0 else _) = (if 0 < i then 0 else _)
    split
    · rfl
    · rw [Nat.zero_sub, nxt_false_zero]
  | j + 1 => by
    show _ = rowB g i (j + 1) + (if e j = true then bck e (rowB g i) j else 0)
    rw [← rowB_nxt e g i j]
    unfold rowB
    by_cases h1 : j + 1 < i
    · rw [if_pos h1, if_pos h1, if_pos (show j < i by omega)]; simp
    · rw [if_neg h1, if_neg h1]
      by_cases h2 : j < i
      · have e0 : j + 1 - i = 0 := by omega
        rw [if_pos h2, e0, nxt_false_zero]; simp
      · rw [if_neg h2]
        have e1 : j + 1 - i = (j - i) + 1 := by omega
        rw [e1, nxt_true_succ, show i + (j - i) = j by omega]
theorem lines14 : True := by
  k_with_none
  k_with "for_hold" => ((k_here; (rename Fr _ _ _ _ => lF'); (with_unfolding_all refine' For_hold lF' (by exact rfl) (by exact rfl) ?_; k_whole)))
  k_with "clean_enter" => ((refine' defG ?k1 ?k2 ?k3 ?k4 ?k5 ?kA ?kF ?kK ?k6 ?k7 ?k8 ?k9 ?kB ?_ ?c2 ?c3 ?c4 ?c5; (case kA => exact rfl); (case kF => exact rfl); (case kK => assumption); (case k1 => k_asm); (case k2 => k_asm); (case k3 => k_asm); (case k4 => k_asm); (case k5 => k_asm); (case k6 => k_is); (case k7 => k_is); (case k8 => ktr_room); (case k9 => exact BindsTo.of_eq rfl); (case c5 => decide); (case kB => exact locs rfl); (case c2 => exact rfl); (case c3 => exact rfl); (case c4 => exact rfl); k_whole; intro g' L' h' FG' F' N' B' X' T'; (try dsimp only); (try k_lift B'); (try k_fold)))
  k_with "cells_enter" => ((refine' code_defC ?k1 ?k2 ?k3 ?k4 ?k5 ?kA ?kF ?kK ?k6 ?k7 ?k8 ?k9 ?kB ?kD ?_ ?c2 ?c3 ?c4; (case kA => exact rfl); (case kF => exact rfl); (case kK => assumption); (case k1 => k_asm); (case k2 => k_asm); (case k3 => k_asm); (case k4 => k_asm); (case k5 => k_asm); (case k6 => k_is); (case k7 => k_is); (case k8 => ktr_room); (case k9 => exact BindsTo.of_eq rfl); (case kB => exact rfl); (case kD => decide +kernel); (case c2 => exact rfl); (case c3 => exact rfl); (case c4 => exact rfl); k_whole; intro g' L' h' tk' cells' FG' F' N' Y' B' X' T' l1; (try k_lt l1); k_cells Y'; (try simp only [List.cons_append, List.nil_append] at N'); (try dsimp only); (try k_lift B'); (try k_fold)))
  k_with "lc_hold" => ((k_here; k_dflt (refine ListComp_W (F₀ := by k_asm) (by with_unfolding_all rfl) (by decide) (by rfl) (by decide) (by rfl) ?_)))
  k_with "lk_hold" => ((k_here; (with_reducible show wpAny _ _ (eval (Expr.ListComp _ [⟨_, _, [], 0⟩] _ _) _) _ _ _); k_dflt (refine ListComp_K (F₀ := by k_asm) (by with_unfolding_all rfl) (by intro _ _; rfl) (by intro _; rfl) (by rfl) (by decide) (by intro _ _; rfl) ?_)))
  k_with "lt_hold" => ((k_here; (with_reducible show wpAny _ _ (eval (Expr.ListComp _ [⟨_, _, [_], 0⟩] _ _) _) _ _ _); k_dflt (refine ListComp_TH (F₀ := by k_asm) (by with_unfolding_all rfl) (by decide) (by rfl) (by decide) (by rfl) ?_)))
  k_with "al_hold" => ((k_here; (with_reducible show wpAny _ _ (exec (Stmt.Assign [Expr.Name _ _] (Expr.ListComp _ [⟨_, _, [], 0⟩] _ _) _) _) _ _ _); k_dflt (refine' Assign_ListComp_W (F₀ := by k_asm) (by rfl) (by with_unfolding_all rfl) (by with_unfolding_all rfl) (by decide) (by rfl) (by decide) (by rfl) (by rfl) (by rfl) ?_); k_whole))
  k_with "forT_hold" => ((k_here; (rename Fr _ _ _ _ => lF'); (with_unfolding_all refine' ForT_hold lF' ?_); k_whole))
  k_with "m_mem" => (first | with_reducible assumption | exact List.Mem.head _ | (refine' List.mem_cons_of_mem _ ?_; k_extra "m_mem"))
  k_with "m_tab" => (exact TabAt.ofNews (by k_asm) (by k_extra "m_mem") (by k_asm) (by k_asm) (by k_asm))
  k_with "m_items" => ((k_here; (with_reducible show wpAny _ _ (getMethod (Value.ref _) (PySem.Str.ofString "items") _) _ _ _); k_dflt (refine getMethod_tab (knd := PySem.intKind _ _) (enc := PyData.int) PySem.F.slot_dict_items PySem.F.type_dict_items (by k_extra "m_tab") ?_)))
  k_with "m_get" => ((k_here; (with_reducible show wpAny _ _ (getMethod (Value.ref _) (PySem.Str.ofString "get") _) _ _ _); k_dflt (refine getMethod_tab (knd := PySem.intKind _ _) (enc := PyData.int) PySem.F.slot_dict_get PySem.F.type_dict_get (by k_extra "m_tab") ?_)))
  k_with "m_callItems" => ((k_here; (with_reducible show wpAny _ _ (call (Value.builtin "dict.items") [Value.ref _]) _ _ _); k_dflt (refine' call_items_tab (knd := PySem.intKind _ _) (enc := PyData.int) (by k_extra "m_tab") (by k_asm) (by k_asm) ?_); intro h' o' hv' F' N'))
  k_with "m_callGet" => ((k_here; (with_reducible show wpAny _ _ (call (Value.builtin "dict.get") [Value.ref _, Value.int _ _, Value.int _ _]) _ _ _); k_dflt (refine kdf_get2 (by k_extra "m_tab") ?_); intro _))
  k_with "m_in" => ((k_here; k_dflt (refine kdf_in (by k_extra "m_tab") ?_)))
  k_with "m_item" => ((k_here; (with_reducible show wpAny _ _ (subscriptTail _ _ (Value.ref _) (Value.int _ _)) _ _ _); k_dflt (refine kdf_item (by k_extra "m_tab") (by assumption) ?_); intro _))
  k_with "m_off" => (first | with_reducible assumption | exact List.forall_mem_nil _ | (refine' List.forall_mem_cons.mpr ⟨(by k_extra "m_ne0"), (by k_extra "m_off")⟩))
  k_with "m_ne0" => ((dsimp only; first | with_reducible assumption | (refine Ne.symm ?_; with_reducible assumption) | k_ne))
  k_with "m_upd" => (first | (refine' UpdF.head (by k_extra "m_off")) | (refine' UpdF.tail (by k_extra "m_ne0") (by k_extra "m_upd")))
  k_with "m_set" => ((k_here; (with_reducible show wpAny _ _ (setItem (Value.ref _) (Value.int _ _) (Value.int _ _)) _ _ _); k_dflt (refine' kdf_setItem (by k_asm) (by k_asm) (by k_extra "m_upd") (by k_asm) (by k_asm) (by first | with_reducible assumption | omega) ?_); intro h' o' kvs' F' N' hd' hf'; (try dsimp only at N')))
  k_with "m_getItem" => ((k_here; (with_reducible show wpAny _ _ (getItem (Value.ref _) (Value.int _ _)) _ _ _); k_dflt (refine kdf_getItem (by k_extra "m_tab") (by assumption) ?_); intro _))
  exact True.intro
theorem rowS_nxt (e : Nat → Bool) (g : Nat → Nat → Int) (i : Nat) : ∀ j, rowS (nxt false e g) i j = stp e (rowS g i) j
  | 0 => by
    show (if 0 < i then 0 else _) = (if 0 < i then 0 else _)
    split
    · rfl
    · rw [Nat.zero_sub, nxt_false_zero]
  | j + 1 => by
    show _ = rowS g i (j + 1) - (if e j = true then rowS g i j else 0)
    unfold rowS
    by_cases h1 : j + 1 < i
    · rw [if_pos h1, if_pos h1, if_pos (show j < i by omega)]; simp
    · rw [if_neg h1, if_neg h1]
      by_cases h2 : j < i
      · have e0 : j + 1 - i = 0 := by omega
        rw [if_pos h2, e0, nxt_false_zero]; simp
      · rw [if_neg h2]
        have e1 : j + 1 - i = (j - i) + 1 := by omega
        rw [e1, nxt_false_succ, show i + (j - i) = j by omega]
        split
        · rw [Int.mul_add, Int.pow_succ]
          generalize ((-1 : Int) ^ (j - i)) = p
          have : p * -1 * g i (j - i) = -(p * g i (j - i)) := by rw [Int.mul_neg, Int.mul_one, Int.neg_mul]
          omega
        · simp
theorem row_tallyB (w : List Nat) (i : Nat) (l : List Nat) : rowB (tally true w l) i = bcks w l (unit i) := by
  refine snoc_ind (P := fun l => rowB (tally true w l) i = bcks w l (unit i)) ?_ ?_ l
  · funext j
    show (if j < i then 0 else if j - i = 0 then 1 else 0) = if j = i then 1 else 0
    by_cases h : j = i
    · subst h; simp
    · rw [if_neg h]; split
      · rfl
      · rw [if_neg (by omega)]
  · intro l c ih
    rw [tally_snoc]
    unfold bcks at ih ⊢
    rw [List.foldl_append, List.foldl_cons, List.foldl_nil, ← ih]
    funext j
    exact rowB_nxt _ _ i j
theorem row_tallyS (w : List Nat) (i : Nat) (l : List Nat) : rowS (tally false w l) i = stps w l (unit i) := by
  refine snoc_ind (P := fun l => rowS (tally false w l) i = stps w l (unit i)) ?_ ?_ l
  · funext j
    show (if j < i then 0 else (-1) ^ (j - i) * (if j - i = 0 then 1 else 0)) = if j = i then 1 else 0
    by_cases h : j = i
    · subst h; simp
    · rw [if_neg h]; split
      · rfl
      · rw [if_neg (show ¬ (j - i = 0) by omega), Int.mul_zero]
  · intro l c ih
    rw [tally_snoc]
    unfold stps at ih ⊢
    rw [List.foldl_append, List.foldl_cons, List.foldl_nil, ← ih]
    funext j
    exact rowS_nxt _ _ i j
theorem inverse_row (w l : List Nat) (i j : Nat) (hj : j < 5) :
    rowS (tally false w l) i 0 * rowB (tally true w l.reverse) 0 j + rowS (tally false w l) i 1 * rowB (tally true w l.reverse) 1 j + rowS (tally false w l) i 2 * rowB (tally true w l.reverse) 2 j
      + rowS (tally false w l) i 3 * rowB (tally true w l.reverse) 3 j + rowS (tally false w l) i 4 * rowB (tally true w l.reverse) 4 j = unit i j := by
  have h := congrFun (bcks_stps w l (unit i)) j
  rw [← row_tallyS] at h
  generalize rowS (tally false w l) i = V at h ⊢
  simp only [row_tallyB]
  have hV : ∀ j, j < 5 → V j = ((((0 + V 0 * unit 0 j) + V 1 * unit 1 j) + V 2 * unit 2 j) + V 3 * unit 3 j) + V 4 * unit 4 j := by
    intro j hj
    match j, hj with
    | 0, _ => simp [unit]
    | 1, _ => simp [unit]
    | 2, _ => simp [unit]
    | 3, _ => simp [unit]
    | 4, _ => simp [unit]
    | j + 5, hj => omega
  rw [bcks_loc w l.reverse hV j hj] at h
  rw [bcks_lin w l.reverse (fun j => (((0 + V 0 * unit 0 j) + V 1 * unit 1 j) + V 2 * unit 2 j) + V 3 * unit 3 j) (unit 4) (V 4)] at h
  rw [bcks_lin w l.reverse (fun j => ((0 + V 0 * unit 0 j) + V 1 * unit 1 j) + V 2 * unit 2 j) (unit 3) (V 3)] at h
  rw [bcks_lin w l.reverse (fun j => (0 + V 0 * unit 0 j) + V 1 * unit 1 j) (unit 2) (V 2)] at h
  rw [bcks_lin w l.reverse (fun j => 0 + V 0 * unit 0 j) (unit 1) (V 1)] at h
  rw [bcks_lin w l.reverse (fun j => 0) (unit 0) (V 0)] at h
  have hz : bcks w l.reverse (fun _ => 0) j = 0 := by
    have h2 := congrFun (bcks_lin w l.reverse (fun _ => 0) (fun _ => 0) 1) j
    simp only [Int.mul_zero, Int.add_zero, Int.one_mul] at h2
    omega
  dsimp only at h
  rw [hz] at h
  omega
/-- what count_calls is asked -/
def prods (R B : Nat → Nat → Int) (i j : Nat) : List Int := (List.range (j - i)).map fun a => (-1) ^ a * R i (a + 1) * B (i + 1 + a) (j - (i + 1 + a))
theorem inverse_sum (w l : List Nat) {i j : Nat} (hij : i < j) (hj : j < 5) : (prods (tally false w l) (tally true w l.reverse) i j).sum = tally true w l.reverse i (j - i) := by
  have h := inverse_row w l i j hj
  have hR : ∀ i, tally false w l i 0 = 1 := by
    intro i
    refine snoc_ind (P := fun l => tally false w l i 0 = 1) rfl (fun l c ih => ?_) l
    rw [tally_snoc, nxt_false_zero]; exact ih
  generalize tally true w l.reverse = B at h ⊢
  generalize tally false w l = R at h hR ⊢
  have h1 := hR i
  clear hR
  obtain ⟨d, rfl⟩ : ∃ d, j = i + 1 + d := ⟨j - i - 1, by omega⟩
  match i, d, hj with
  | 0, 0, _ | 0, 1, _ | 0, 2, _ | 0, 3, _ | 1, 0, _ | 1, 1, _ | 1, 2, _ | 2, 0, _ | 2, 1, _ | 3, 0, _ =>
    simp [rowS, rowB, unit, prods, List.range_succ, h1, Int.neg_mul] at h ⊢
    omega
  | 0, d + 4, h => omega
  | 1, d + 3, h => omega
  | 2, d + 2, h => omega
  | 3, d + 1, h => omega
  | i + 4, d, h => omega

end
-- part Lt
section
section
variable {prog : Program} {w : World} {A : Around} {E : Value → Shared → Prop} {s : Shared} {env : Env} {h₀ : Heap} {target : Expr} {body : List Stmt} {Q : Flow → Shared → Prop}
theorem loop_T {I : Addr} {n : Nat} {P : Nat → Value → Prop} {St : Nat → Heap → Prop} {m₀ : Str → Option Value} {news : List (Addr × Obj)} (J : Nat → (Str → Option Value) → List (Addr × Obj) → Prop)
    (W : Walks prog w A I [I] [I] n P St) (ht : ∀ v, letOwnedTupleGo target (.ref I) v = pure ()) (hIo : ∀ i h, St i h → ∃ o, h.get? I = some o) (hLf : env.locals ≠ I) (hI₀ : h₀.get? I = none) (hnw : ∀ p ∈ news, p.1 ≠ I) (hst : St 0 s.heap) (F : Fr h₀ env.locals s.heap m₀) (N : News h₀ env.locals s.heap news) (hj : J 0 m₀ news)
    (turn : ∀ i v m₁ nx h tk it, i < n → P i v → J i m₁ nx → (∀ p ∈ nx, p.1 ≠ I) → Fr h₀ env.locals h m₁ → News h₀ env.locals h ((I, it) :: nx) →
      wpAny (model prog w) A (assign target env v) (fun _ s₂ => wpAny (model prog w) A (execs body env) (GEnd h₀ env.locals { s with heap := h, toks := tk } (I, it) (J (i + 1)) Q) E s₂) E { s with heap := h, toks := tk })
    (done : ∀ m₁ nx h tk, J n m₁ nx → Fr h₀ env.locals h m₁ → News h₀ env.locals h nx → Q .next { s with heap := h, toks := tk }) :
    TurnsAt prog w A h₀ env target body Q E (.ref I) s := by
  refine ⟨I, [I], [I], n, _, _, St, m₀, news, J, rfl, KTurns.ofWalks W (fun i v s Q E _ hq => wpAny_of_eq (ht v) hq), by simpa using hLf, fun b hb => by rw [List.mem_singleton.mp hb]; exact hI₀, fun p hp => by simpa using hnw p hp, hst, F, N, hj, ?_, ?_⟩
  · rintro i v m₁ nx h₁ tk₁ own hin hP hJ hoff hown hget hall hst₁ F₁ N₁
    obtain ⟨it, hit⟩ := hIo _ _ hst₁
    have hm : (I, it) ∈ own := hall I (by simp) hI₀ it hit
    have hown' : ∀ p ∈ own, p = (I, it) := by
      intro p hp
      have h1 : p.1 = I := by simpa using hown p hp
      have h2 := hget p hp
      rw [h1] at h2
      have h3 : it = p.2 := Option.some.inj (hit.symm.trans h2)
      exact Prod.ext h1 h3.symm
    have hnx : ∀ p ∈ nx, p.1 ≠ I := fun p hp => by simpa using hoff p hp
    refine wpAny_mono (turn i v m₁ nx h₁ tk₁ it hin hP hJ hnx F₁ (fun p hp => N₁ p ?_)) (fun _ s₂ h₂ => wpAny_mono h₂ (fun f s₃ p => ?_) fun _ _ e => e) fun _ _ e => e
    · rcases List.mem_cons.mp hp with rfl | hp
      · exact List.mem_append_left _ hm
      · exact List.mem_append_right _ hp
    have fin : GEndI h₀ env.locals { s with heap := h₁, toks := tk₁ } (I, it) (J (i + 1)) s₃ → LoopStepU h₀ env.locals [I] own (J (i + 1)) { s with heap := h₁, toks := tk₁ } .next s₃ := by
      rintro ⟨h', tk, m', all, nx', e, F', N', hi, hn, ha, hj'⟩
      refine ⟨rfl, h', tk, m', nx', e, F', fun p hp => ?_, fun p hp => by simpa using ha p hp, hj'⟩
      rcases List.mem_append.mp hp with hp | hp
      · rw [hown' p hp]; exact N' _ hi
      · exact N' _ (hn p hp)
    cases f with
    | ret v => exact .ret p
    | brk => exact .brk p
    | next => exact .next (fin p)
    | cont => exact .cont (fin p)
  · rintro h' tk m' news' F' N' _ hJ
    exact done m' news' h' tk hJ F' N'

theorem iter_rangeT {x : Str} {px : Pos} {r : Addr} {a₀ b₀ c₀ : Int} {t₀ u₀ v₀ : Tok} {n : Nat} {m₀ : Str → Option Value} {news : List (Addr × Obj)} (J : Nat → (Str → Option Value) → List (Addr × Obj) → Prop)
    (hh : A.handled = none) (hr : IsRange s.heap r a₀ b₀ c₀ t₀ u₀ v₀) (hsmall : Builtin.Range.small a₀ b₀ c₀ = true) (hn : Builtin.Range.rangeSize a₀ b₀ c₀ = (n : Int)) (F : Fr h₀ env.locals s.heap m₀) (N : News h₀ env.locals s.heap news) (hj : J 0 m₀ news)
    (turn : ∀ (i : Nat) (z : Int) t m₁ nx h tk I it, i < n → z = a₀ + (i : Int) * c₀ → J i m₁ nx → (∀ p ∈ nx, p.1 ≠ I) → Fr h₀ env.locals h m₁ → News h₀ env.locals h ((I, it) :: nx) →
      wpAny (model prog w) A (assign (.Name x px) env (.int z t)) (fun _ s₂ => wpAny (model prog w) A (execs body env) (GEnd h₀ env.locals { s with heap := h, toks := tk } (I, it) (J (i + 1)) Q) E s₂) E { s with heap := h, toks := tk })
    (done : ∀ m₁ nx h tk, J n m₁ nx → Fr h₀ env.locals h m₁ → News h₀ env.locals h nx → Q .next { s with heap := h, toks := tk }) :
    wpAny (model prog w) A (pyIter (.ref r)) (fun it s₂ => TurnsAt prog w A h₀ env (.Name x px) body Q E it s₂) E s := by
  refine wpAny_pyIter_range hr hsmall ?_
  have W : Walks prog w A s.heap.objs.size [s.heap.objs.size] [s.heap.objs.size] n (fun i v => i < n ∧ ∃ t, v = .int (a₀ + i * c₀) t)
      (fun i h => IsRangeIter h s.heap.objs.size (a₀ + (i : Nat) * c₀) ((n : Int) - (i : Nat)) c₀) := (Walks.range hh _ a₀ c₀ n).bound
  refine loop_T J W (fun _ => rfl) (fun i h st => ⟨_, st⟩) (Nat.ne_of_lt F.ns.lt) (next_is_new F) (fun p hp => Nat.ne_of_lt (Heap.lt_size (N p hp).1)) (by show IsRangeIter _ _ _ _ _; rw [hn]; simpa using Heap.get?_push_size _ rfl) (F.push _) (N.grown fun _ _ e => Heap.get?_push_of_some _ e) hj ?_ ?_
  · rintro i v m₁ nx h tk it hi ⟨_, t, rfl⟩ hJ hnx F₁ N₁
    exact turn i _ t m₁ nx h tk _ it hi rfl hJ hnx F₁ N₁
  · intro m₁ nx h tk hJ F₁ N₁
    exact done m₁ nx h tk hJ F₁ N₁
end

end
-- part Wy
section
theorem off1_mem {D : Addr} : ∀ {l : List (Addr × Obj)}, LCg.Off1 D l → ∀ p ∈ l, p.1 ≠ D
  | [], _, _, h => nomatch h
  | q :: r, x, p, h => by
    rcases List.mem_cons.mp h with rfl | h
    · exact x.1
    · exact off1_mem x.2 p h
/-- the places' lists, newest first -/
def dsL (ds : List (Addr × List Value)) : List (Addr × Obj) := ds.map fun d => (d.1, LCg.lst d.2)
inductive JW (wd ln : List Nat) (news : List (Addr × Obj)) (c1 c2 c3 : Addr × Obj) (i : Nat) (ys : List Value) (nx : List (Addr × Obj)) : Prop
  | mk (ds : List (Addr × List Value)) (e1 : ds.length = i) (e2 : ys = ds.reverse.map (fun d => Value.ref d.1)) (e3 : ∀ k d, ds.reverse[k]? = some d → IntsAre d.2 (posOf ln (wd.getD k 0))) (e4 : ∀ d ∈ ds, d.1 ≠ c1.1 ∧ d.1 ≠ c2.1 ∧ d.1 ≠ c3.1) (e5 : nx = c1 :: c2 :: c3 :: (dsL ds ++ news)) : JW wd ln news c1 c2 c3 i ys nx
theorem JW_start {wd ln : List Nat} {news : List (Addr × Obj)} {c1 c2 c3 : Addr × Obj} : JW wd ln news c1 c2 c3 0 [] (c1 :: c2 :: c3 :: news) := ⟨[], rfl, rfl, by simp, by simp, rfl⟩
/-- the places, as the loops need them -/
structure Pl (wd ln : List Nat) (news : List (Addr × Obj)) (pl : List Value) (tl : List (Addr × Obj)) : Prop where
  len : pl.length = 4
  at' : ∀ k, k < 4 → ∃ d vs, pl[k]? = some (Value.ref d) ∧ (d, LCg.lst vs) ∈ tl ∧ IntsAre vs (posOf ln (wd.getD k 0))
  sub : ∀ p ∈ news, p ∈ tl
theorem JW_end {wd ln : List Nat} {news : List (Addr × Obj)} {c1 c2 c3 : Addr × Obj} {ys : List Value} {nx : List (Addr × Obj)} (h : JW wd ln news c1 c2 c3 4 ys nx) (h1 : ∀ p ∈ news, p.1 ≠ c1.1 ∧ p.1 ≠ c2.1 ∧ p.1 ≠ c3.1) :
    ∃ tl, nx = c1 :: c2 :: c3 :: tl ∧ Pl wd ln news ys tl ∧ ∀ p ∈ tl, p.1 ≠ c1.1 ∧ p.1 ≠ c2.1 ∧ p.1 ≠ c3.1 := by
  obtain ⟨ds, hdl, rfl, hds, hap, rfl⟩ := h
  refine ⟨_, rfl, ⟨by simp [hdl], fun k hk => ?_, fun p hp => List.mem_append_right _ hp⟩, fun p hp => ?_⟩
  · have hk' : k < ds.reverse.length := by simp [hdl, hk]
    have e := List.getElem?_eq_getElem hk'
    refine ⟨ds.reverse[k].1, ds.reverse[k].2, by rw [List.getElem?_map, e]; rfl, List.mem_append_left _ (List.mem_map.mpr ⟨_, List.mem_reverse.mp (List.getElem_mem hk'), rfl⟩), hds k _ e⟩
  · rcases List.mem_append.mp hp with hp | hp
    · obtain ⟨d, hd, rfl⟩ := List.mem_map.mp hp
      exact hap d hd
    · exact h1 p hp
def wcell (g : Nat → Nat → Int) (i : Nat) (T : List (Int × Int)) (k : Nat) : List (Int × Int) := kdfPut T (10 * i + (i + k : Nat) + 1) (g i (k + 1))
def wrow (g : Nat → Nat → Int) (T : List (Int × Int)) (i : Nat) : List (Int × Int) := (List.range (4 - i)).foldl (wcell g i) (kdfPut T (11 * i) (g i 0))
theorem wtab_eq (g : Nat → Nat → Int) : (List.range 5).foldl (wrow g) [] = tabOf g := by kernel_rfl
theorem wrow_len (g : Nat → Nat → Int) (c : List (Int × Int)) (i : Nat) : (wrow g c i).length ≤ c.length + 5 := by
  have h1 := foldN_len (wcell g i) (fun _ _ => kdfPut_len _ _ _) (kdfPut c (11 * i) (g i 0)) (4 - i)
  have h2 := kdfPut_len c (11 * (i : Int)) (g i 0)
  unfold wrow
  omega
theorem wrows_len (g : Nat → Nat → Int) (n : Nat) : ((List.range n).foldl (wrow g) []).length ≤ 5 * n := by
  induction n with
  | zero => simp
  | succ n ih =>
    rw [foldN_succ]
    have := wrow_len g ((List.range n).foldl (wrow g) []) n
    omega
theorem wcells_small (g : Nat → Nat → Int) {C0 : List (Int × Int)} {i k : Nat} (h : C0.length ≤ 5 * i) (hi : i < 5) (hk : k < 4 - i) : ((List.range k).foldl (wcell g i) (kdfPut C0 (11 * (i : Int)) (g i 0))).length ≤ 16777216 := by
  have h2 := foldN_len (wcell g i) (fun _ _ => kdfPut_len _ _ _) (kdfPut C0 (11 * (i : Int)) (g i 0)) k
  have h3 := kdfPut_len C0 (11 * (i : Int)) (g i 0)
  omega
/-- between the rows -/
inductive JI (prog : Program) (w : World) (C : Nat → List (Int × Int)) (d j : Addr) (base : List (Addr × Obj)) (m₀ : Str → Option Value) (i : Nat) (m : Str → Option Value) (nx : List (Addr × Obj)) : Prop
  | mk (o : Obj) (kvs : List (Int × Value)) (oj : Obj) (v : Option Value) (c1 : nx = (d, o) :: (j, oj) :: base) (c2 : o.IsDictOf (PySem.intKind prog w) kvs) (c3 : FlatPairs PyData.int kvs (kdfD (C i))) (c4 : oj.data = .cell v) (c5 : ∀ z : Str, z ≠ "i" → z ≠ "ends" → m z = m₀ z) : JI prog w C d j base m₀ i m nx
/-- between the cells of a row -/
inductive JJ (prog : Program) (w : World) (C : Nat → List (Int × Int)) (wd ln : List Nat) (i : Nat) (d j : Addr) (base : List (Addr × Obj)) (m₀ : Str → Option Value) (k : Nat) (m : Str → Option Value) (nx : List (Addr × Obj)) : Prop
  | mk (o : Obj) (kvs : List (Int × Value)) (oj : Obj) (v : Option Value) (e : Addr) (oe : Obj) (vs : List Value) (n : Nat) (c1 : nx = (d, o) :: (j, oj) :: (e, oe) :: base) (c2 : o.IsDictOf (PySem.intKind prog w) kvs) (c3 : FlatPairs PyData.int kvs (kdfD (C k))) (c4 : oj.data = .cell v) (c5 : oe.cls = .type "list") (c6 : oe.data = .seq (List.toArray vs) n) (c7 : IntsAre vs (endsOf wd ln i k)) (c8 : m "ends" = some (.ref e)) (c9 : e ≠ d) (c10 : e ≠ j) (c11 : ∀ z : Str, z ≠ "ends" → m z = m₀ z) : JJ prog w C wd ln i d j base m₀ k m nx
theorem item_lst {prog : Program} {w : World} {A : Around} {E : Value → Shared → Prop} {s : Shared} {value slice : Expr} {l : Addr} {vs : List Value} {k : Int} {u : Tok} {v : Value} {Q : Value → Shared → Prop}
    (hl : s.heap.IsList l vs.toArray) (h0 : 0 ≤ k) (hhi : k < 2 ^ 63) (hx : vs[k.toNat]? = some v) (h : Q v s)
    (hs : subscripted slice false (.ref l) (.int k u) = operate [.ref l, .int k u] (getItem (.ref l) (.int k u)) := by with_unfolding_all rfl) :
    wpAny (model prog w) A (subscriptTail value slice (.ref l) (.int k u)) Q E s :=
  tail_any hl.typeIs slot_list_getitem.lookup (wpAny_getItem_list hl h0 hhi (by simpa using hx) h) hs
theorem mapE {a : Str} {m₁ m₀ : Str → Option Value} {v : Value} (ha : m₁ a = some v) (hm : ∀ z, z ≠ a → m₁ z = m₀ z) : m₁ = fun y => if y = a then some v else m₀ y := by
  funext y
  by_cases h1 : y = a
  · rw [if_pos h1, h1]; exact ha
  · rw [if_neg h1]; exact hm y h1
theorem posOf_len (l : List Nat) (c : Nat) : (posOf l c).length ≤ l.length := by
  unfold posOf
  rw [List.length_map]
  have := List.length_filter_le (fun q => decide (l.getD q 0 = c)) (List.range l.length)
  rw [List.length_range] at this
  exact this
theorem ends_len (w : List Nat) {l : List Nat} (h : l.length ≤ 50) (i : Nat) : ∀ k, (endsOf w l i k).length ≤ 50 ^ k
  | 0 => by simp [endsOf]
  | k + 1 => by
    have h1 := flat_len (endsOf w l i k) (posOf l (w.getD (i + k) 0))
    have h2 := Nat.mul_le_mul (ends_len w h i k) (Nat.le_trans (posOf_len l (w.getD (i + k) 0)) h)
    exact Nat.le_trans h1 h2
theorem ends_len3 (w : List Nat) {l : List Nat} (h : l.length ≤ 50) (i : Nat) {k : Nat} (hk : k < 4) : (endsOf w l i k).length ≤ 125000 :=
  Nat.le_trans (ends_len w h i k) (Nat.le_trans (Nat.pow_le_pow_right (by omega) (show k ≤ 3 by omega)) (by decide))
theorem same_walk {α : Type} {M : Model} {A : Around} {s : Shared} {h₀ h : Heap} {L C : Addr} {m : Str → Option Value} {oC : Obj} {led led' : List (Addr × Obj)} {t : Sem α} {R : α → Prop} {tk : Nat} {E : Value → Shared → Prop}
    (sub : ∀ x ∈ led, x ∈ led') (F : Fr h₀ L h m) (N : News h₀ L h ((C, oC) :: led'))
    (hw : News h₀ L h ((C, oC) :: led) → wpAny M A t (fun v s' => R v ∧ ∃ tk', s' = { s with heap := h, toks := tk' }) E { s with heap := h, toks := tk }) :
    wpAny M A t (fun v s' => R v ∧ Same h₀ L m { s with heap := h, toks := tk } ((C, oC) :: led') s') E { s with heap := h, toks := tk } := by
  refine wpAny_mono (hw fun p hp => ?_) (fun v s' hq => ?_) fun _ _ e => e
  · rcases List.mem_cons.mp hp with rfl | hp
    · exact N _ (.head _)
    · exact N _ (.tail _ (sub _ hp))
  · obtain ⟨h1, tk', rfl⟩ := hq
    exact ⟨h1, h, tk', rfl, F, N⟩
theorem m_sub5 (e' i d j e : Addr × Obj) (r : List (Addr × Obj)) : ∀ p ∈ d :: j :: e' :: r, p ∈ e' :: i :: d :: j :: e :: r := by
  intro p hp
  simp only [List.mem_cons] at hp ⊢
  rcases hp with h | h | h | h <;> simp [h]
theorem m_sub6 (i d j e : Addr × Obj) (r : List (Addr × Obj)) : ∀ p ∈ d :: j :: r, p ∈ d :: j :: e :: i :: r := by
  intro p hp
  simp only [List.mem_cons] at hp ⊢
  rcases hp with h | h | h <;> simp [h]
theorem m_perm4 (e i d j : Addr × Obj) (r : List (Addr × Obj)) : ∀ p ∈ d :: j :: e :: i :: r, p ∈ e :: i :: d :: j :: r := by
  intro p hp
  simp only [List.mem_cons] at hp ⊢
  rcases hp with h | h | h | h | h <;> simp [h]
theorem m_perm3 (a b c : Addr × Obj) (r : List (Addr × Obj)) : ∀ p ∈ a :: c :: b :: r, p ∈ a :: b :: c :: r := by
  intro p hp
  simp only [List.mem_cons] at hp ⊢
  rcases hp with h | h | h | h <;> simp [h]
section
theorem lines15 : True := by
  k_with_none
  k_with "for_hold" => ((k_here; (rename Fr _ _ _ _ => lF'); (with_unfolding_all refine' For_hold lF' (by exact rfl) (by exact rfl) ?_; k_whole)))
  k_with "clean_enter" => ((refine' defG ?k1 ?k2 ?k3 ?k4 ?k5 ?kA ?kF ?kK ?k6 ?k7 ?k8 ?k9 ?kB ?_ ?c2 ?c3 ?c4 ?c5; (case kA => exact rfl); (case kF => exact rfl); (case kK => assumption); (case k1 => k_asm); (case k2 => k_asm); (case k3 => k_asm); (case k4 => k_asm); (case k5 => k_asm); (case k6 => k_is); (case k7 => k_is); (case k8 => ktr_room); (case k9 => exact BindsTo.of_eq rfl); (case c5 => decide); (case kB => exact locs rfl); (case c2 => exact rfl); (case c3 => exact rfl); (case c4 => exact rfl); k_whole; intro g' L' h' FG' F' N' B' X' T'; (try dsimp only); (try k_lift B'); (try k_fold)))
  k_with "cells_enter" => ((refine' code_defC ?k1 ?k2 ?k3 ?k4 ?k5 ?kA ?kF ?kK ?k6 ?k7 ?k8 ?k9 ?kB ?kD ?_ ?c2 ?c3 ?c4; (case kA => exact rfl); (case kF => exact rfl); (case kK => assumption); (case k1 => k_asm); (case k2 => k_asm); (case k3 => k_asm); (case k4 => k_asm); (case k5 => k_asm); (case k6 => k_is); (case k7 => k_is); (case k8 => ktr_room); (case k9 => exact BindsTo.of_eq rfl); (case kB => exact rfl); (case kD => decide +kernel); (case c2 => exact rfl); (case c3 => exact rfl); (case c4 => exact rfl); k_whole; intro g' L' h' tk' cells' FG' F' N' Y' B' X' T' l1; (try k_lt l1); k_cells Y'; (try simp only [List.cons_append, List.nil_append] at N'); (try dsimp only); (try k_lift B'); (try k_fold)))
  k_with "lc_hold" => ((k_here; k_dflt (refine ListComp_W (F₀ := by k_asm) (by with_unfolding_all rfl) (by decide) (by rfl) (by decide) (by rfl) ?_)))
  k_with "lk_hold" => ((k_here; (with_reducible show wpAny _ _ (eval (Expr.ListComp _ [⟨_, _, [], 0⟩] _ _) _) _ _ _); k_dflt (refine ListComp_K (F₀ := by k_asm) (by with_unfolding_all rfl) (by intro _ _; rfl) (by intro _; rfl) (by rfl) (by decide) (by intro _ _; rfl) ?_)))
  k_with "lt_hold" => ((k_here; (with_reducible show wpAny _ _ (eval (Expr.ListComp _ [⟨_, _, [_], 0⟩] _ _) _) _ _ _); k_dflt (refine ListComp_TH (F₀ := by k_asm) (by with_unfolding_all rfl) (by decide) (by rfl) (by decide) (by rfl) ?_)))
  k_with "al_hold" => ((k_here; (with_reducible show wpAny _ _ (exec (Stmt.Assign [Expr.Name _ _] (Expr.ListComp _ [⟨_, _, [], 0⟩] _ _) _) _) _ _ _); k_dflt (refine' Assign_ListComp_W (F₀ := by k_asm) (by rfl) (by with_unfolding_all rfl) (by with_unfolding_all rfl) (by decide) (by rfl) (by decide) (by rfl) (by rfl) (by rfl) ?_); k_whole))
  k_with "forT_hold" => ((k_here; (rename Fr _ _ _ _ => lF'); (with_unfolding_all refine' ForT_hold lF' ?_); k_whole))
  k_with "m_mem" => (first | with_reducible assumption | exact List.Mem.head _ | (refine' List.mem_cons_of_mem _ ?_; k_extra "m_mem"))
  k_with "m_tab" => (exact TabAt.ofNews (by k_asm) (by k_extra "m_mem") (by k_asm) (by k_asm) (by k_asm))
  k_with "m_items" => ((k_here; (with_reducible show wpAny _ _ (getMethod (Value.ref _) (PySem.Str.ofString "items") _) _ _ _); k_dflt (refine getMethod_tab (knd := PySem.intKind _ _) (enc := PyData.int) PySem.F.slot_dict_items PySem.F.type_dict_items (by k_extra "m_tab") ?_)))
  k_with "m_get" => ((k_here; (with_reducible show wpAny _ _ (getMethod (Value.ref _) (PySem.Str.ofString "get") _) _ _ _); k_dflt (refine getMethod_tab (knd := PySem.intKind _ _) (enc := PyData.int) PySem.F.slot_dict_get PySem.F.type_dict_get (by k_extra "m_tab") ?_)))
  k_with "m_callItems" => ((k_here; (with_reducible show wpAny _ _ (call (Value.builtin "dict.items") [Value.ref _]) _ _ _); k_dflt (refine' call_items_tab (knd := PySem.intKind _ _) (enc := PyData.int) (by k_extra "m_tab") (by k_asm) (by k_asm) ?_); intro h' o' hv' F' N'))
  k_with "m_callGet" => ((k_here; (with_reducible show wpAny _ _ (call (Value.builtin "dict.get") [Value.ref _, Value.int _ _, Value.int _ _]) _ _ _); k_dflt (refine kdf_get2 (by k_extra "m_tab") ?_); intro _))
  k_with "m_in" => ((k_here; k_dflt (refine kdf_in (by k_extra "m_tab") ?_)))
  k_with "m_item" => ((k_here; (with_reducible show wpAny _ _ (subscriptTail _ _ (Value.ref _) (Value.int _ _)) _ _ _); k_dflt (refine kdf_item (by k_extra "m_tab") (by assumption) ?_); intro _))
  k_with "m_off" => (first | with_reducible assumption | exact List.forall_mem_nil _ | (refine' List.forall_mem_cons.mpr ⟨(by k_extra "m_ne0"), (by k_extra "m_off")⟩))
  k_with "m_ne0" => ((dsimp only; first | with_reducible assumption | (refine Ne.symm ?_; with_reducible assumption) | k_ne))
  k_with "m_upd" => (first | (refine' UpdF.head (by k_extra "m_off")) | (refine' UpdF.tail (by k_extra "m_ne0") (by k_extra "m_upd")))
  k_with "m_set" => ((k_here; (with_reducible show wpAny _ _ (setItem (Value.ref _) (Value.int _ _) (Value.int _ _)) _ _ _); k_dflt (refine' kdf_setItem (by k_asm) (by k_asm) (by k_extra "m_upd") (by k_asm) (by k_asm) (by first | with_reducible assumption | omega) ?_); intro h' o' kvs' F' N' hd' hf'; (try dsimp only at N')))
  k_with "m_getItem" => ((k_here; (with_reducible show wpAny _ _ (getItem (Value.ref _) (Value.int _ _)) _ _ _); k_dflt (refine kdf_getItem (by k_extra "m_tab") (by assumption) ?_); intro _))
  k_with "call builtin:len" => ((k_here; (with_reducible show wpAny _ _ (call (Value.builtin "len") [Value.ref _]) _ _ _); (rename News _ _ _ _ => Nx'); k_dflt (refine' PyProof.Rows.len_list ⟨_, (Nx' (_, _) (by k_extra "m_mem")).1, rfl, _, rfl⟩ (by (rw [List.size_toArray]; omega)) ?_)))
  k_with "exec Assign cons ListComp" => ((k_here; (with_reducible show wpAny _ _ (exec (Stmt.Assign [Expr.Name _ _] (Expr.ListComp _ [⟨_, _, [], 0⟩, ⟨_, _, [_], 0⟩] _ _) _) _) _ _ _); k_dflt (refine' Assign_Comp2 (F₀ := by k_asm) (by rfl) (by with_unfolding_all rfl) (by with_unfolding_all rfl) (by decide) (by rfl) (by decide) (by decide) (by rfl) (by rfl) (by rfl) (by rfl) ?_); k_whole))
  k_with "subscriptTail" => ((k_here; (with_reducible show wpAny _ _ (subscriptTail _ _ (Value.ref _) (Value.int _ _)) _ _ _); (rename News _ _ _ _ => Nx'); k_dflt (refine' item_lst ⟨_, (Nx' (_, _) (by k_extra "m_mem")).1, rfl, _, rfl⟩ (by omega) (by omega) (by with_reducible assumption) ?_)))
  k_with "storeName" => ((k_here; k_dflt (refine' storeX_C (by k_asm) (by k_asm) (by rfl) (by k_extra "m_upd") (by k_asm) ?_ (by rfl) (by rfl); k_whole); intro h' o' F' N' d'; (try dsimp only at N')))
  k_with "exec For Name Call cons nil" => (k_extra "forT_hold")
  k_with "exec For Name Call cons nil" => (k_extra "for_hold")
  k_with "setItem ref int" => (k_extra "m_set")
  k_with "eval ListComp" => (k_extra "lt_hold")
  k_with "eval ListComp" => (k_extra "lk_hold")
  k_with "execs nil" => ((k_here; (try dsimp only); refine wpAny_execs_nil ?_))
  exact True.intro
set_option maxRecDepth 100000 in
set_option maxHeartbeats 8000000 in
theorem ways_sum {w : World} {p : Program} {loose : List Str} {mean : ExcName → Option Value} {mg mb : Str → Option Value} {dp un : Nat} {gd : Option (List Code)} {cn : Str} {cs : Scope} {a : Addr} {ccd : Value} {cl : List (Str × Addr)} {outer : List Env} {A₀ : Around} {base h₀ : Heap} {L : Addr} {m : Str → Option Value} {news : List (Addr × Obj)} {s : Shared} {Q E : Value → Shared → Prop}
    (B : Below A₀ base outer h₀) (F : Fr h₀ L s.heap m) (X : (Mine.hd.heap_39 w.params).In h₀) (N : News h₀ L s.heap news) (T : Top p loose mean mg mb h₀) (hk : cs.kind = .function) (hd : dp + 16 < recursionLimit) (hu : un + 160 < cLine)
    (wd ln : List Nat) (t t2 : Tok) (hwd : wd.length = 4) (hln : ln.length ≤ 50)
    (ret : ∀ d o kvs h' tk', Fr h₀ L h' m → News h₀ L h' ((d, o) :: news) → o.IsDictOf (PySem.intKind PySem.Challenge.rw_zn0009_01.row.prog w) kvs → FlatPairs PyData.int kvs (kdfD (tabOf (wayG wd ln))) → (d == sysModules) = false → (∀ p ∈ news, p.1 ≠ d) → Q (.ref d) {s with heap := h', toks := tk'}) :
    wpAny (model PySem.Challenge.rw_zn0009_01.row.prog w) (ktrTop dp un gd cn cs L a ccd cl outer) (call (.ref 99) [.str (tx wd) t, .str (tx ln) t2]) Q E s := by
  have hlen' : (tx ln).length ≤ 5000 := by rw [tx_length]; omega
  revert X
  k_fill
  intro X
  refine wpAny_call ?_
  k_dflt k_extra "cells_enter"
  k_steps
  unfold Hold
  (rename Fr _ _ _ _ => Fa)
  (rename News _ _ _ _ => Na)
  (rename ∀ p ∈ _, Prod.fst p < _ => l1)
  refine goK_str rfl Fa Na (by rw [tx_cps_size]; omega) (fun g1 I1 C1 D1 K1 n1 n2 n3 n4 n5 n6 => rest_K (JW wd ln news _ _ _) JW_start ?_ ?_)
  · rintro i v oI oC oK m₂ ys nx h1 tk1 E' hi hv ⟨ds, hdl, rfl, hds, hap, rfl⟩ hC hK F1 N1 off
    obtain ⟨c, u, hc, rfl⟩ := hv
    generalize htl : dsL ds ++ news = tl at N1 off
    clear Fa Na
    k_steps
    unfold Hold
    (rename Fr _ _ _ _ => Fa)
    (rename News _ _ _ _ => Na)
    (rename IsRange _ _ _ _ _ _ _ _ => rg)
    refine LCt.CompSrcT.range rfl Fa Na rg (small1 (by omega) (by omega) (by omega) (by rw [tx_length]; omega)) (rangeSize1 (n := ln.length) (by simp [tx_length])) (by rw [sizeLine_eq]; omega) (fun g2 => rest_T (fun i v => ∃ t : Tok, v = Value.int (i : Int) t) (fun q => decide (ln.getD q 0 = c)) ?_ ?_)
    · intro j v I2 oI2 C2 oC2 D2 m₃ ys2 h2 tk2 E2 hj hv hC2 hx2 F2 N2 off2 ne2
      obtain ⟨u2, rfl⟩ := hv
      clear Fa Na rg
      have hit : ((Txt.item (tx ln) (0 + (j : Int)) == (⟨#[c]⟩ : Str)) = decide (ln.getD j 0 = c)) := item_tx ln j (by omega) hj
      k_steps
      · exfalso
        (rename _ ∨ _ => hor)
        rw [tx_length] at hor
        omega
      · (rename (Txt.item _ _ == _) = true => hq)
        (rename Fr _ _ _ _ => Fe)
        (rename News _ _ _ _ => Ne)
        rw [hit] at hq
        exact LCg.CompEnd.intro Fe Ne _ (fun p hp => hp) off2 trivial ⟨rfl, hq, u2, by rw [Int.zero_add]⟩
      · (rename (Txt.item _ _ == _) = false => hq)
        (rename Fr _ _ _ _ => Fe)
        (rename News _ _ _ _ => Ne)
        rw [hit] at hq
        exact LCg.CompEnd.intro Fe Ne _ (fun p hp => hp) off2 trivial ⟨rfl, hq⟩
    · intro ys2 hy2 D2 h2 tk2 F2 N2 off2
      have hi4 : i < wd.length := by rw [tx_cps_size] at hi; exact hi
      have hci : wd.getD i 0 = c := by
        have hc' : wd[i]? = some c := by simpa [tx] using hc
        rw [List.getD_eq_getElem?_getD, hc']; rfl
      have hints : IntsAre ys2 (posOf ln (wd.getD i 0)) := by rw [hci]; exact hy2.ints
      have offm := off1_mem off2
      refine EndK.intro F2 N2 (_ :: _ :: _ :: (D2, LCg.lst ys2) :: tl) ?_ ?_ ?_ trivial ⟨(D2, ys2) :: ds, by simp [hdl], by simp, ?_, ?_, by rw [← htl]; rfl⟩
      · intro p hp
        rcases List.mem_cons.mp hp with rfl | hp
        · exact .tail _ (.head _)
        rcases List.mem_cons.mp hp with rfl | hp
        · exact .tail _ (.tail _ (.head _))
        rcases List.mem_cons.mp hp with rfl | hp
        · exact .tail _ (.tail _ (.tail _ (.head _)))
        rcases List.mem_cons.mp hp with rfl | hp
        · exact .tail _ (.tail _ (.tail _ (.tail _ (.head _))))
        · nomatch hp
      · intro p hp
        rcases List.mem_cons.mp hp with rfl | hp
        · exact .tail _ (.tail _ (.tail _ (.tail _ (.tail _ (.head _)))))
        rcases List.mem_cons.mp hp with rfl | hp
        · exact .tail _ (.tail _ (.tail _ (.tail _ (.tail _ (.tail _ (.head _))))))
        rcases List.mem_cons.mp hp with rfl | hp
        · exact .tail _ (.tail _ (.tail _ (.tail _ (.tail _ (.tail _ (.tail _ (.head _)))))))
        rcases List.mem_cons.mp hp with rfl | hp
        · exact .head _
        · exact .tail _ (.tail _ (.tail _ (.tail _ (.tail _ (.tail _ (.tail _ (.tail _ hp)))))))
      · intro p hp q hq
        have far : ∀ p, p ∈ (_ :: _ :: _ :: tl) → p.1 ≠ q.1 := fun p hp => by
          have z := off p hp
          simp only [List.mem_cons, List.not_mem_nil, or_false] at hq
          rcases hq with rfl | rfl | rfl | rfl
          · exact z.1
          · exact z.2.1
          · exact z.2.2.1
          · exact z.2.2.2
        have near : q.1 ≠ D2 := by
          simp only [List.mem_cons, List.not_mem_nil, or_false] at hq
          rcases hq with rfl | rfl | rfl | rfl
          · exact offm _ (.head _)
          · exact offm _ (.tail _ (.head _))
          · exact offm _ (.tail _ (.tail _ (.head _)))
          · exact offm _ (.tail _ (.tail _ (.tail _ (.head _))))
        rcases List.mem_cons.mp hp with rfl | hp
        · exact far _ (.head _)
        rcases List.mem_cons.mp hp with rfl | hp
        · exact far _ (.tail _ (.head _))
        rcases List.mem_cons.mp hp with rfl | hp
        · exact far _ (.tail _ (.tail _ (.head _)))
        rcases List.mem_cons.mp hp with rfl | hp
        · exact Ne.symm near
        · exact far _ (.tail _ (.tail _ (.tail _ hp)))
      · intro k d hk
        rw [List.reverse_cons] at hk
        rcases snoc_at hk with ⟨-, hk⟩ | ⟨hk, hkd⟩
        · exact hds k d hk
        · rw [← hkd, hk, List.length_reverse, hdl]
          exact hints
      · intro d hd
        rcases List.mem_cons.mp hd with rfl | hd
        · exact ⟨Ne.symm (offm _ (.tail _ (.tail _ (.tail _ (.tail _ (.head _)))))), Ne.symm (offm _ (.tail _ (.tail _ (.tail _ (.tail _ (.tail _ (.head _))))))), Ne.symm (offm _ (.tail _ (.tail _ (.tail _ (.tail _ (.tail _ (.tail _ (.head _))))))))⟩
        · exact hap d hd
  · rintro ys nx hJ
    rw [tx_cps_size, hwd] at hJ
    obtain ⟨tl, rfl, hpl, hap⟩ := JW_end hJ (fun p hp => by have z : @LT.lt Nat _ p.1 _ := l1 p hp; refine ⟨?_, ?_, ?_⟩ <;> (intro e; have e' : @Eq Nat p.1 _ := e; simp only at e'; omega))
    clear hJ
    intro D2 h2 tk2 F2 N2 off2
    have a1 := fun p hp => (hap p hp).1
    have a2 := fun p hp => (hap p hp).2.1
    have b1 := off2 _ (.head _)
    have b2 := off2 _ (.tail _ (.head _))
    have b3 := fun p hp => off2 p (.tail _ (.tail _ (.tail _ hp)))
    dsimp only at a1 a2 b1 b2
    clear Fa Na
    k_steps
    unfold Hold
    (rename Fr _ _ _ _ => Fa)
    (rename News _ _ _ _ => Na)
    (rename IsRange _ _ _ _ _ _ _ _ => rg)
    (rename _ ∧ _ ∧ _ ∧ _ ∧ AllLt _ _ => l9)
    (rename (_ == sysModules) = false => lod)
    obtain ⟨ld2, ldj, ldp, ldl, ldt⟩ := l9
    have c1 := Nat.ne_of_lt ld2
    have c2 := Nat.ne_of_lt ldj
    have c3 := Nat.ne_of_lt ldp
    have c4 := Nat.ne_of_lt ldl
    have c5 : ∀ p ∈ tl, p.1 ≠ _ := fun p hp => Nat.ne_of_lt (allLt_at ldt p hp)
    clear hap off2
    refine iter_rangeG (n := 5) (JI PySem.Challenge.rw_zn0009_01.row.prog w (fun n => (List.range n).foldl (wrow (wayG wd ln)) []) _ _ _ _) rfl rg (by decide) (by decide) Fa (Na.perm (m_perm3 _ _ _ _)) ⟨_, _, _, _, rfl, by assumption, by assumption, by assumption, fun _ _ _ => rfl⟩ ?_ ?_
    · rintro i z t9 m₁ nx h tk I it hi hz ⟨o, kvs, oj, v, rfl, hdo, hfo, hoj, hmm⟩ hI F1 N1
      try dsimp only at hfo
      rw [mapAB hmm] at F1
      have e1 := hI _ (.head _)
      have e2 := hI _ (.tail _ (.head _))
      have e3 := hI _ (.tail _ (.tail _ (.head _)))
      have e4 := hI _ (.tail _ (.tail _ (.tail _ (.head _))))
      have e5 := hI _ (.tail _ (.tail _ (.tail _ (.tail _ (.head _)))))
      have e6 : ∀ p ∈ tl, p.1 ≠ I := fun p hp => hI p (.tail _ (.tail _ (.tail _ (.tail _ (.tail _ hp)))))
      have hle := wrows_len (wayG wd ln) i
      dsimp only at e1 e2 e3 e4 e5
      clear hmm hI Fa Na rg
      k_steps
      unfold Hold
      (rename Fr _ _ _ _ => Fa)
      (rename News _ _ _ _ => Na)
      (rename IsRange _ _ _ _ _ _ _ _ => rg)
      (rename _ ∧ _ ∧ _ ∧ _ ∧ _ ∧ _ ∧ AllLt _ _ => l9)
      obtain ⟨le1, le2, le3, le4, le5, le6, le7⟩ := l9
      have g1 := Nat.ne_of_lt le2
      have g2 := Nat.ne_of_lt le3
      obtain ⟨C0, hC0⟩ : ∃ C, C = (List.range i).foldl (wrow (wayG wd ln)) [] := ⟨_, rfl⟩
      (rename FlatPairs PyData.int _ (kdfD (kdfPut _ _ _)) => hfo1)
      rw [← hC0] at hfo1 hle
      have Nb := Na.perm (m_perm4 _ _ _ _ _)
      refine iter_rangeT (n := 4 - i) (JJ PySem.Challenge.rw_zn0009_01.row.prog w (fun k => (List.range k).foldl (wcell (wayG wd ln) i) (kdfPut C0 (11 * i) (wayG wd ln i 0))) wd ln i _ _ ((I, it) :: (D2, _) :: _ :: _ :: tl) _) rfl rg (span_small hz (Nat.le_of_lt_succ hi) rfl (by decide)) (span_size hz (Nat.le_of_lt_succ hi) rfl) Fa Nb ⟨_, _, _, _, _, _, [Value.int (-1) _], 0, rfl, by assumption, ?_, by assumption, rfl, rfl, .cons _ _ .nil, rfl, Ne.symm g1, Ne.symm g2, fun _ _ => rfl⟩ ?_ ?_
      · try dsimp only
        exact fp_put hfo1 (by rw [idx1 hz]) rfl
      · clear hdo hfo hoj hfo1 Fa Na Nb rg
        rintro k z2 t3 m₂ nx2 h3 tk3 I2 it2 hk hz2 ⟨o2, kvs2, oj2, v2, e, oe, vs, n, rfl, hdo, hfo, hoj, hoec, hoed, hvs, hends, ned, nej, hmm⟩ hI2 F3 N3
        try dsimp only at hfo
        rw [mapE hends hmm] at F3
        have f1 := hI2 _ (.head _)
        have f2 := hI2 _ (.tail _ (.head _))
        have f3 := hI2 _ (.tail _ (.tail _ (.head _)))
        have f4 := hI2 _ (.tail _ (.tail _ (.tail _ (.head _))))
        have f5 := hI2 _ (.tail _ (.tail _ (.tail _ (.tail _ (.head _)))))
        have f6 := hI2 _ (.tail _ (.tail _ (.tail _ (.tail _ (.tail _ (.head _))))))
        have f7 := hI2 _ (.tail _ (.tail _ (.tail _ (.tail _ (.tail _ (.tail _ (.head _)))))))
        have f8 : ∀ p ∈ tl, p.1 ≠ I2 := fun p hp => hI2 p (.tail _ (.tail _ (.tail _ (.tail _ (.tail _ (.tail _ (.tail _ hp)))))))
        have hle2 := wcells_small (wayG wd ln) hle hi hk
        dsimp only at f1 f2 f3 f4 f5 f6 f7
        clear hmm hI2 hends
        k_steps
        unfold Hold
        (rename Fr _ _ _ _ => Fc)
        (rename News _ _ _ _ => Nc)
        obtain ⟨bx, us, hbx, hbm, hus⟩ := hpl.at' (i + k) (idx_lt hk)
        have hz2i := idx2 hz hz2
        have hz3 : 0 ≤ z2 := hz2i ▸ Int.natCast_nonneg _
        have hitem : ys[z2.toNat]? = some (Value.ref bx) := by rw [hz2i]; exact hbx
        have hq1 := posOf_len ln (wd.getD (i + k) 0)
        have hq2 := ends_len3 wd hln i (k := k) (by omega)
        have hq3 := Nat.mul_le_mul hq2 (Nat.le_trans hq1 hln)
        refine ⟨e, bx, vs, us, endsOf wd ln i k, posOf ln (wd.getD (i + k) 0), _, rfl, rfl, Fc, Nc, .inr ⟨oe, ?_, hoec, _, hoed⟩, hvs, ⟨LCg.lst us, ?_, rfl, _, rfl⟩, hus, by omega, by omega, ?_, ?_, ?_, ?_⟩
        · k_extra "m_mem"
        · k_extra "m_mem"
        · intro C9 led' m9 oC9 a9 ta9 h9 tk9 E9 hsub hoC9 hp9 F9 N9
          refine same_walk hsub F9 N9 fun N9' => ?_
          clear N9 Fc Nc F3 N3 hsub
          k_steps
        · intro C9 led' m9 oC9 a9 ta9 b9 tb9 h9 tk9 E9 hsub hoC9 hp9 hq9 F9 N9
          refine same_walk hsub F9 N9 fun N9' => ?_
          clear N9 Fc Nc F3 N3 hsub
          k_steps
        · intro C9 led' m9 oC9 a9 ta9 b9 tb9 h9 tk9 E9 hsub hoC9 hp9 hq9 F9 N9
          refine same_walk hsub F9 N9 fun N9' => ?_
          clear N9 Fc Nc F3 N3 hsub
          k_steps
        · intro De ys9 h9 tk9 hys9 F9 N9 hlt9
          clear Fc Nc F3 N3
          have hl9 : ys9.length = (endsOf wd ln i (k + 1)).length := hys9.length
          have hl8 := ends_len wd hln i (k + 1)
          have hl7 : 50 ^ (k + 1) ≤ 6250000 := Nat.le_trans (Nat.pow_le_pow_right (by omega) (show k + 1 ≤ 4 by omega)) (by decide)
          have u1 := Nat.ne_of_lt (hlt9 _ (.tail _ (.head _)))
          have u2 := Nat.ne_of_lt (hlt9 _ (.tail _ (.tail _ (.head _))))
          have u3 := Nat.ne_of_lt (hlt9 _ (.head _))
          dsimp only at u1 u2 u3
          k_steps
          (rename Fr _ _ _ _ => Fe)
          (rename News _ _ _ _ => Ne)
          (rename FlatPairs PyData.int _ (kdfD (kdfPut (List.foldl _ _ _) _ _)) => hfe)
          refine GEnd.next _ Fe Ne (.tail _ (.head _)) (m_sub5 _ _ _ _ _ _) (by k_extra "m_off") ⟨_, _, _, _, _, _, ys9, _, rfl, by assumption, ?_, by assumption, rfl, rfl, hys9, rfl, _root_.Ne.symm u1, _root_.Ne.symm u2, fun z h1 => ?_⟩
          · try dsimp only
            rw [foldN_succ]
            exact fp_put hfe (by rw [hz2i, idx1 hz]) (by rw [List.size_toArray, hl9]; rfl)
          · (try dsimp only); repeat rw [if_neg h1]
      · rintro m₂ nx2 h3 tk3 ⟨o2, kvs2, oj2, v2, e, oe, vs, n, rfl, hd2, hf2, hoj2, -, -, -, hends, ned, nej, hmm⟩ F3 N3
        clear Fa Na Nb rg
        refine wpAny_execs_nil ?_
        refine GEnd.next _ F3 N3 (.tail _ (.tail _ (.tail _ (.head _)))) (m_sub6 _ _ _ _ _) (by k_extra "m_off") ⟨o2, kvs2, oj2, v2, rfl, hd2, ?_, hoj2, fun z h1 h2 => ?_⟩
        · (try dsimp only at hf2); (try dsimp only)
          rw [foldN_succ, ← hC0]
          exact hf2
        · rw [hmm z h2]
          (try dsimp only); repeat first | rw [if_neg h1] | rw [if_neg h2]
    · rintro m₁ nx h3 tk3 ⟨o, kvs, oj, v, rfl, hdo, hfo, hoj, hmm⟩ F1 N1
      try dsimp only at hfo
      rw [mapAB' hmm] at F1
      rw [wtab_eq] at hfo
      clear hmm Fa Na rg
      k_steps
      (rename Fr _ _ _ _ => Fz)
      (rename News _ _ _ _ => Nz)
      refine ret _ _ _ _ _ Fz (Nz.perm fun p hp => ?_) hdo hfo lod (fun p hp => c5 p (hpl.sub p hp))
      rcases List.mem_cons.mp hp with rfl | hp
      · exact .head _
      · exact .tail _ (.tail _ (.tail _ (.tail _ (.tail _ (hpl.sub p hp)))))
end

end
-- part D4
section
theorem codeG_call_cells {prog : Program} {w : World} {A : Around} {s : Shared} {R : Result → Shared → Prop} {a : Addr} {o : Obj} {fd : FuncData} {body : List Stmt} {vals : List Value} {binds : List (Str × Value)}
    (hroom : A.depth < recursionLimit) (ho : s.heap.get? a = some o) (hdata : o.data = .func fd) (hlim : s.heap.NoLimit) (hcd : s.heap.CodeRec fd.code fd.qualname)
    (hbody : fd.body = .stmts body) (hbind : bindArgs fd ⟨vals, []⟩ = pure binds) (hclo : fd.closure = [])
    (hkind : ∀ x ∈ binds, fd.scope.names.lookup x.1 = some .local ∨ (fd.scope.names.lookup x.1 = some .cell ∧ ((cellsFrom (s.heap.objs.size + 1) fd.scope.names []).lookup x.1).isSome = true))
    (h : ∀ s₁, InCallC s (callEnvC fd s.heap.objs.size a).locals (bindL (callEnvC fd s.heap.objs.size a).kindOf binds fun _ => none) (callEnvC fd s.heap.objs.size a).cells
        (bindC (callEnvC fd s.heap.objs.size a).kindOf binds fun _ => none) s₁ →
      wpG (model prog w) (A.deeper (callEnvC fd s.heap.objs.size a)) (execs body (callEnvC fd s.heap.objs.size a)) (fun f s' => R (.ok (.ret (match f with | .ret v => v | _ => .none))) s')
        (fun e s' => wpAny (model prog w) (A.deeper (callEnvC fd s.heap.objs.size a)) (leaving (callEnvC fd s.heap.objs.size a) e) (fun _ s'' => R (.error e) s'') (fun e' s'' => R (.error e') s'') s') s₁)
    (hco : fd.scope.isCoroutine = false := by rfl) (hgen : fd.scope.isGenerator = false := by rfl) (hk : fd.scope.kind = .function := by rfl) :
    codeG (model prog w) A (.call (.ref a) ⟨vals, []⟩) R s := by
  refine codeG_call_function hroom ho hdata hco hgen hbody hcd ?_
  rw [hbind, hclo]
  refine wpAny_pure (wpAny_newFunctionEnv_cells hk hkind fun env he s' x => ?_)
  subst he
  exact ⟨hlim.keeps x.toInCall.keep, codeG_func (h s' x)⟩
theorem callG_cellsN {prog : Program} {w : World} {A : Around} {R : Result → Shared → Prop} {s : Shared} {name : Str} {params : Arguments} {body : List Stmt} {scope : Scope}
    {pm cd doc : Value} {a : Addr} {o : Obj} {args : List Value} {binds : List (Str × Value)}
    (hroom : A.depth < recursionLimit) (ho : s.heap.get? a = some o) (hdata : o.data = .func (Calls.docDef name params body scope pm cd doc)) (hlim : s.heap.NoLimit) (hcd : s.heap.CodeRec cd name)
    (hbind : bindArgs (Calls.docDef name params body scope pm cd doc) ⟨args, []⟩ = pure binds)
    (hkind : ∀ x ∈ binds, scope.names.lookup x.1 = some .local ∨ (scope.names.lookup x.1 = some .cell ∧ ((cellsFrom (s.heap.objs.size + 1) scope.names []).lookup x.1).isSome = true))
    (hnd : ((cellsFrom 0 scope.names []).map (·.1)).Nodup)
    (h : ∀ h₁ tk cells, Fr s.heap s.heap.objs.size h₁ (bindL (envOfC name scope s.heap.objs.size a cd).kindOf binds fun _ => none) → News s.heap s.heap.objs.size h₁ cells →
      CellsAre (bindC (envOfC name scope s.heap.objs.size a cd).kindOf binds fun _ => none) (cellsFrom (s.heap.objs.size + 1) scope.names []) cells →
      wpG (model prog w) (A.deeper (envOfC name scope s.heap.objs.size a cd)) (execs body (envOfC name scope s.heap.objs.size a cd))
        (fun f s' => R (.ok (.ret (match f with | .ret v => v | _ => .none))) s')
        (fun e s' => wpAny (model prog w) (A.deeper (envOfC name scope s.heap.objs.size a cd)) (leaving (envOfC name scope s.heap.objs.size a cd) e)
          (fun _ s'' => R (.error e) s'') (fun e' s'' => R (.error e') s'') s')
        { s with heap := h₁, toks := tk })
    (hco : scope.isCoroutine = false := by rfl) (hgen : scope.isGenerator = false := by rfl) (hk : scope.kind = .function := by rfl) :
    codeG (model prog w) A (.call (.ref a) ⟨args, []⟩) R s := by
  refine codeG_call_cells (fd := Calls.docDef name params body scope pm cd doc) hroom ho hdata hlim hcd rfl hbind rfl hkind (fun s₁ X => ?_) hco hgen hk
  obtain ⟨h₁, tk, rfl, _⟩ := X.done
  have X' : Cl s.heap.objs.size (cellsFrom (s.heap.objs.size + 1) scope.names []) h₁ (bindC (envOfC name scope s.heap.objs.size a cd).kindOf binds fun _ => none) := ⟨X.cell, X.apart, X.above⟩
  obtain ⟨cells, N, Y⟩ := Cl.news (h₀ := s.heap) (Nat.le_refl _) fun n c hm => ⟨X'.cell n c (lookup_of_mem_nodup (cellsFrom_names scope.names 0 (s.heap.objs.size + 1) [] [] rfl ▸ hnd) hm), X'.above n c hm⟩
  exact h h₁ tk cells ⟨X.toInCall.ns, X.toInCall.keep, X.toInCall.fresh⟩ N Y
theorem enter_callG {M : Model} {A : Around} {s : Shared} {f : Value} {pos : List Value} {kw : List (Str × Value)} {c : ClaimW} {cl : Str → Option Addr} {mean : ExcName → Option Value} {args : List WData} {s₁ : Shared}
    (h : codeG M A (.call f ⟨pos, kw⟩) (GoodWG c cl mean args s₁) s) : wpG M A (PySem.call f pos kw) (fun v s' => GoodWG c cl mean args s₁ (.ok (.ret v)) s') (fun e s' => GoodWG c cl mean args s₁ (.error e) s') s :=
  wpG_call (codeG_mono h fun res s' g => by rcases g.1 with ⟨v, _, _, rfl, _⟩ | ⟨e, _, _, rfl, _⟩ <;> exact g)
theorem wpG_step {M : Model} {A : Around} {E : Value → Shared → Prop} {s : Shared} {env : Env} {st : Stmt} {rest : List Stmt} {Q : Flow → Shared → Prop}
    (h : wpAny M A (exec st env) (fun f s' => match f with | .next => wpG M A (execs rest env) Q E s' | f => Q f s') E s) :
    wpG M A (execs (st :: rest) env) Q E s := wpG_execs_cons (wpG_of h)

end
-- part Lb
section
/-- a def's own text, as the head has it -/
structure TextIn (K : Frag) (f : Addr) where
  body : List Stmt
  scope : Scope
  is : ∃ oc od name qual params dV kV doc pm an cdv ct osl, K.lookup f = some ⟨oc, od, .func (fnOf name qual params body scope dV kV doc pm an cdv ct), osl⟩
def textIn {K : Frag} {f : Addr} {oc od name qual params body scope dV kV doc pm an cdv ct osl} (h : K.lookup f = some ⟨oc, od, .func (fnOf name qual params body scope dV kV doc pm an cdv ct), osl⟩) : TextIn K f := ⟨body, scope, ⟨_, _, _, _, _, _, _, _, _, _, _, _, _, h⟩⟩
theorem lines16 : True := by
  k_with_none
  k_with "for_hold" => ((k_here; (rename Fr _ _ _ _ => lF'); (with_unfolding_all refine' For_hold lF' (by exact rfl) (by exact rfl) ?_; k_whole)))
  k_with "clean_enter" => ((refine' defG ?k1 ?k2 ?k3 ?k4 ?k5 ?kA ?kF ?kK ?k6 ?k7 ?k8 ?k9 ?kB ?_ ?c2 ?c3 ?c4 ?c5; (case kA => exact rfl); (case kF => exact rfl); (case kK => assumption); (case k1 => k_asm); (case k2 => k_asm); (case k3 => k_asm); (case k4 => k_asm); (case k5 => k_asm); (case k6 => k_is); (case k7 => k_is); (case k8 => ktr_room); (case k9 => exact BindsTo.of_eq rfl); (case c5 => decide); (case kB => exact locs rfl); (case c2 => exact rfl); (case c3 => exact rfl); (case c4 => exact rfl); k_whole; intro g' L' h' FG' F' N' B' X' T'; (try dsimp only); (try k_lift B'); (try k_fold)))
  k_with "cells_enter" => ((refine' code_defC ?k1 ?k2 ?k3 ?k4 ?k5 ?kA ?kF ?kK ?k6 ?k7 ?k8 ?k9 ?kB ?kD ?_ ?c2 ?c3 ?c4; (case kA => exact rfl); (case kF => exact rfl); (case kK => assumption); (case k1 => k_asm); (case k2 => k_asm); (case k3 => k_asm); (case k4 => k_asm); (case k5 => k_asm); (case k6 => k_is); (case k7 => k_is); (case k8 => ktr_room); (case k9 => exact BindsTo.of_eq rfl); (case kB => exact rfl); (case kD => decide +kernel); (case c2 => exact rfl); (case c3 => exact rfl); (case c4 => exact rfl); k_whole; intro g' L' h' tk' cells' FG' F' N' Y' B' X' T' l1; (try k_lt l1); k_cells Y'; (try simp only [List.cons_append, List.nil_append] at N'); (try dsimp only); (try k_lift B'); (try k_fold)))
  k_with "lc_hold" => ((k_here; k_dflt (refine ListComp_W (F₀ := by k_asm) (by with_unfolding_all rfl) (by decide) (by rfl) (by decide) (by rfl) ?_)))
  k_with "lk_hold" => ((k_here; (with_reducible show wpAny _ _ (eval (Expr.ListComp _ [⟨_, _, [], 0⟩] _ _) _) _ _ _); k_dflt (refine ListComp_K (F₀ := by k_asm) (by with_unfolding_all rfl) (by intro _ _; rfl) (by intro _; rfl) (by rfl) (by decide) (by intro _ _; rfl) ?_)))
  k_with "lt_hold" => ((k_here; (with_reducible show wpAny _ _ (eval (Expr.ListComp _ [⟨_, _, [_], 0⟩] _ _) _) _ _ _); k_dflt (refine ListComp_TH (F₀ := by k_asm) (by with_unfolding_all rfl) (by decide) (by rfl) (by decide) (by rfl) ?_)))
  k_with "al_hold" => ((k_here; (with_reducible show wpAny _ _ (exec (Stmt.Assign [Expr.Name _ _] (Expr.ListComp _ [⟨_, _, [], 0⟩] _ _) _) _) _ _ _); k_dflt (refine' Assign_ListComp_W (F₀ := by k_asm) (by rfl) (by with_unfolding_all rfl) (by with_unfolding_all rfl) (by decide) (by rfl) (by decide) (by rfl) (by rfl) (by rfl) ?_); k_whole))
  k_with "forT_hold" => ((k_here; (rename Fr _ _ _ _ => lF'); (with_unfolding_all refine' ForT_hold lF' ?_); k_whole))
  k_with "m_mem" => (first | with_reducible assumption | exact List.Mem.head _ | (refine' List.mem_cons_of_mem _ ?_; k_extra "m_mem"))
  k_with "m_tab" => (exact TabAt.ofNews (by k_asm) (by k_extra "m_mem") (by k_asm) (by k_asm) (by k_asm))
  k_with "m_items" => ((k_here; (with_reducible show wpAny _ _ (getMethod (Value.ref _) (PySem.Str.ofString "items") _) _ _ _); k_dflt (refine getMethod_tab (knd := PySem.intKind _ _) (enc := PyData.int) PySem.F.slot_dict_items PySem.F.type_dict_items (by k_extra "m_tab") ?_)))
  k_with "m_get" => ((k_here; (with_reducible show wpAny _ _ (getMethod (Value.ref _) (PySem.Str.ofString "get") _) _ _ _); k_dflt (refine getMethod_tab (knd := PySem.intKind _ _) (enc := PyData.int) PySem.F.slot_dict_get PySem.F.type_dict_get (by k_extra "m_tab") ?_)))
  k_with "m_callItems" => ((k_here; (with_reducible show wpAny _ _ (call (Value.builtin "dict.items") [Value.ref _]) _ _ _); k_dflt (refine' call_items_tab (knd := PySem.intKind _ _) (enc := PyData.int) (by k_extra "m_tab") (by k_asm) (by k_asm) ?_); intro h' o' hv' F' N'))
  k_with "m_callGet" => ((k_here; (with_reducible show wpAny _ _ (call (Value.builtin "dict.get") [Value.ref _, Value.int _ _, Value.int _ _]) _ _ _); k_dflt (refine kdf_get2 (by k_extra "m_tab") ?_); intro _))
  k_with "m_in" => ((k_here; k_dflt (refine kdf_in (by k_extra "m_tab") ?_)))
  k_with "m_item" => ((k_here; (with_reducible show wpAny _ _ (subscriptTail _ _ (Value.ref _) (Value.int _ _)) _ _ _); k_dflt (refine kdf_item (by k_extra "m_tab") (by assumption) ?_); intro _))
  k_with "m_off" => (first | with_reducible assumption | exact List.forall_mem_nil _ | (refine' List.forall_mem_cons.mpr ⟨(by k_extra "m_ne0"), (by k_extra "m_off")⟩))
  k_with "m_ne0" => ((dsimp only; first | with_reducible assumption | (refine Ne.symm ?_; with_reducible assumption) | k_ne))
  k_with "m_upd" => (first | (refine' UpdF.head (by k_extra "m_off")) | (refine' UpdF.tail (by k_extra "m_ne0") (by k_extra "m_upd")))
  k_with "m_set" => ((k_here; (with_reducible show wpAny _ _ (setItem (Value.ref _) (Value.int _ _) (Value.int _ _)) _ _ _); k_dflt (refine' kdf_setItem (by k_asm) (by k_asm) (by k_extra "m_upd") (by k_asm) (by k_asm) (by first | with_reducible assumption | omega) ?_); intro h' o' kvs' F' N' hd' hf'; (try dsimp only at N')))
  k_with "m_getItem" => ((k_here; (with_reducible show wpAny _ _ (getItem (Value.ref _) (Value.int _ _)) _ _ _); k_dflt (refine kdf_getItem (by k_extra "m_tab") (by assumption) ?_); intro _))
  exact True.intro
set_option maxRecDepth 100000 in
set_option maxHeartbeats 2000000 in
noncomputable def lawP (w : World) : TextIn (Mine.hd.heap_39 w.params) 104 := by
  have hf9 : (PySem.Challenge.rw_zn0009_01 = PySem.Challenge.rw_zn0009_01 ∧ Mine.hd.heap_39 w.params = Mine.hd.heap_39 w.params) → True := by
    k_fill
    exact fun _ => trivial
  refine' textIn ?h
  case h => k_is

end
-- part Cd
section
set_option maxHeartbeats 2000000
open LCg LCt
/-- the pairs laid one by one -/
def dictR (kf vf : Nat → Int) (n : Nat) : List (Int × Int) := (List.range n).foldl (fun c i => kdfPut c (kf i) (vf i)) []
theorem dictR_succ (kf vf : Nat → Int) (n : Nat) : dictR kf vf (n + 1) = kdfPut (dictR kf vf n) (kf n) (vf n) := by
  unfold dictR
  rw [List.range_succ, List.foldl_append]; rfl
theorem dictR_len (kf vf : Nat → Int) : ∀ n, (dictR kf vf n).length ≤ n
  | 0 => by simp [dictR]
  | n + 1 => by
    rw [dictR_succ]
    have := kdfPut_len (dictR kf vf n) (kf n) (vf n)
    have := dictR_len kf vf n
    omega
inductive DctSt (prog : Program) (w : World) (h₀ : Heap) (L : Addr) (m : Str → Option Value) (s₁ : Shared) (C D I : Addr) (ra : Int) (n : Nat) (kf vf : Nat → Int) (news : List (Addr × Obj)) (k : Nat) (s' : Shared) : Prop
  | mk (h' : Heap) (tk i : Nat) (kvs : List (Int × Value)) (m' : Str → Option Value) (e : s' = { s₁ with heap := h', toks := tk }) (hi : i ≤ n) (hk : k = n + 1 - i) (hst : IsRangeIter h' I (ra + (i : Nat) * 1) ((n : Int) - (i : Nat)) 1) (F : Fr h₀ L h' m) (hn : h'.Ns C m') (hd : h'.DictOf (PySem.intKind prog w) D kvs) (hf : FlatPairs PyData.int kvs (kdfD (dictR kf vf i))) (N : News h₀ L h' news) : DctSt prog w h₀ L m s₁ C D I ra n kf vf news k s'
section
variable {prog : Program} {w : World} {A : Around} {E : Value → Shared → Prop} {s : Shared} {h₀ : Heap} {L : Addr} {m : Str → Option Value} {env : Env}
inductive SrcD (prog : Program) (w : World) (A : Around) (h₀ : Heap) (L : Addr) (m : Str → Option Value) (env : Env) (kx vx : Expr) (x y : Str) (scope : Scope) (cl : List (Str × Addr)) (Q : Flow → Shared → Prop) (xv : Value) (s₁ : Shared) : Prop
  | mk (r : Addr) (a b : Int) (t u v : Tok) (n : Nat) (kf vf : Nat → Int) (news : List (Addr × Obj)) (c1 : xv = .ref r) (c2 : A.handled = none) (c3 : h₀.NoLimit) (c4 : Fr h₀ L s₁.heap m) (c5 : News h₀ L s₁.heap news) (c6 : IsRange s₁.heap r a b 1 t u v) (c7 : Builtin.Range.small a b 1 = true) (c8 : Builtin.Range.rangeSize a b 1 = ((n : Nat) : Int)) (c9 : n ≤ 16777216) (c10 : (∀ i C led' m₂ oC t h tk (E' : Value → Shared → Prop), i < n → (∀ x ∈ news, x ∈ led') → NsObj oC m₂ → m₂ x = some (.int (a + (i : Int)) t) → Fr h₀ L h m → News h₀ L h ((C, oC) :: led') → wpAny (model prog w) A (eval kx (compEnvC scope cl C env)) (fun v s' => (∃ t, v = .int (kf i) t) ∧ Same h₀ L m { s₁ with heap := h, toks := tk } ((C, oC) :: led') s') E' { s₁ with heap := h, toks := tk })) (c11 : (∀ i C led' m₂ oC t h tk (E' : Value → Shared → Prop), i < n → (∀ x ∈ news, x ∈ led') → NsObj oC m₂ → m₂ x = some (.int (a + (i : Int)) t) → Fr h₀ L h m → News h₀ L h ((C, oC) :: led') → wpAny (model prog w) A (eval vx (compEnvC scope cl C env)) (fun v s' => (∃ t, v = .int (vf i) t) ∧ Same h₀ L m { s₁ with heap := h, toks := tk } ((C, oC) :: led') s') E' { s₁ with heap := h, toks := tk })) (c12 : (∀ D o kvs h tk, Fr h₀ L h (fun z => if z = y then some (.ref D) else m z) → News h₀ L h ((D, o) :: news) → (∀ p ∈ news, p.1 < D) → (D == sysModules) = false → o.IsDictOf (PySem.intKind prog w) kvs → FlatPairs PyData.int kvs (kdfD (dictR kf vf n)) → Q .next { s₁ with heap := h, toks := tk })) : SrcD prog w A h₀ L m env kx vx x y scope cl Q xv s₁

theorem Assign_DictR {kx vx iter : Expr} {x y : Str} {px py : Pos} {scope : Scope} {cl : List (Str × Addr)} {pos spos : Pos} {Q : Flow → Shared → Prop} (F₀ : Fr h₀ L s.heap m) (hLe : env.locals = L)
    (hsw : swapsWith (.DictComp kx vx [⟨.Name x px, iter, [], 0⟩] scope pos) (some (.Name y py)) spos.line env = pure true)
    (hclos : closureFor scope env = pure cl) (hcell : ∀ z ∈ scope.names, z.2 ≠ .cell) (hkind : scope.kind = .function)
    (hnames : ∀ z ∈ scope.names, z.2 = .local → scope.names.lookup z.1 = some .local) (hx : scope.names.lookup x = some .local)
    (hy : env.kindOf y = some .local) (hp : (env.scope.kind == .class || (env.scope.kind == .module && env.locals != env.globals)) = false)
    (h : wpAny (model prog w) A (eval iter env) (fun xv s₁ => Hold (SrcD prog w A h₀ L m env kx vx x y scope cl Q xv s₁)) E s)
    (hs : ∀ x, foldedSetIterable iter env x = pure x := by intro _; rfl) :
    wpAny (model prog w) A (exec (.Assign [.Name y py] (.DictComp kx vx [⟨.Name x px, iter, [], 0⟩] scope pos) spos) env) Q E s := by
  subst hLe
  rw [exec_Assign_Name_used _ _ _ _ hsw]
  refine wpAny_bind (wpAny_standAt (wpAny_bind ?_))
  show wpAny _ A (do let _ ← comprehension (.DictComp kx vx [⟨.Name x px, iter, [], 0⟩] scope pos) scope env _ newDict false (eval iter env) (some (assign (.Name y py) env))) _ _ s
  refine wpAny_bind (wpAny_mono (wpAny_comprehension_free (use := some (assign (.Name y py) env)) (Q := fun _ s' => Q .next s') rfl hs hclos hkind hnames
    (wpAny_mono h (fun xv s₁ h₁ => ?_) fun _ _ e => e)) (fun _ s' hq => wpAny_pure (wpAny_pure hq)) fun _ _ e => e)
  obtain ⟨r, ra, rb, rt, ru, rv, n, kf, vf, news, rfl, hh, hlim, F, N, hr, hsm, hn, hsz, hK, hV, fin⟩ := h₁
  refine wpAny_pyIter_range hr hsm ?_
  generalize hH1 : s₁.heap.push _ = H1
  have up1 : ∀ b o, s₁.heap.get? b = some o → H1.get? b = some o := fun b o e => hH1 ▸ Heap.get?_push_of_some _ e
  have hIz : H1.objs.size = s₁.heap.objs.size + 1 := by rw [← hH1, Heap.size_push]
  have hit : IsRangeIter H1 s₁.heap.objs.size (ra + ((0 : Nat) : Int) * 1) ((n : Int) - ((0 : Nat) : Int)) 1 := by
    rw [← hH1]
    show IsRangeIter _ _ _ _ _
    rw [← hn]
    simpa using Heap.get?_push_size _ rfl
  obtain ⟨I, hIe⟩ : ∃ I : Addr, I = s₁.heap.objs.size := ⟨_, rfl⟩
  rw [← hIe] at hit ⊢
  have W := range_walks (prog := prog) (w := w) (A := A) (I := I) hh ra n
  refine wpAny_newObj_type (wpAny_newFunctionEnv hcell (by intro y hy; simp at hy) (fun h₁ hns₁ hsb₁ => ?_) hkind)
  dsimp only at hns₁ hsb₁ ⊢
  have hnew : (H1.push { cls := .type "dict", dict := none, data := .dict #[] }).DictOf (PySem.intKind prog w) H1.objs.size [] := Heap.DictOf.new H1
  generalize hH2 : H1.push { cls := .type "dict", dict := none, data := .dict #[] } = H2 at hns₁ hsb₁ hnew ⊢
  have hC : H2.objs.size = H1.objs.size + 1 := by rw [← hH2, Heap.size_push]
  obtain ⟨C, hCe⟩ : ∃ C : Addr, C = H2.objs.size := ⟨_, rfl⟩
  obtain ⟨D, hDe⟩ : ∃ D : Addr, D = H1.objs.size := ⟨_, rfl⟩
  rw [← hCe] at hns₁ hsb₁ ⊢
  rw [← hDe] at hnew ⊢
  have nI : @Eq Nat I s₁.heap.objs.size := hIe
  have nD : @Eq Nat D (s₁.heap.objs.size + 1) := hDe.trans hIz
  have nC : @Eq Nat C (s₁.heap.objs.size + 2) := by rw [hCe, hC, hIz]
  have hDC : D ≠ C := two_ne 1 2 nD nC (by decide)
  have hIC : I ≠ C := two_ne 0 2 nI nC (by decide)
  have hID : I ≠ D := two_ne 0 1 nI nD (by decide)
  have below : ∀ b, b < s₁.heap.objs.size → b ≠ I ∧ b ≠ C ∧ b ≠ D := fun b hb => ⟨at_ne 0 nI hb, at_ne 2 nC hb, at_ne 1 nD hb⟩
  have fresh₀ : ∀ a : Addr, @LE.le Nat _ s₁.heap.objs.size a → h₀.get? a = none := fun a ha => by
    cases e : h₀.get? a with
    | none => rfl
    | some o' => exact absurd (Heap.lt_size (F.keep a o' e)) (Nat.not_lt.mpr ha)
  have old2 : ∀ b o, H1.get? b = some o → h₁.get? b = some o := fun b o e => hsb₁.extBut b o (fun q => at_ne 1 (hCe.trans hC) (Heap.lt_size e) q) (Heap.get?_push_of_some _ (hH2 ▸ Heap.get?_push_of_some _ e))
  have old : ∀ b o, s₁.heap.get? b = some o → h₁.get? b = some o := fun b o e => old2 b o (up1 b o e)
  have hacc : h₁.DictOf (PySem.intKind prog w) D [] := hnew.at fun o e => hsb₁.extBut _ _ hDC (Heap.get?_push_of_some _ e)
  have hLlt : env.locals < s₁.heap.objs.size := F.ns.lt
  have hsys : (D == sysModules) = false := by
    refine beq_eq_false_iff_ne.mpr fun e => ?_
    exact at_ne 1 nD (Nat.lt_trans (Nat.lt_of_lt_of_le (modules_low hlim) F.above) hLlt) e.symm
  have hDL : D ≠ env.locals := Ne.symm (below _ hLlt).2.2
  have hCL : C ≠ env.locals := Ne.symm (below _ hLlt).2.1
  have hIL : env.locals ≠ I := (below _ hLlt).1
  have hD₀ : h₀.get? D = none := fresh₀ _ (at_le 1 nD)
  have hC₀ : h₀.get? C = none := fresh₀ _ (at_le 2 nC)
  have hI₀ : h₀.get? I = none := fresh₀ _ (at_le 0 nI)
  have hst : IsRangeIter h₁ I (ra + ((0 : Nat) : Int) * 1) ((n : Int) - ((0 : Nat) : Int)) 1 := W.frame 0 _ _ hit fun b hb o e => old2 b o e
  have hoff : ∀ x ∈ news, x.1 ≠ I ∧ x.1 ≠ C ∧ x.1 ≠ D := fun x hx => below _ (Heap.lt_size (N x hx).1)
  have hCf : C ∉ [I] := by simpa using Ne.symm hIC
  have hDf : D ∉ [I] := by simpa using Ne.symm hID
  have loop : ∀ s₃ : Shared, s₃ = { s₁ with heap := h₁, toks := s₁.toks + ([] : List (Str × Value)).length } →
      codeAny (model prog w) A (.compLoop (.DictComp kx vx [⟨.Name x px, iter, [], 0⟩] scope pos) 0 (.ref I) (.ref D) (compEnvC scope cl C env))
        (compPost (model prog w) A E (some (assign (.Name y py) env)) (fun _ s' => Q .next s') (.ref D) C) s₃ := by
    rintro s₃ rfl
    refine codeAny_compLoop_testsD
      (DctSt prog w h₀ env.locals m s₁ C D I ra n kf vf news) ?_ (n + 1)
      ⟨h₁, _, 0, [], _, rfl, Nat.zero_le _, rfl, hst, F.keeps old, hns₁, hacc, .nil, N.grown old⟩
    rintro k s' ⟨h', tk, i, kvs, m', rfl, hi, rfl, hst', F', hn', hd', hf', N'⟩
    by_cases hlt : i < n
    · refine W.item i _ _ _ hlt hst' fun v h₂ tk₂ hPv hst₂ hk₂ => ?_
      obtain ⟨ti, rfl⟩ := hPv
      refine wpAny_assign_Name (wpAny_storeName_local (lookup_relabel_local hx) (hn'.at' fun o e => hk₂ _ o hCf e) (fun h₃ hn₃ hs₃ => ?_) (by simp [compEnvC, relabel, hkind]))
      refine wpAny_tests_nil ?_
      simp only [if_true]
      have hst₃ : IsRangeIter h₃ I (ra + ((i + 1 : Nat) : Int) * 1) ((n : Int) - ((i + 1 : Nat) : Int)) 1 := W.frame (i + 1) _ _ hst₂ fun b hb o e => hs₃.extBut b o (fun q => hCf (by have q' : b = C := q; rw [← q']; exact hb)) e
      obtain ⟨oC, heC, hoC⟩ := ns_obj hn₃
      have F₃ : Fr h₀ env.locals h₃ m := (fr_but F' hk₂ hIL hI₀).change hs₃ hCL hC₀
      have N₃ : News h₀ env.locals h₃ news := fun x hx => ⟨hs₃.extBut _ _ (hoff x hx).2.1 ((news_but N' hk₂ fun x hx => (hoff x hx).1) x hx).1, (N' x hx).2⟩
      have hd₃ : h₃.DictOf (PySem.intKind prog w) D kvs := hd'.at fun o e => hs₃.extBut _ _ hDC (hk₂ _ o hDf e)
      obtain ⟨oD, heD, hoD⟩ := Heap.dictOf_iff.mp hd₃
      obtain ⟨oI, heI⟩ : ∃ oI, h₃.get? I = some oI := ⟨_, hst₃⟩
      have N₄ : News h₀ env.locals h₃ ((C, oC) :: (D, oD) :: (I, oI) :: news) := fun x hx => by
        rcases List.mem_cons.mp hx with rfl | hx
        · exact ⟨heC, hCL, hC₀⟩
        rcases List.mem_cons.mp hx with rfl | hx
        · exact ⟨heD, hDL, hD₀⟩
        rcases List.mem_cons.mp hx with rfl | hx
        · exact ⟨heI, Ne.symm hIL, hI₀⟩
        · exact N₃ x hx
      have hxp : (fun z => if z = x then some (Value.int (ra + (i : Int)) ti) else m' z) x = some (.int (ra + (i : Int)) ti) := by simp
      have sub : ∀ z ∈ news, z ∈ (D, oD) :: (I, oI) :: news := fun z hz => .tail _ (.tail _ hz)
      refine wpAny_mono (hK i C _ _ oC ti h₃ _ _ hlt sub hoC hxp F₃ N₄) (fun kv s₄ h₄ => ?_) fun _ _ e => e
      obtain ⟨⟨tkk, rfl⟩, h₄, tk₄, rfl, F₄, N₅⟩ := h₄
      refine wpAny_mono (hV i C _ _ oC ti h₄ tk₄ _ hlt sub hoC hxp F₄ N₅) (fun vv s₅ h₅ => ?_) fun _ _ e => e
      obtain ⟨⟨tvv, rfl⟩, h₅, tk₅, rfl, F₅, N₆⟩ := h₅
      have eC := (N₆ (C, oC) (.head _)).1
      have eD := (N₆ (D, oD) (.tail _ (.head _))).1
      have eI := (N₆ (I, oI) (.tail _ (.tail _ (.head _)))).1
      have hl : kvs.length ≤ sizeLine := by
        have h1 := hf'.length
        rw [kdfD_length] at h1
        have h2 := dictR_len kf vf i
        rw [sizeLine_eq]; omega
      have hkk : (PySem.intKind prog w).is (kf i) (.int (kf i) tkk) = true := intKind_is _ _ _ _
      refine wpAny_dictSet_pairs (hsz := hl) hkk (Heap.dictOf_iff.mpr ⟨oD, eD, hoD⟩) fun h₆ hl₆ hs₆ => ?_
      refine ⟨n + 1 - (i + 1), lt_step hlt, h₆, _, i + 1, _, _, rfl, hlt, rfl, ?_, F₅.change hs₆ hDL hD₀, (hoC.ns eC).sameBut hs₆ (Ne.symm hDC), hl₆, ?_, fun z hz => ?_⟩
      · refine W.frame (i + 1) _ _ hst₃ fun b hb o e => ?_
        have hb' : b = I := by simpa using hb
        subst hb'
        have : oI = o := Option.some.inj (heI.symm.trans e)
        subst this
        exact hs₆.extBut _ _ hID eI
      · rw [dictR_succ, ← kdfD_put]
        exact hf'.stored PyProof.V.same_int (kf i) (PyProof.V.Flat.int _ _)
      · have z6 := N₆ z (.tail _ (.tail _ (.tail _ hz)))
        exact ⟨hs₆.extBut _ _ (hoff z hz).2.2 z6.1, z6.2⟩
    · obtain rfl : i = n := Nat.le_antisymm hi (Nat.not_lt.mp hlt)
      refine W.done _ _ _ hst' fun h₂ tk₂ hk₂ => ?_
      show wpAny _ A (assign (.Name y py) env (.ref D)) _ _ _
      have Fz := fr_but F' hk₂ hIL hI₀
      have hnz : h₂.Ns C m' := hn'.at' fun o e => hk₂ _ o hCf e
      have hdz : h₂.DictOf (PySem.intKind prog w) D kvs := hd'.at fun o e => hk₂ _ o hDf e
      have Nz : News h₀ env.locals h₂ news := news_but N' hk₂ fun x hx => (hoff x hx).1
      obtain ⟨oD, heD, hoD⟩ := Heap.dictOf_iff.mp hdz
      refine wpAny_assign_Name (wpAny_storeName_local hy Fz.ns (fun h₃ hn₃ hs₃ => ?_) hp)
      have hL₀ : h₀.get? env.locals = none := Heap.get?_none_of_le Fz.above
      have F₃ : Fr h₀ env.locals h₃ (fun z => if z = y then some (.ref D) else m z) := ⟨hn₃, fun b o e => hs₃.extBut b o (fun q => by rw [q, hL₀] at e; cases e) (Fz.keep b o e), Fz.above⟩
      refine ⟨m', hnz.sameBut hs₃ hCL, fun h'' hs'' => fin D oD kvs h'' _ (F₃.change hs'' hCL hC₀) (fun z hz => ?_) (fun z hz => Nat.lt_of_lt_of_le (Heap.lt_size (N z hz).1) (at_le 1 nD)) hsys hoD hf'⟩
      rcases List.mem_cons.mp hz with rfl | hz
      · exact ⟨hs''.extBut _ _ hDC (hs₃.extBut _ _ hDL heD), hDL, hD₀⟩
      · exact ⟨hs''.extBut _ _ (hoff z hz).2.1 (hs₃.extBut _ _ (Nz z hz).2.1 (Nz z hz).1), (Nz z hz).2⟩
  exact codeAny_compStart_dict (loop _ rfl) (W.self 0 _ _ _ hst (loop _ rfl))
end

end
-- part Lc
section
theorem idx_next {n i k : Nat} (h : k < n - i) : i + 1 + k < n + 1 := by omega
theorem lc_lt {i k a : Nat} (h : k < 4 - i) (ha : a < k + 1) : i + (a + 1) < 5 := by omega
theorem lc_lt2 {i k a : Nat} (h : k < 4 - i) (ha : a < k + 1) : i + 1 + a + ((i + 1 + k) - (i + 1 + a)) < 5 := by
  rw [Nat.add_sub_cancel' (Nat.add_le_add_left (Nat.le_of_lt_succ ha) _)]; exact idx_next h
theorem lc_key {z : Int} {i a : Nat} (h : z = 0 + (i : Int) * 1) : 10 * z + (z + 1 + (a : Int)) = 10 * (i : Int) + ((i + (a + 1) : Nat) : Int) := by omega
theorem lc_key2 {z y : Int} {i k a : Nat} (h : z = 0 + (i : Int) * 1) (h2 : y = z + 1 + (k : Int) * 1) (ha : a < k + 1) : 10 * (z + 1 + (a : Int)) + y = 10 * ((i + 1 + a : Nat) : Int) + ((i + 1 + a + ((i + 1 + k) - (i + 1 + a)) : Nat) : Int) := by
  rw [Nat.add_sub_cancel' (Nat.add_le_add_left (Nat.le_of_lt_succ ha) _)]; omega
theorem lc_key3 {z y : Int} {i k : Nat} (h : z = 0 + (i : Int) * 1) (h2 : y = z + 1 + (k : Int) * 1) : 10 * z + y = 10 * (i : Int) + ((i + (k + 1) : Nat) : Int) := by omega
theorem lc_pow (z : Int) (a : Nat) : (z + 1 + (a : Int) - z - 1).toNat = a := by
  rw [show z + 1 + (a : Int) - z - 1 = a by omega]; rfl
theorem lc_small {z : Int} {i : Nat} (h : z = 0 + (i : Int) * 1) (hi : i < 4) : Builtin.Range.small (z + 1) 5 1 = true := small1 (by omega) (by omega) (by omega) (by omega)
theorem lc_size {z : Int} {i : Nat} (h : z = 0 + (i : Int) * 1) (hi : i < 4) : Builtin.Range.rangeSize (z + 1) 5 1 = ((4 - i : Nat) : Int) := rangeSize1 (by omega)
theorem tab_mem {g : Nat → Nat → Int} {p : Int × Int} (h : p ∈ tabOf g) : kdfHas (tabOf g) p.1 = true ∧ kdfLook (tabOf g) p.1 0 = p.2 := by
  unfold tabOf at h
  obtain ⟨i, hi, h⟩ := List.mem_flatMap.mp h
  obtain ⟨k, hk, rfl⟩ := List.mem_map.mp h
  have hi' := List.mem_range.mp hi
  have hk' := List.mem_range.mp hk
  exact ⟨tab_has g (i := i) (k := k) (by omega) rfl, tab_look g (i := i) (k := k) (by omega) rfl⟩
theorem keq_self {Db : List (PyData × PyData)} : ∀ {R : List (PyData × PyData)}, (∀ p ∈ R, PySem.Spec.lookup p.1 Db = some p.2 ∧ PyData.eqv p.2 p.2 = true) → KeqRows Db R true
  | [], _ => .nil
  | (k, v) :: r, h => by
    have e := KeqRows.hit (h (k, v) (.head _)).1 (keq_self fun p hp => h p (.tail _ hp)) (v := v)
    rw [(h (k, v) (.head _)).2] at e
    exact e
theorem rows_same (g : Nat → Nat → Int) : KeqRows (kdfD (tabOf g)) (kdfD (tabOf g)) true := by
  refine keq_self fun p hp => ?_
  obtain ⟨q, hq, rfl⟩ := List.mem_map.mp hp
  obtain ⟨h1, h2⟩ := tab_mem hq
  refine ⟨?_, ?_⟩
  · have := kdfD_item h1
    rw [h2] at this
    exact this
  · simp [PyData.eqv]
theorem tab_congr {g g' : Nat → Nat → Int} (h : ∀ i k, i + k < 5 → g i k = g' i k) : tabOf g = tabOf g' := by
  unfold tabOf
  rw [List.flatMap_def, List.flatMap_def]
  congr 1
  refine List.map_congr_left fun i hi => ?_
  refine List.map_congr_left fun k hk => ?_
  have hi' := List.mem_range.mp hi
  have hk' := List.mem_range.mp hk
  rw [h i k (by omega)]
theorem same_walkI {M : Model} {A : Around} {s : Shared} {h₀ h : Heap} {L C : Addr} {m : Str → Option Value} {oC : Obj} {led led' : List (Addr × Obj)} {t : Sem Value} {x y : Int} {tk : Nat} {E : Value → Shared → Prop}
    (sub : ∀ x ∈ led, x ∈ led') (F : Fr h₀ L h m) (N : News h₀ L h ((C, oC) :: led')) (e : x = y)
    (hw : ∀ R : Value → Prop, (∀ u, R (.int x u)) → News h₀ L h ((C, oC) :: led) → wpAny M A t (fun v s' => R v ∧ ∃ tk', s' = { s with heap := h, toks := tk' }) E { s with heap := h, toks := tk }) :
    wpAny M A t (fun v s' => (∃ u, v = .int y u) ∧ Same h₀ L m { s with heap := h, toks := tk } ((C, oC) :: led') s') E { s with heap := h, toks := tk } := by
  subst e
  exact same_walk sub F N fun N' => hw (fun v => ∃ u, v = .int x u) (fun u => ⟨u, rfl⟩) N'
theorem dictR_fresh (kf vf : Nat → Int) (hinj : ∀ a b, kf a = kf b → a = b) : ∀ n, dictR kf vf n = (List.range n).map fun a => (kf a, vf a)
  | 0 => rfl
  | n + 1 => by
    rw [dictR_succ, dictR_fresh kf vf hinj n, List.range_succ, List.map_append]
    unfold kdfPut
    rw [if_neg]
    · rfl
    · simp only [List.any_map, List.any_eq_true, List.mem_range, Function.comp, decide_eq_true_eq, not_exists, not_and]
      intro a ha e
      have := hinj _ _ e
      omega
theorem prods_sum (wd ln : List Nat) {z : Int} {i k : Nat} (hk : i + 1 + k < 5) :
    ((dictR (fun a => z + 1 + (a : Int)) (fun a => (-1) ^ a * tally false wd ln i (a + 1) * tally true wd ln.reverse (i + 1 + a) ((i + 1 + k) - (i + 1 + a))) (k + 1)).map (·.2)).sum = tally true wd ln.reverse i (k + 1) := by
  have h := inverse_sum wd ln (i := i) (j := i + 1 + k) (by omega) hk
  rw [show i + 1 + k - i = k + 1 by omega] at h
  rw [← h, dictR_fresh _ _ (fun a b e => by omega), List.map_map]
  unfold prods
  rw [show i + 1 + k - i = k + 1 by omega]
  rfl
theorem pow_one (n : Nat) : ((-1 : Int) ^ n) = 1 ∨ ((-1 : Int) ^ n) = -1 := by
  induction n with
  | zero => exact .inl rfl
  | succ n ih =>
    rw [Int.pow_succ]
    rcases ih with e | e <;> rw [e]
    · exact .inr rfl
    · exact .inl rfl
theorem tally_bound (wd : List Nat) {ln : List Nat} (hln : ln.length ≤ 50) {i k : Nat} (h : i + k < 5) : 0 ≤ tally false wd ln i k ∧ tally false wd ln i k ≤ 6250000 := by
  rw [← ways_tally wd ln i k h]
  have h1 := ends_len wd hln i k
  have h2 : 50 ^ k ≤ 6250000 := Nat.le_trans (Nat.pow_le_pow_right (by omega) (show k ≤ 4 by omega)) (by decide)
  unfold wayG
  omega
theorem m_subI (i a b c d e f : Addr × Obj) (r : List (Addr × Obj)) : ∀ p ∈ a :: b :: c :: d :: e :: f :: r, p ∈ a :: b :: c :: d :: e :: f :: i :: r := by
  intro p hp
  simp only [List.mem_cons] at hp ⊢
  rcases hp with h | h | h | h | h | h | h <;> simp [h]
theorem m_permI (i a b c d e f : Addr × Obj) (r : List (Addr × Obj)) : ∀ p ∈ a :: b :: c :: d :: e :: f :: i :: r, p ∈ i :: a :: b :: c :: d :: e :: f :: r := by
  intro p hp
  simp only [List.mem_cons] at hp ⊢
  rcases hp with h | h | h | h | h | h | h | h <;> simp [h]
/-- between the rows of the last loop -/
inductive JO (c1 c2 : Addr × Obj) (cj ci : Addr) (tl : List (Addr × Obj)) (m₀ : Str → Option Value) (n : Nat) (m : Str → Option Value) (nx : List (Addr × Obj)) : Prop
  | mk (oj oi : Obj) (vj vi : Option Value) (e1 : nx = c1 :: c2 :: (cj, oj) :: (ci, oi) :: tl) (e2 : oj.data = .cell vj) (e3 : oi.data = .cell vi) (e4 : ∀ z : Str, z ≠ "products" → m z = m₀ z) : JO c1 c2 cj ci tl m₀ n m nx
inductive JP (c1 c2 : Addr × Obj) (cj : Addr) (tl : List (Addr × Obj)) (m₀ : Str → Option Value) (n : Nat) (m : Str → Option Value) (nx : List (Addr × Obj)) : Prop
  | mk (oj : Obj) (vj : Option Value) (e1 : nx = c1 :: c2 :: (cj, oj) :: tl) (e2 : oj.data = .cell vj) (e3 : ∀ z : Str, z ≠ "products" → m z = m₀ z) : JP c1 c2 cj tl m₀ n m nx
section
theorem lines17 : True := by
  k_with_none
  k_with "for_hold" => ((k_here; (rename Fr _ _ _ _ => lF'); (with_unfolding_all refine' For_hold lF' (by exact rfl) (by exact rfl) ?_; k_whole)))
  k_with "clean_enter" => ((refine' defG ?k1 ?k2 ?k3 ?k4 ?k5 ?kA ?kF ?kK ?k6 ?k7 ?k8 ?k9 ?kB ?_ ?c2 ?c3 ?c4 ?c5; (case kA => exact rfl); (case kF => exact rfl); (case kK => assumption); (case k1 => k_asm); (case k2 => k_asm); (case k3 => k_asm); (case k4 => k_asm); (case k5 => k_asm); (case k6 => k_is); (case k7 => k_is); (case k8 => ktr_room); (case k9 => exact BindsTo.of_eq rfl); (case c5 => decide); (case kB => exact locs rfl); (case c2 => exact rfl); (case c3 => exact rfl); (case c4 => exact rfl); k_whole; intro g' L' h' FG' F' N' B' X' T'; (try dsimp only); (try k_lift B'); (try k_fold)))
  k_with "cells_enter" => ((refine' code_defC ?k1 ?k2 ?k3 ?k4 ?k5 ?kA ?kF ?kK ?k6 ?k7 ?k8 ?k9 ?kB ?kD ?_ ?c2 ?c3 ?c4; (case kA => exact rfl); (case kF => exact rfl); (case kK => assumption); (case k1 => k_asm); (case k2 => k_asm); (case k3 => k_asm); (case k4 => k_asm); (case k5 => k_asm); (case k6 => k_is); (case k7 => k_is); (case k8 => ktr_room); (case k9 => exact BindsTo.of_eq rfl); (case kB => exact rfl); (case kD => decide +kernel); (case c2 => exact rfl); (case c3 => exact rfl); (case c4 => exact rfl); k_whole; intro g' L' h' tk' cells' FG' F' N' Y' B' X' T' l1; (try k_lt l1); k_cells Y'; (try simp only [List.cons_append, List.nil_append] at N'); (try dsimp only); (try k_lift B'); (try k_fold)))
  k_with "lc_hold" => ((k_here; k_dflt (refine ListComp_W (F₀ := by k_asm) (by with_unfolding_all rfl) (by decide) (by rfl) (by decide) (by rfl) ?_)))
  k_with "lk_hold" => ((k_here; (with_reducible show wpAny _ _ (eval (Expr.ListComp _ [⟨_, _, [], 0⟩] _ _) _) _ _ _); k_dflt (refine ListComp_K (F₀ := by k_asm) (by with_unfolding_all rfl) (by intro _ _; rfl) (by intro _; rfl) (by rfl) (by decide) (by intro _ _; rfl) ?_)))
  k_with "lt_hold" => ((k_here; (with_reducible show wpAny _ _ (eval (Expr.ListComp _ [⟨_, _, [_], 0⟩] _ _) _) _ _ _); k_dflt (refine ListComp_TH (F₀ := by k_asm) (by with_unfolding_all rfl) (by decide) (by rfl) (by decide) (by rfl) ?_)))
  k_with "al_hold" => ((k_here; (with_reducible show wpAny _ _ (exec (Stmt.Assign [Expr.Name _ _] (Expr.ListComp _ [⟨_, _, [], 0⟩] _ _) _) _) _ _ _); k_dflt (refine' Assign_ListComp_W (F₀ := by k_asm) (by rfl) (by with_unfolding_all rfl) (by with_unfolding_all rfl) (by decide) (by rfl) (by decide) (by rfl) (by rfl) (by rfl) ?_); k_whole))
  k_with "forT_hold" => ((k_here; (rename Fr _ _ _ _ => lF'); (with_unfolding_all refine' ForT_hold lF' ?_); k_whole))
  k_with "m_mem" => (first | with_reducible assumption | exact List.Mem.head _ | (refine' List.mem_cons_of_mem _ ?_; k_extra "m_mem"))
  k_with "m_tab" => (exact TabAt.ofNews (by k_asm) (by k_extra "m_mem") (by k_asm) (by k_asm) (by k_asm))
  k_with "m_items" => ((k_here; (with_reducible show wpAny _ _ (getMethod (Value.ref _) (PySem.Str.ofString "items") _) _ _ _); k_dflt (refine getMethod_tab (knd := PySem.intKind _ _) (enc := PyData.int) PySem.F.slot_dict_items PySem.F.type_dict_items (by k_extra "m_tab") ?_)))
  k_with "m_get" => ((k_here; (with_reducible show wpAny _ _ (getMethod (Value.ref _) (PySem.Str.ofString "get") _) _ _ _); k_dflt (refine getMethod_tab (knd := PySem.intKind _ _) (enc := PyData.int) PySem.F.slot_dict_get PySem.F.type_dict_get (by k_extra "m_tab") ?_)))
  k_with "m_callItems" => ((k_here; (with_reducible show wpAny _ _ (call (Value.builtin "dict.items") [Value.ref _]) _ _ _); k_dflt (refine' call_items_tab (knd := PySem.intKind _ _) (enc := PyData.int) (by k_extra "m_tab") (by k_asm) (by k_asm) ?_); intro h' o' hv' F' N'))
  k_with "m_callGet" => ((k_here; (with_reducible show wpAny _ _ (call (Value.builtin "dict.get") [Value.ref _, Value.int _ _, Value.int _ _]) _ _ _); k_dflt (refine kdf_get2 (by k_extra "m_tab") ?_); intro _))
  k_with "m_in" => ((k_here; k_dflt (refine kdf_in (by k_extra "m_tab") ?_)))
  k_with "m_item" => ((k_here; (with_reducible show wpAny _ _ (subscriptTail _ _ (Value.ref _) (Value.int _ _)) _ _ _); k_dflt (refine kdf_item (by k_extra "m_tab") (by assumption) ?_); intro _))
  k_with "m_off" => (first | with_reducible assumption | exact List.forall_mem_nil _ | (refine' List.forall_mem_cons.mpr ⟨(by k_extra "m_ne0"), (by k_extra "m_off")⟩))
  k_with "m_ne0" => ((dsimp only; first | with_reducible assumption | (refine Ne.symm ?_; with_reducible assumption) | k_ne))
  k_with "m_upd" => (first | (refine' UpdF.head (by k_extra "m_off")) | (refine' UpdF.tail (by k_extra "m_ne0") (by k_extra "m_upd")))
  k_with "m_set" => ((k_here; (with_reducible show wpAny _ _ (setItem (Value.ref _) (Value.int _ _) (Value.int _ _)) _ _ _); k_dflt (refine' kdf_setItem (by k_asm) (by k_asm) (by k_extra "m_upd") (by k_asm) (by k_asm) (by first | with_reducible assumption | omega) ?_); intro h' o' kvs' F' N' hd' hf'; (try dsimp only at N')))
  k_with "m_getItem" => ((k_here; (with_reducible show wpAny _ _ (getItem (Value.ref _) (Value.int _ _)) _ _ _); k_dflt (refine kdf_getItem (by k_extra "m_tab") (by assumption) ?_); intro _))
  k_with "execs nil" => ((k_here; (try dsimp only); refine wpAny_execs_nil ?_))
  k_with "storeName" => ((k_here; k_dflt (refine' storeX_C (by k_asm) (by k_asm) (by rfl) (by k_extra "m_upd") (by k_asm) ?_ (by rfl) (by rfl); k_whole); intro h' o' F' N' d'; (try dsimp only at N')))
  k_with "exec Assign cons DictComp" => ((k_here; k_dflt (refine' Assign_DictR (F₀ := by k_asm) (by rfl) (by with_unfolding_all rfl) (by with_unfolding_all rfl) (by decide) (by rfl) (by decide) (by rfl) (by rfl) (by rfl) ?_); k_whole))
  k_with "subscriptTail" => (k_extra "m_item")
  k_with "compareOp NotEq ref ref" => ((k_here; k_dflt (refine' kne_tabs (knd := PySem.intKind _ _) (enc := PyData.int) PyProof.V.same_int (by k_extra "m_tab") (by k_extra "m_tab") rfl (by (dsimp only; omega)) (rows_same _) ?_)))
  k_with "exec For Name Call cons nil" => (k_extra "forT_hold")
  exact True.intro
set_option maxRecDepth 100000 in
set_option maxHeartbeats 8000000 in
theorem law_c {w : World} {p : Program} {loose : List Str} {mean : ExcName → Option Value} {mg mb : Str → Option Value} {dp un : Nat} {gd : Option (List Code)} {fa : Addr} {ccd : Value} {outer : List Env} {A₀ : Around} {base h₀ : Heap} {L : Addr} {m : Str → Option Value} {news : List (Addr × Obj)} {s : Shared} {Q : Flow → Shared → Prop}
    {bk ri : Addr} {ob or oj oi obk ori : Obj} {vj vi : Option Value} {kb kr : List (Int × Value)} (wd ln : List Nat) (t1 t2 : Tok) (hwd : wd.length = 4) (hln : ln.length ≤ 50)
    (B : Below A₀ base outer h₀) (F : Fr h₀ L s.heap (fun y => if y = "word" then some (.str (tx wd) t1) else if y = "due" then some (.str (tx ln) t2) else m y)) (X : (Mine.hd.heap_39 w.params).In h₀)
    (N : News h₀ L s.heap ((bk, ob) :: (ri, or) :: (L + 1 + 1 + 1 + 1 + 1 + 1 + 1, oj) :: (L + 1 + 1 + 1 + 1 + 1 + 1, oi) :: (L + 1 + 1 + 1 + 1 + 1, obk) :: (L + 1 + 1 + 1 + 1, ori) :: news)) (T : Top p loose mean mg mb h₀) (hd : dp + 32 < recursionLimit) (hu : un + 320 < cLine)
    (dj : oj.data = .cell vj) (di : oi.data = .cell vi) (dbk : obk.data = .cell (some (.ref bk))) (dri : ori.data = .cell (some (.ref ri)))
    (hob : ob.IsDictOf (PySem.intKind PySem.Challenge.rw_zn0009_01.row.prog w) kb) (hor : or.IsDictOf (PySem.intKind PySem.Challenge.rw_zn0009_01.row.prog w) kr) (fob : FlatPairs PyData.int kb (kdfD (tabOf (tally true wd ln.reverse)))) (for' : FlatPairs PyData.int kr (kdfD (tabOf (tally false wd ln))))
    (lb : (bk == sysModules) = false) (lr : (ri == sysModules) = false) (n1 : bk ≠ L + 1 + 1 + 1 + 1 + 1 + 1 + 1) (n2 : ri ≠ L + 1 + 1 + 1 + 1 + 1 + 1 + 1) (n3 : bk ≠ L + 1 + 1 + 1 + 1 + 1 + 1) (n4 : ri ≠ L + 1 + 1 + 1 + 1 + 1 + 1) (hnews : ∀ p ∈ news, p.1 < L + 1 + 1 + 1 + 1)
    (hQ : ∀ h' tk, (∀ b o, h₀.get? b = some o → h'.get? b = some o) → Q (.ret (.bool true)) { s with heap := h', toks := tk }) :
    wpAny (model PySem.Challenge.rw_zn0009_01.row.prog w) (ktrTop dp un gd "law" (lawP w).scope L fa ccd (cellsFrom (L + 1) (lawP w).scope.names []) outer) (execs ((lawP w).body.drop 14) (envOfC "law" (lawP w).scope L fa ccd)) Q (fun _ _ => False) s := by
  revert X
  k_fill
  intro X
  show wpAny _ (ktrTop _ _ _ _ (Scope.mk _ _ _ _ _) _ _ _ _ _) (execs (_ :: _) (envOfC _ (Scope.mk _ _ _ _ _) _ _ _)) _ _ _
  k_steps
  refine' ways_sum ?k1 ?k2 ?k3 ?k4 ?k5 ?k6 ?k7 ?k8 wd ln _ _ hwd hln ?_
  case k1 => k_asm
  case k2 => k_asm
  case k3 => k_asm
  case k4 => k_asm
  case k5 => k_asm
  case k6 => rfl
  case k7 => ktr_room
  case k8 => ktr_units
  intro dw ow kw h' tk' Fw Nw how fow lw hoffw
  rw [tab_congr (ways_tally wd ln)] at fow
  clear F N
  k_steps
  unfold Hold
  (rename Fr _ _ _ _ => Fa)
  (rename News _ _ _ _ => Na)
  (rename IsRange _ _ _ _ _ _ _ _ => rg)
  have q6 : ∀ p ∈ news, p.1 ≠ L + 1 + 1 + 1 + 1 + 1 + 1 := fun p hp => Nat.ne_of_lt (Nat.lt_of_lt_of_le (hnews p hp) (Nat.le_add_right _ 2))
  have q7 : ∀ p ∈ news, p.1 ≠ L + 1 + 1 + 1 + 1 + 1 + 1 + 1 := fun p hp => Nat.ne_of_lt (Nat.lt_of_lt_of_le (hnews p hp) (Nat.le_add_right _ 3))
  clear how fow lw hoffw
  refine iter_rangeT (n := 4) (JO (bk, ob) (ri, or) _ _ _ _) rfl rg (by decide) (by decide) Fa (Na.perm fun p hp => .tail _ hp) ⟨_, _, _, _, rfl, dj, di, fun _ _ => rfl⟩ ?_ ?_
  · rintro i z t9 m₁ nx h tk I it hi hz ⟨oj1, oi1, vj1, vi1, rfl, dj1, di1, hmm⟩ hI F1 N1
    rw [mapA' hmm] at F1
    have e1 := hI _ (.head _)
    have e2 := hI _ (.tail _ (.head _))
    have e3 := hI _ (.tail _ (.tail _ (.head _)))
    have e4 := hI _ (.tail _ (.tail _ (.tail _ (.head _))))
    have e5 := hI _ (.tail _ (.tail _ (.tail _ (.tail _ (.head _)))))
    have e6 := hI _ (.tail _ (.tail _ (.tail _ (.tail _ (.tail _ (.head _))))))
    have e7 : ∀ p ∈ news, p.1 ≠ I := fun p hp => hI p (.tail _ (.tail _ (.tail _ (.tail _ (.tail _ (.tail _ hp))))))
    dsimp only at e1 e2 e3 e4 e5 e6
    clear hmm hI Fa Na rg
    k_steps
    unfold Hold
    (rename Fr _ _ _ _ => Fa)
    (rename News _ _ _ _ => Na)
    (rename IsRange _ _ _ _ _ _ _ _ => rg)
    refine iter_rangeT (n := 4 - i) (JP (bk, ob) (ri, or) _ (_ :: _ :: _ :: (I, it) :: news) _) rfl rg (lc_small hz hi) (lc_size hz hi) Fa (Na.perm (m_permI _ _ _ _ _ _ _ _)) ⟨_, _, rfl, dj1, fun _ _ => rfl⟩ ?_ ?_
    · rintro k z2 t2' m₂ nx2 h3 tk3 I2 it2 hk hz2 ⟨oj2, vj2, rfl, dj2, hmm⟩ hI2 F3 N3
      rw [mapA' hmm] at F3
      have f1 := hI2 _ (.head _)
      have f2 := hI2 _ (.tail _ (.head _))
      have f3 := hI2 _ (.tail _ (.tail _ (.head _)))
      have f4 := hI2 _ (.tail _ (.tail _ (.tail _ (.head _))))
      have f5 := hI2 _ (.tail _ (.tail _ (.tail _ (.tail _ (.head _)))))
      have f6 := hI2 _ (.tail _ (.tail _ (.tail _ (.tail _ (.tail _ (.head _))))))
      have f8 := hI2 _ (.tail _ (.tail _ (.tail _ (.tail _ (.tail _ (.tail _ (.head _)))))))
      have f7 : ∀ p ∈ news, p.1 ≠ I2 := fun p hp => hI2 p (.tail _ (.tail _ (.tail _ (.tail _ (.tail _ (.tail _ (.tail _ hp)))))))
      dsimp only at f1 f2 f3 f4 f5 f6 f8
      clear hmm hI2 Fa Na rg
      k_steps
      unfold Hold
      (rename Fr _ _ _ _ => Fc)
      (rename News _ _ _ _ => Nc)
      (rename IsRange _ _ _ _ _ _ _ _ => rg)
      refine ⟨_, _, _, _, _, _, k + 1, fun a => z + 1 + (a : Int), fun a => (-1) ^ a * tally false wd ln i (a + 1) * tally true wd ln.reverse (i + 1 + a) ((i + 1 + k) - (i + 1 + a)), _, rfl, rfl, T.nolimit, Fc, Nc, rg, small1 (by omega) (by omega) (by omega) (by omega), rangeSize1 (by omega), by omega, ?_, ?_, ?_⟩
      · intro a9 C9 led' m9 oC9 t9' h9 tk9 E9 ha9 hsub hoC9 hr9 F9 N9
        refine same_walk hsub F9 N9 fun N9' => ?_
        clear N9 Fc Nc F3 N3 hsub rg
        k_steps
      · intro a9 C9 led' m9 oC9 t9' h9 tk9 E9 ha9 hsub hoC9 hr9 F9 N9
        have q1 := lc_lt hk ha9
        have q2 := lc_key (a := a9) hz
        have q3 := lc_lt2 hk ha9
        have q4 := lc_key2 hz hz2 ha9
        have hhR := tab_has (tally false wd ln) (i := i) (k := a9 + 1) q1 q2
        have hhB := tab_has (tally true wd ln.reverse) (i := i + 1 + a9) (k := (i + 1 + k) - (i + 1 + a9)) q3 q4
        have hlR := tab_look (tally false wd ln) (i := i) (k := a9 + 1) q1 q2
        have hlB := tab_look (tally true wd ln.reverse) (i := i + 1 + a9) (k := (i + 1 + k) - (i + 1 + a9)) q3 q4
        have hpe := lc_pow z a9
        have hpw : ((-1 : Int) ^ (z + 1 + (a9 : Int) - z - 1).toNat) = 1 ∨ ((-1 : Int) ^ (z + 1 + (a9 : Int) - z - 1).toNat) = -1 := pow_one _
        have hbR := tally_bound wd hln (i := i) (k := a9 + 1) q1
        rw [← hlR] at hbR
        clear q1 q2 q3 q4
        have hm1 : IntMulOk ((-1) ^ (z + 1 + (a9 : Int) - z - 1).toNat) (kdfLook (tabOf (tally false wd ln)) (10 * z + (z + 1 + (a9 : Int))) 0) := IntMulOk.of_right (intBits_le_64 (by omega) (by omega))
        have hm2 : IntMulOk ((-1) ^ (z + 1 + (a9 : Int) - z - 1).toNat * kdfLook (tabOf (tally false wd ln)) (10 * z + (z + 1 + (a9 : Int))) 0) (kdfLook (tabOf (tally true wd ln.reverse)) (10 * (z + 1 + (a9 : Int)) + z2) 0) := by
          refine IntMulOk.of_left (intBits_le_64 ?_ ?_)
          · rcases hpw with e | e <;> rw [e] <;> omega
          · rcases hpw with e | e <;> rw [e] <;> omega
        refine same_walkI (x := (-1) ^ (z + 1 + (a9 : Int) - z - 1).toNat * kdfLook (tabOf (tally false wd ln)) (10 * z + (z + 1 + (a9 : Int))) 0 * kdfLook (tabOf (tally true wd ln.reverse)) (10 * (z + 1 + (a9 : Int)) + z2) 0) hsub F9 N9 (by rw [hpe, hlR, hlB]) fun Rv hRv N9' => ?_
        clear N9 Fc Nc F3 N3 hsub rg hlR hlB hpe hpw hbR
        k_steps
        all_goals exact hRv _
      · intro Dp op kp h9 tk9 F9 N9 hlt9 lo9 hop fop
        clear Fc Nc F3 N3 rg
        have q1 := lc_lt hk (Nat.lt_succ_self k)
        have q2 := lc_key3 hz hz2
        have hhB := tab_has (tally true wd ln.reverse) (i := i) (k := k + 1) q1 q2
        have hlB := tab_look (tally true wd ln.reverse) (i := i) (k := k + 1) q1 q2
        have hsum := prods_sum wd ln (z := z) (i := i) (k := k) (idx_next hk)
        clear q1 q2
        have hlen9 := dictR_len (fun a => z + 1 + (a : Int)) (fun a => (-1) ^ a * tally false wd ln i (a + 1) * tally true wd ln.reverse (i + 1 + a) ((i + 1 + k) - (i + 1 + a))) (k + 1)
        dsimp only
        k_steps
        refine' count_sum ?k1 ?k2 ?k3 ?k4 ?k5 ?k6 ?k7 ?k8 Dp op kp _ lo9 ?m hop fop ?l ?_
        case k1 => k_asm
        case k2 => k_asm
        case k3 => k_asm
        case k4 => k_asm
        case k5 => k_asm
        case k6 => rfl
        case k7 => ktr_room
        case k8 => ktr_units
        case m => exact .head _
        case l => omega
        rw [hsum, ← hlB]
        clear F9 N9 hsum hlen9 hlB hop fop
        intro t10 h10 tk10 F10 N10
        k_steps
        · contradiction
        (rename Fr _ _ _ _ => Fe)
        (rename News _ _ _ _ => Ne)
        exact GEnd.next _ Fe Ne (.tail _ (.head _)) (fun p hp => .tail _ (.tail _ hp)) (by k_extra "m_off") ⟨_, _, rfl, by assumption, fun z h1 => by (try dsimp only); repeat rw [if_neg h1]⟩
    · rintro m₂ nx2 h3 tk3 ⟨oj2, vj2, rfl, dj2, hmm⟩ F3 N3
      clear Fa Na rg
      refine wpAny_execs_nil ?_
      refine GEnd.next _ F3 N3 (.tail _ (.tail _ (.tail _ (.tail _ (.tail _ (.tail _ (.head _))))))) (m_subI _ _ _ _ _ _ _ _) (by k_extra "m_off") ⟨_, _, _, _, rfl, dj2, by assumption, fun z h1 => ?_⟩
      rw [hmm z h1]
      (try dsimp only); repeat rw [if_neg h1]
  · rintro m₁ nx h3 tk3 ⟨oj1, oi1, vj1, vi1, rfl, dj1, di1, hmm⟩ F1 N1
    clear Fa Na rg
    dsimp only
    k_steps
    exact hQ _ _ F1.keep
end

end
-- part Wq
section
theorem w3 {f : Int} (h0 : 0 ≤ f) (h1 : f < 3) : f = 0 ∨ f = 1 ∨ f = 2 := by omega
/-- ' \t\r' holds just the bare pieces -/
theorem bare_occ {f : Int} (h0 : 0 ≤ f) (h1 : f < 3) {c : Nat} (hc : c ∈ menu9) : (Builtin.Str.occurrences (Str.ofString " \t\r") (tx (sgn f c)) 0 (Str.ofString " \t\r").length 1).isEmpty = !bareT (sgn f c) := by
  have key : ∀ f ∈ ([0, 1, 2] : List Int), ∀ c ∈ menu9, (Builtin.Str.occurrences (Str.ofString " \t\r") (tx (sgn f c)) 0 (Str.ofString " \t\r").length 1).isEmpty = !bareT (sgn f c) := by decide +kernel
  refine key f ?_ c hc
  rcases w3 h0 h1 with rfl | rfl | rfl <;> simp
theorem piece_len {s f : Int} (h0 : 0 ≤ f) (h1 : f < 3) (s0 : 0 ≤ s) (s1 : s < 3) {c : Nat} (hc : c ∈ menu9) : (toldL s (sgn f c)).length ≤ 10 ∧ ∀ d ∈ toldL s (sgn f c), d < 256 := by
  have key : ∀ s ∈ ([0, 1, 2] : List Int), ∀ f ∈ ([0, 1, 2] : List Int), ∀ c ∈ menu9, (toldL s (sgn f c)).length ≤ 10 ∧ ∀ d ∈ toldL s (sgn f c), d < 256 := by decide +kernel
  refine key s ?_ f ?_ c hc
  · rcases w3 s0 s1 with rfl | rfl | rfl <;> simp
  · rcases w3 h0 h1 with rfl | rfl | rfl <;> simp
theorem front_len {s : Int} (s0 : 0 ≤ s) (s1 : s < 3) : toldL s [35] = [35] ∧ toldL s [35, 32] = [35, 32] := by
  rcases w3 s0 s1 with rfl | rfl | rfl <;> decide +kernel
theorem told_pieces {s f : Int} (h0 : 0 ≤ f) (h1 : f < 3) (s0 : 0 ≤ s) (s1 : s < 3) : ∀ ts : List (List Nat), (∀ t ∈ ts, ∃ c ∈ menu9, t = sgn f c) → (toldL s ts.flatten).length ≤ 10 * ts.length ∧ ∀ d ∈ toldL s ts.flatten, d < 256
  | [], _ => by simp [toldL]
  | t :: r, h => by
    obtain ⟨c, hc, rfl⟩ := h _ (.head _)
    have ih := told_pieces h0 h1 s0 s1 r fun t ht => h t (.tail _ ht)
    have p := piece_len h0 h1 s0 s1 hc
    rw [List.flatten_cons, toldL_append, List.length_append, List.length_cons]
    refine ⟨by omega, fun d hd => ?_⟩
    rcases List.mem_append.mp hd with hd | hd
    · exact p.2 d hd
    · exact ih.2 d hd
def frontL (ts : List (List Nat)) : List Nat := if ts = [] then [35] else [35, 32]
theorem due_len {s f : Int} (h0 : 0 ≤ f) (h1 : f < 3) (s0 : 0 ≤ s) (s1 : s < 3) {ts : List (List Nat)} (hl : ts.length ≤ 4) (h : ∀ t ∈ ts, ∃ c ∈ menu9, t = sgn f c) :
    1 ≤ (toldL s (frontL ts ++ ts.flatten)).length ∧ (toldL s (frontL ts ++ ts.flatten)).length ≤ 50 ∧ ∀ d ∈ toldL s (frontL ts ++ ts.flatten), d < 256 := by
  have p := told_pieces h0 h1 s0 s1 ts h
  have q := front_len s0 s1
  have e : toldL s (frontL ts) = frontL ts := by
    unfold frontL
    split
    · exact q.1
    · exact q.2
  have e2 : 1 ≤ (frontL ts).length ∧ (frontL ts).length ≤ 2 ∧ ∀ d ∈ frontL ts, d < 256 := by
    unfold frontL
    split <;> simp
  rw [toldL_append, e, List.length_append]
  refine ⟨by omega, by omega, fun d hd => ?_⟩
  rcases List.mem_append.mp hd with hd | hd
  · exact e2.2.2 d hd
  · exact p.2 d hd
theorem flat_len6 {f : Int} : ∀ ts : List (List Nat), (∀ t ∈ ts, ∃ c ∈ menu9, t = sgn f c) → ts.flatten.length ≤ 6 * ts.length
  | [], _ => by simp
  | t :: r, h => by
    obtain ⟨c, hc, rfl⟩ := h _ (.head _)
    have ih := flat_len6 r fun t ht => h t (.tail _ ht)
    have := sgn_length f c
    rw [List.flatten_cons, List.length_append, List.length_cons]
    omega
theorem strs_snoc_inv : ∀ {vs : List Value} {ys : List Str} {y : Str}, StrsAre vs (ys ++ [y]) → ∃ vi t, vs = vi ++ [.str y t] ∧ StrsAre vi ys
  | _, [], _, .cons _ t .nil => ⟨[], t, rfl, .nil⟩
  | _, y0 :: ys, y, .cons _ t r => by
    obtain ⟨vi, t', rfl, h⟩ := strs_snoc_inv r
    exact ⟨_ :: vi, t', rfl, .cons _ t h⟩
theorem slice_last (vi : List Value) (v : Value) : slicePick (vi ++ [v]).toArray none (some (-1)) none = vi.toArray := by
  have e : sliceBounds none (some (-1)) none (vi ++ [v]).toArray.size = (((0 : Nat) : Int), ((vi.length : Nat) : Int), 1) := by
    have hs : (vi ++ [v]).toArray.size = vi.length + 1 := by simp
    rw [hs]
    simp [sliceBounds]
    omega
  rw [kmk_pick_nat _ e]
  simp
theorem ks_canLayAll0 : ∀ ns : List Str, (∀ y ∈ ns, PyData.strOk y = true) → PyData.canLayAll0 (ns.map PyData.str) = true
  | [], _ => rfl
  | y :: r, h => by simp [PyData.canLayAll0, PyData.canLay0, ks_canLayAll0 r (fun z hz => h z (.tail _ hz)), h y (.head _)]
theorem ks_depthAll : ∀ ns : List Str, PyData.depthAll (ns.map PyData.str) = 0
  | [] => rfl
  | _ :: r => by simp [PyData.depthAll, PyData.depth, ks_depthAll r]
theorem ks_shaped (ns : List Str) (h : ∀ y ∈ ns, PyData.strOk y = true) : SeqAt.shaped (.list (ns.map PyData.str)) = true := by
  simp [SeqAt.shaped, PyData.canLay0, PyData.depth, ks_canLayAll0 ns h, ks_depthAll]
theorem ks_carried : ∀ {vs : List Value} {ns : List Str}, StrsAre vs ns → CarriedAll vs (ns.map PyData.str)
  | _, _, .nil => .nil
  | _, _, .cons _ t r => .cons (.str _ t) (ks_carried r)
section
variable {prog : Program} {w : World} {A : Around} {E : Value → Shared → Prop} {s : Shared} {a b : Addr} {xs : List Value} {ns : List Str} {Q : Value → Shared → Prop}
theorem ne_strs_nil (ha : s.heap.IsList a xs.toArray) (hb : s.heap.IsList b ([] : List Value).toArray) (hi : StrsAre xs ns) (hok : ∀ y ∈ ns, PyData.strOk y = true) (hu : A.units + 64 < cLine) (h : Q (.bool (!PySem.Spec.same (.list (ns.map PyData.str)) (.list []))) s) :
    wpAny (model prog w) A (compareOp .NotEq (.ref a) (.ref b)) Q E s :=
  ne_dataH_same (reads_newData ha (ks_carried hi)) (reads_newData hb (ks_carried .nil)) (ks_shaped _ hok) (ks_shaped [] (by simp)) hu (SeqAt.noMix_of_shape (.list .str) rfl _ _ (list_map_has fun _ => rfl) (list_map_has (l := ([] : List Str)) fun _ => rfl)) h
end
theorem piece_ok {f : Int} (h0 : 0 ≤ f) (h1 : f < 3) {c : Nat} (hc : c ∈ menu9) : PyData.strOk (tx (sgn f c)) = true := by
  have key : ∀ f ∈ ([0, 1, 2] : List Int), ∀ c ∈ menu9, PyData.strOk (tx (sgn f c)) = true := by decide +kernel
  refine key f ?_ c hc
  rcases w3 h0 h1 with rfl | rfl | rfl <;> simp
section
variable {prog : Program} {w : World} {A : Around} {E : Value → Shared → Prop} {s : Shared} {a b : Addr} {xs : List Value} {ns : List Str} {y : Str} {Q : Value → Shared → Prop}
theorem ne_strs_nil0 (ha : s.heap.IsList a xs.toArray) (hb : s.heap.IsList b ([] : List Value).toArray) (hi : StrsAre xs []) (hu : A.units + 64 < cLine) (h : Q (.bool false) s) :
    wpAny (model prog w) A (compareOp .NotEq (.ref a) (.ref b)) Q E s :=
  ne_strs_nil ha hb hi (by simp) hu (by simpa [PySem.Spec.same, PySem.Spec.sameAll] using h)
theorem ne_strs_nil1 (ha : s.heap.IsList a xs.toArray) (hb : s.heap.IsList b ([] : List Value).toArray) (hi : StrsAre xs (ns ++ [y])) (hok : ∀ z ∈ ns ++ [y], PyData.strOk z = true) (hu : A.units + 64 < cLine) (h : Q (.bool true) s) :
    wpAny (model prog w) A (compareOp .NotEq (.ref a) (.ref b)) Q E s := by
  refine ne_strs_nil ha hb hi hok hu ?_
  have e : PySem.Spec.same (.list ((ns ++ [y]).map PyData.str)) (.list []) = false := by
    cases ns <;> simp [PySem.Spec.same, PySem.Spec.sameAll]
  rw [e]
  exact h
theorem item_last {value slice : Expr} {l : Addr} {vi : List Value} {v : Value} {u : Tok} {Q : Value → Shared → Prop} (hl : s.heap.IsList l (vi ++ [v]).toArray) (h : Q v s)
    (hs : subscripted slice false (.ref l) (.int (-1) u) = operate [.ref l, .int (-1) u] (getItem (.ref l) (.int (-1) u)) := by with_unfolding_all rfl) :
    wpAny (model prog w) A (subscriptTail value slice (.ref l) (.int (-1) u)) Q E s :=
  tail_any hl.typeIs slot_list_getitem.lookup (wpAny_getItem_list_neg hl (by omega) (by simp; omega) (by omega) (by
    have e : (-1 + ((vi.length : Int) + 1)).toNat = vi.length := by omega
    simp [e]) h) hs
end

end
-- part Lb3
section
theorem fr_two {h₀ h : Heap} {L : Addr} {m : Str → Option Value} {a b : Str} {va vb : Value} (F : Fr h₀ L h m) (ha : m a = some va) (hb : m b = some vb) : Fr h₀ L h (fun y => if y = a then some va else if y = b then some vb else m y) := by
  have e : (fun y => if y = a then some va else if y = b then some vb else m y) = m := by
    funext y
    by_cases h1 : y = a
    · rw [if_pos h1, h1, ha]
    · rw [if_neg h1]
      by_cases h2 : y = b
      · rw [if_pos h2, h2, hb]
      · rw [if_neg h2]
  rw [e]
  exact F
inductive FrEnd (h₀ : Heap) (L : Addr) (s : Shared) (k : Tok → Str → Option Value) (led : List (Addr × Obj)) (f : Flow) (s' : Shared) : Prop
  | mk (e : f = .next) (h' : Heap) (tk : Nat) (t : Tok) (e' : s' = { s with heap := h', toks := tk }) (F : Fr h₀ L h' (k t)) (N : News h₀ L h' led) : FrEnd h₀ L s k led f s'
section
theorem lines18 : True := by
  k_with_none
  k_with "for_hold" => ((k_here; (rename Fr _ _ _ _ => lF'); (with_unfolding_all refine' For_hold lF' (by exact rfl) (by exact rfl) ?_; k_whole)))
  k_with "clean_enter" => ((refine' defG ?k1 ?k2 ?k3 ?k4 ?k5 ?kA ?kF ?kK ?k6 ?k7 ?k8 ?k9 ?kB ?_ ?c2 ?c3 ?c4 ?c5; (case kA => exact rfl); (case kF => exact rfl); (case kK => assumption); (case k1 => k_asm); (case k2 => k_asm); (case k3 => k_asm); (case k4 => k_asm); (case k5 => k_asm); (case k6 => k_is); (case k7 => k_is); (case k8 => ktr_room); (case k9 => exact BindsTo.of_eq rfl); (case c5 => decide); (case kB => exact locs rfl); (case c2 => exact rfl); (case c3 => exact rfl); (case c4 => exact rfl); k_whole; intro g' L' h' FG' F' N' B' X' T'; (try dsimp only); (try k_lift B'); (try k_fold)))
  k_with "cells_enter" => ((refine' code_defC ?k1 ?k2 ?k3 ?k4 ?k5 ?kA ?kF ?kK ?k6 ?k7 ?k8 ?k9 ?kB ?kD ?_ ?c2 ?c3 ?c4; (case kA => exact rfl); (case kF => exact rfl); (case kK => assumption); (case k1 => k_asm); (case k2 => k_asm); (case k3 => k_asm); (case k4 => k_asm); (case k5 => k_asm); (case k6 => k_is); (case k7 => k_is); (case k8 => ktr_room); (case k9 => exact BindsTo.of_eq rfl); (case kB => exact rfl); (case kD => decide +kernel); (case c2 => exact rfl); (case c3 => exact rfl); (case c4 => exact rfl); k_whole; intro g' L' h' tk' cells' FG' F' N' Y' B' X' T' l1; (try k_lt l1); k_cells Y'; (try simp only [List.cons_append, List.nil_append] at N'); (try dsimp only); (try k_lift B'); (try k_fold)))
  k_with "lc_hold" => ((k_here; k_dflt (refine ListComp_W (F₀ := by k_asm) (by with_unfolding_all rfl) (by decide) (by rfl) (by decide) (by rfl) ?_)))
  k_with "lk_hold" => ((k_here; (with_reducible show wpAny _ _ (eval (Expr.ListComp _ [⟨_, _, [], 0⟩] _ _) _) _ _ _); k_dflt (refine ListComp_K (F₀ := by k_asm) (by with_unfolding_all rfl) (by intro _ _; rfl) (by intro _; rfl) (by rfl) (by decide) (by intro _ _; rfl) ?_)))
  k_with "lt_hold" => ((k_here; (with_reducible show wpAny _ _ (eval (Expr.ListComp _ [⟨_, _, [_], 0⟩] _ _) _) _ _ _); k_dflt (refine ListComp_TH (F₀ := by k_asm) (by with_unfolding_all rfl) (by decide) (by rfl) (by decide) (by rfl) ?_)))
  k_with "al_hold" => ((k_here; (with_reducible show wpAny _ _ (exec (Stmt.Assign [Expr.Name _ _] (Expr.ListComp _ [⟨_, _, [], 0⟩] _ _) _) _) _ _ _); k_dflt (refine' Assign_ListComp_W (F₀ := by k_asm) (by rfl) (by with_unfolding_all rfl) (by with_unfolding_all rfl) (by decide) (by rfl) (by decide) (by rfl) (by rfl) (by rfl) ?_); k_whole))
  k_with "forT_hold" => ((k_here; (rename Fr _ _ _ _ => lF'); (with_unfolding_all refine' ForT_hold lF' ?_); k_whole))
  k_with "m_mem" => (first | with_reducible assumption | exact List.Mem.head _ | (refine' List.mem_cons_of_mem _ ?_; k_extra "m_mem"))
  k_with "m_tab" => (exact TabAt.ofNews (by k_asm) (by k_extra "m_mem") (by k_asm) (by k_asm) (by k_asm))
  k_with "m_items" => ((k_here; (with_reducible show wpAny _ _ (getMethod (Value.ref _) (PySem.Str.ofString "items") _) _ _ _); k_dflt (refine getMethod_tab (knd := PySem.intKind _ _) (enc := PyData.int) PySem.F.slot_dict_items PySem.F.type_dict_items (by k_extra "m_tab") ?_)))
  k_with "m_get" => ((k_here; (with_reducible show wpAny _ _ (getMethod (Value.ref _) (PySem.Str.ofString "get") _) _ _ _); k_dflt (refine getMethod_tab (knd := PySem.intKind _ _) (enc := PyData.int) PySem.F.slot_dict_get PySem.F.type_dict_get (by k_extra "m_tab") ?_)))
  k_with "m_callItems" => ((k_here; (with_reducible show wpAny _ _ (call (Value.builtin "dict.items") [Value.ref _]) _ _ _); k_dflt (refine' call_items_tab (knd := PySem.intKind _ _) (enc := PyData.int) (by k_extra "m_tab") (by k_asm) (by k_asm) ?_); intro h' o' hv' F' N'))
  k_with "m_callGet" => ((k_here; (with_reducible show wpAny _ _ (call (Value.builtin "dict.get") [Value.ref _, Value.int _ _, Value.int _ _]) _ _ _); k_dflt (refine kdf_get2 (by k_extra "m_tab") ?_); intro _))
  k_with "m_in" => ((k_here; k_dflt (refine kdf_in (by k_extra "m_tab") ?_)))
  k_with "m_item" => ((k_here; (with_reducible show wpAny _ _ (subscriptTail _ _ (Value.ref _) (Value.int _ _)) _ _ _); k_dflt (refine kdf_item (by k_extra "m_tab") (by assumption) ?_); intro _))
  k_with "m_off" => (first | with_reducible assumption | exact List.forall_mem_nil _ | (refine' List.forall_mem_cons.mpr ⟨(by k_extra "m_ne0"), (by k_extra "m_off")⟩))
  k_with "m_ne0" => ((dsimp only; first | with_reducible assumption | (refine Ne.symm ?_; with_reducible assumption) | k_ne))
  k_with "m_upd" => (first | (refine' UpdF.head (by k_extra "m_off")) | (refine' UpdF.tail (by k_extra "m_ne0") (by k_extra "m_upd")))
  k_with "m_set" => ((k_here; (with_reducible show wpAny _ _ (setItem (Value.ref _) (Value.int _ _) (Value.int _ _)) _ _ _); k_dflt (refine' kdf_setItem (by k_asm) (by k_asm) (by k_extra "m_upd") (by k_asm) (by k_asm) (by first | with_reducible assumption | omega) ?_); intro h' o' kvs' F' N' hd' hf'; (try dsimp only at N')))
  k_with "m_getItem" => ((k_here; (with_reducible show wpAny _ _ (getItem (Value.ref _) (Value.int _ _)) _ _ _); k_dflt (refine kdf_getItem (by k_extra "m_tab") (by assumption) ?_); intro _))
  k_with "storeName" => ((k_here; k_dflt (refine' storeX_C (by k_asm) (by k_asm) (by rfl) (by k_extra "m_upd") (by k_asm) ?_ (by rfl) (by rfl); k_whole); intro h' o' F' N' d'; (try dsimp only at N')))
  k_with "compareOp NotEq ref ref" => ((k_here; (rename News _ _ _ _ => Nx'); k_dflt (first | (refine' ne_strs_nil0 ⟨_, (Nx' (_, _) (by k_extra "m_mem")).1, rfl, _, rfl⟩ ⟨_, (Nx' (_, _) (by k_extra "m_mem")).1, rfl, _, rfl⟩ (by assumption) (by (dsimp only; omega)) ?_) | (refine' ne_strs_nil1 ⟨_, (Nx' (_, _) (by k_extra "m_mem")).1, rfl, _, rfl⟩ ⟨_, (Nx' (_, _) (by k_extra "m_mem")).1, rfl, _, rfl⟩ (by assumption) (by assumption) (by (dsimp only; omega)) ?_))))
  exact True.intro
set_option maxRecDepth 100000 in
set_option maxHeartbeats 8000000 in
theorem law_b3 {w : World} {p : Program} {loose : List Str} {mean : ExcName → Option Value} {mg mb : Str → Option Value} {dp un : Nat} {fa : Addr} {ccd : Value} {outer : List Env} {A₀ : Around} {base h₀ : Heap} {L : Addr} {m : Str → Option Value} {news : List (Addr × Obj)} {s : Shared} {Q : Flow → Shared → Prop}
    {K : Addr} {oj oi ob0 or0 : Obj} {vj vi vb vr : Option Value} {vs : List Value} {nk : Nat} (wd : List Nat) (ts : List (List Nat)) (fst sec : Int) (t1 t2 t3 : Tok) (hwd : wd.length = 4)
    (hf0 : 0 ≤ fst) (hf1 : fst < 3) (hs0 : 0 ≤ sec) (hs1 : sec < 3) (hvs : StrsAre vs (ts.map tx)) (hgood : ∀ t ∈ ts, ∃ c ∈ menu9, t = sgn fst c) (hlen4 : ts.length ≤ 4)
    (B : Below A₀ base outer h₀) (F : Fr h₀ L s.heap (fun y => if y = "kept" then some (.ref K) else if y = "word" then some (.str (tx wd) t1) else if y = "line" then some (.str (tx (toldL sec (frontL ts ++ ts.flatten))) t2) else if y = "second" then some (.int sec t3) else m y)) (X : (Mine.hd.heap_39 w.params).In h₀)
    (N : News h₀ L s.heap ((K, Obj.mk (.type "list") none (.seq (List.toArray vs) nk) #[]) :: (L + 1 + 1 + 1 + 1 + 1 + 1 + 1, oj) :: (L + 1 + 1 + 1 + 1 + 1 + 1, oi) :: (L + 1 + 1 + 1 + 1 + 1, ob0) :: (L + 1 + 1 + 1 + 1, or0) :: news)) (T : Top p loose mean mg mb h₀) (hd : dp + 64 < recursionLimit) (hu : un + 640 < cLine)
    (dj : oj.data = .cell vj) (di : oi.data = .cell vi) (db : ob0.data = .cell vb) (dr : or0.data = .cell vr)
    (hnews : ∀ p ∈ news, p.1 < L + 1 + 1 + 1 + 1)
    (hQ : ∀ h' tk, (∀ b o, h₀.get? b = some o → h'.get? b = some o) → Q (.ret (.bool true)) { s with heap := h', toks := tk }) :
    wpG (model PySem.Challenge.rw_zn0009_01.row.prog w) (ktrTop dp un (some []) "law" (lawP w).scope L fa ccd (cellsFrom (L + 1) (lawP w).scope.names []) outer) (execs ((lawP w).body.drop 9) (envOfC "law" (lawP w).scope L fa ccd)) Q (fun _ _ => False) s := by
  revert X
  k_fill
  intro X
  show wpG _ (ktrTop _ _ _ _ (Scope.mk _ _ _ _ _) _ _ _ _ _) (execs (_ :: _) (envOfC _ (Scope.mk _ _ _ _ _) _ _ _)) _ _ _
  have hdl := due_len hf0 hf1 hs0 hs1 hlen4 hgood
  have hfl := flat_len6 ts hgood
  have hfr : (frontL ts).length ≤ 2 := by unfold frontL; split <;> simp
  refine @wpG_step _ _ _ _ _ _ _ _ ?_
  refine wpAny_mono (Q := FrEnd h₀ L s (fun t y => if y = "front" then some (.str (tx (frontL ts)) t) else if y = "kept" then some (.ref K) else if y = "word" then some (.str (tx wd) t1) else if y = "line" then some (.str (tx (toldL sec (frontL ts ++ ts.flatten))) t2) else if y = "second" then some (.int sec t3) else m y)
    ((K, Obj.mk (.type "list") none (.seq (List.toArray vs) nk) #[]) :: (L + 1 + 1 + 1 + 1 + 1 + 1 + 1, oj) :: (L + 1 + 1 + 1 + 1 + 1 + 1, oi) :: (L + 1 + 1 + 1 + 1 + 1, ob0) :: (L + 1 + 1 + 1 + 1, or0) :: news)) (E := fun _ _ => False) ?_ ?_ ?_
  · rcases List.eq_nil_or_concat ts with rfl | ⟨ti, t, hti⟩
    · have e : tx (frontL []) = Str.ofString "#" := by decide +kernel
      rw [e]
      k_steps
      (rename Fr _ _ _ _ => Fz)
      (rename News _ _ _ _ => Nz)
      exact ⟨rfl, _, _, _, rfl, Fz, Nz.perm fun p hp => .tail _ hp⟩
    · rw [List.concat_eq_append] at hti
      subst hti
      rw [List.map_append, List.map_cons, List.map_nil] at hvs
      have hok : ∀ z ∈ ti.map tx ++ [tx t], PyData.strOk z = true := fun z hz => by
        have hz' : z ∈ (ti ++ [t]).map tx := by simpa using hz
        obtain ⟨x, hx, rfl⟩ := List.mem_map.mp hz'
        obtain ⟨c, hc, rfl⟩ := hgood x hx
        exact piece_ok hf0 hf1 hc
      have e : tx (frontL (ti ++ [t])) = Str.ofString "# " := by
        have e1 : frontL (ti ++ [t]) = [35, 32] := by unfold frontL; rw [if_neg (by simp)]
        rw [e1]
        decide +kernel
      rw [e]
      k_steps
      (rename Fr _ _ _ _ => Fz)
      (rename News _ _ _ _ => Nz)
      exact ⟨rfl, _, _, _, rfl, Fz, Nz.perm fun p hp => .tail _ hp⟩
  · rintro f s' ⟨rfl, h1, tk1, t5, rfl, F1, N1⟩
    clear F N
    dsimp only
    refine @wpG_step _ _ _ _ _ _ _ _ ?_
    k_steps
    refine call_join_flat ⟨_, (N1 _ (.head _)).1, rfl, _, rfl⟩ hvs (by omega) (fun t9 k9 => ?_)
    have hx1 : (tx (frontL ts)).length ≤ 2 := by rw [tx_length]; exact hfr
    have hx2 : (tx ts.flatten).length ≤ 24 := by rw [tx_length]; omega
    k_steps
    rw [tx_append]
    refine' told_sum ?k1 ?k2 ?k3 ?k4 ?k5 ?k6 ?k7 ?k8 (frontL ts ++ ts.flatten) _ _ sec hs0 hs1 (by rw [List.length_append]; omega) ?_
    case k1 => k_asm
    case k2 => k_asm
    case k3 => k_asm
    case k4 => k_asm
    case k5 => k_asm
    case k6 => rfl
    case k7 => ktr_room
    case k8 => ktr_units
    clear F1 N1 hx1 hx2
    intro t10 h10 tk10 F10 N10
    k_steps
    refine @wpG_step _ _ _ _ _ _ _ _ ?_
    k_steps
    · exfalso
      (rename (_ != _) = true => hq)
      simp at hq
    (rename Fr _ _ _ _ => Fa)
    (rename News _ _ _ _ => Na)
    (rename (_ != _) = false => hq)
    clear hq hfl hfr hvs hgood hlen4
    generalize toldL sec (frontL ts ++ ts.flatten) = ln at Fa hdl
    obtain ⟨hd1, hd2, hd3⟩ := hdl
    have Nb : News h₀ L _ ((L + 1 + 1 + 1 + 1 + 1 + 1 + 1, oj) :: (L + 1 + 1 + 1 + 1 + 1 + 1, oi) :: (L + 1 + 1 + 1 + 1 + 1, ob0) :: (L + 1 + 1 + 1 + 1, or0) :: news) := Na.perm fun p hp => .tail _ hp
    clear Na
    have q4 : ∀ p ∈ news, p.1 ≠ L + 1 + 1 + 1 + 1 := fun p hp => by
      have z : @LT.lt Nat _ p.1 (L + 1 + 1 + 1 + 1) := hnews p hp
      intro e
      have e' : @Eq Nat p.1 (L + 1 + 1 + 1 + 1) := e
      omega
    have q5 : ∀ p ∈ news, p.1 ≠ L + 1 + 1 + 1 + 1 + 1 := fun p hp => by
      have z : @LT.lt Nat _ p.1 (L + 1 + 1 + 1 + 1) := hnews p hp
      intro e
      have e' : @Eq Nat p.1 (L + 1 + 1 + 1 + 1 + 1) := e
      omega
    dsimp only
    refine @wpG_step _ _ _ _ _ _ _ _ ?_
    k_steps
    refine' tally_sum ?k1 ?k2 ?k3 ?k4 ?k5 ?k6 ?k7 ?k8 wd ln _ _ false hwd (by omega) ?_
    case k1 => k_asm
    case k2 => k_asm
    case k3 => k_asm
    case k4 => k_asm
    case k5 => k_asm
    case k6 => rfl
    case k7 => ktr_room
    case k8 => ktr_units
    clear Fa Nb
    intro ri or kr h11 tk11 F11 N11 hor for1 lr hoffr
    have r7 := hoffr _ (.head _)
    have r6 := hoffr _ (.tail _ (.head _))
    have r5 := hoffr _ (.tail _ (.tail _ (.head _)))
    have r4 := hoffr _ (.tail _ (.tail _ (.tail _ (.head _))))
    dsimp only at r7 r6 r5 r4
    k_steps
    refine @wpG_execs_cons _ _ _ _ _ _ _ _ ?_
    refine @wpG_Assign_Name _ _ _ _ _ _ _ _ _ _ ?_ rfl
    refine @wpG_Call_Name _ _ _ _ _ _ _ _ _ _ ?_
    k_steps
    refine wpG_callWith (P := (Mine.hd.heap_39 w.params).In) rfl (keeps_K (by k_is)) (wpG_evalArgs (wpG_spliced_cons (wpG_if_false rfl (wpG_of ?_))))
    k_steps
    refine wpG_spliced_cons (wpG_if_false rfl ?_)
    refine wpG_Call_Name ?_
    k_steps
    refine wpG_callWith (P := (Mine.hd.heap_39 w.params).In) rfl (keeps_K (by k_is)) (wpG_evalArgs (wpG_spliced_cons (wpG_if_false rfl (wpG_of ?_))))
    k_steps
    refine wpG_spliced_nil ?_
    (rename Frag.In _ _ => X3)
    (rename Fr _ _ _ _ => Fc)
    refine ⟨X3.keeps Fc.keep, ?_⟩
    dsimp only [List.nil_append]
    refine' turned_sum ?k1 ?k2 ?k3 ?k4 ?k5 ?k6 ?k7 ?k8 ?k9 ln _ hd3 hd1 (by omega) ?_
    case k1 => k_asm
    case k2 => k_asm
    case k3 => k_asm
    case k4 => k_asm
    case k5 => k_asm
    case k6 => rfl
    case k7 => ktr_room
    case k8 => ktr_units
    case k9 => rfl
    (rename News _ _ _ _ => Nc)
    clear F11 N11 Fc Nc
    intro t12 h12 tk12 F12 N12
    refine wpG_spliced_cons (wpG_if_false rfl (wpG_of ?_))
    k_steps
    refine wpG_spliced_nil ?_
    refine ⟨X3.keeps F12.keep, ?_⟩
    dsimp only [List.nil_append]
    refine @wpG_of _ _ _ _ _ _ _ ?_
    refine' tally_sum ?k1 ?k2 ?k3 ?k4 ?k5 ?k6 ?k7 ?k8 wd ln.reverse _ _ true hwd (by rw [List.length_reverse]; omega) ?_
    case k1 => k_asm
    case k2 => k_asm
    case k3 => k_asm
    case k4 => k_asm
    case k5 => k_asm
    case k6 => rfl
    case k7 => ktr_room
    case k8 => ktr_units
    clear F12 N12
    intro bk ob kb h13 tk13 F13 N13 hob fob lb hoffb
    have b7 := hoffb _ (.tail _ (.head _))
    have b6 := hoffb _ (.tail _ (.tail _ (.head _)))
    have b5 := hoffb _ (.tail _ (.tail _ (.tail _ (.head _))))
    have b4 := hoffb _ (.tail _ (.tail _ (.tail _ (.tail _ (.head _)))))
    dsimp only at b7 b6 b5 b4
    k_steps
    (rename Fr _ _ _ _ => Fz)
    (rename News _ _ _ _ => Nz)
    have F2 := fr_two (a := "word") (b := "due") Fz rfl rfl
    refine @wpG_of _ _ _ _ _ _ _ ?_
    refine law_c wd ln _ _ hwd hd2 B F2 X3 Nz T (by omega) (by omega) dj di ?_ ?_ hob hor fob for1 lb lr (_root_.Ne.symm b7) (_root_.Ne.symm r7) (_root_.Ne.symm b6) (_root_.Ne.symm r6) hnews hQ
    · assumption
    · assumption
  · intro e s' h
    exact h
end

end
-- part Lb2
section
inductive JK (fst : Int) (ts0 : List (List Nat)) (base : List (Addr × Obj)) (m₀ : Str → Option Value) (n : Nat) (m : Str → Option Value) (nx : List (Addr × Obj)) : Prop
  | mk (K : Addr) (nk : Nat) (vs : List Value) (ts : List (List Nat)) (c1 : nx = (K, Obj.mk (.type "list") none (.seq (List.toArray vs) nk) #[]) :: base) (c2 : n = ts.length) (c3 : StrsAre vs (ts.map tx)) (c4 : keptL ts = keptL ts0) (c5 : (∀ t ∈ ts, ∃ c ∈ menu9, t = sgn fst c)) (c6 : ts.length ≤ 4) (c7 : m "kept" = some (.ref K)) (c8 : ∀ z : Str, z ≠ "kept" → m z = m₀ z) : JK fst ts0 base m₀ n m nx
theorem m_drop23 (k a b : Addr × Obj) (r : List (Addr × Obj)) : ∀ p ∈ k :: r, p ∈ k :: a :: b :: r := by
  intro p hp
  rcases List.mem_cons.mp hp with rfl | hp
  · exact .head _
  · exact .tail _ (.tail _ (.tail _ hp))
theorem m_drop2 (k s : Addr × Obj) (r : List (Addr × Obj)) : ∀ p ∈ k :: r, p ∈ k :: s :: r := by
  intro p hp
  rcases List.mem_cons.mp hp with rfl | hp
  · exact .head _
  · exact .tail _ (.tail _ hp)
section
theorem lines19 : True := by
  k_with_none
  k_with "for_hold" => ((k_here; (rename Fr _ _ _ _ => lF'); (with_unfolding_all refine' For_hold lF' (by exact rfl) (by exact rfl) ?_; k_whole)))
  k_with "clean_enter" => ((refine' defG ?k1 ?k2 ?k3 ?k4 ?k5 ?kA ?kF ?kK ?k6 ?k7 ?k8 ?k9 ?kB ?_ ?c2 ?c3 ?c4 ?c5; (case kA => exact rfl); (case kF => exact rfl); (case kK => assumption); (case k1 => k_asm); (case k2 => k_asm); (case k3 => k_asm); (case k4 => k_asm); (case k5 => k_asm); (case k6 => k_is); (case k7 => k_is); (case k8 => ktr_room); (case k9 => exact BindsTo.of_eq rfl); (case c5 => decide); (case kB => exact locs rfl); (case c2 => exact rfl); (case c3 => exact rfl); (case c4 => exact rfl); k_whole; intro g' L' h' FG' F' N' B' X' T'; (try dsimp only); (try k_lift B'); (try k_fold)))
  k_with "cells_enter" => ((refine' code_defC ?k1 ?k2 ?k3 ?k4 ?k5 ?kA ?kF ?kK ?k6 ?k7 ?k8 ?k9 ?kB ?kD ?_ ?c2 ?c3 ?c4; (case kA => exact rfl); (case kF => exact rfl); (case kK => assumption); (case k1 => k_asm); (case k2 => k_asm); (case k3 => k_asm); (case k4 => k_asm); (case k5 => k_asm); (case k6 => k_is); (case k7 => k_is); (case k8 => ktr_room); (case k9 => exact BindsTo.of_eq rfl); (case kB => exact rfl); (case kD => decide +kernel); (case c2 => exact rfl); (case c3 => exact rfl); (case c4 => exact rfl); k_whole; intro g' L' h' tk' cells' FG' F' N' Y' B' X' T' l1; (try k_lt l1); k_cells Y'; (try simp only [List.cons_append, List.nil_append] at N'); (try dsimp only); (try k_lift B'); (try k_fold)))
  k_with "lc_hold" => ((k_here; k_dflt (refine ListComp_W (F₀ := by k_asm) (by with_unfolding_all rfl) (by decide) (by rfl) (by decide) (by rfl) ?_)))
  k_with "lk_hold" => ((k_here; (with_reducible show wpAny _ _ (eval (Expr.ListComp _ [⟨_, _, [], 0⟩] _ _) _) _ _ _); k_dflt (refine ListComp_K (F₀ := by k_asm) (by with_unfolding_all rfl) (by intro _ _; rfl) (by intro _; rfl) (by rfl) (by decide) (by intro _ _; rfl) ?_)))
  k_with "lt_hold" => ((k_here; (with_reducible show wpAny _ _ (eval (Expr.ListComp _ [⟨_, _, [_], 0⟩] _ _) _) _ _ _); k_dflt (refine ListComp_TH (F₀ := by k_asm) (by with_unfolding_all rfl) (by decide) (by rfl) (by decide) (by rfl) ?_)))
  k_with "al_hold" => ((k_here; (with_reducible show wpAny _ _ (exec (Stmt.Assign [Expr.Name _ _] (Expr.ListComp _ [⟨_, _, [], 0⟩] _ _) _) _) _ _ _); k_dflt (refine' Assign_ListComp_W (F₀ := by k_asm) (by rfl) (by with_unfolding_all rfl) (by with_unfolding_all rfl) (by decide) (by rfl) (by decide) (by rfl) (by rfl) (by rfl) ?_); k_whole))
  k_with "forT_hold" => ((k_here; (rename Fr _ _ _ _ => lF'); (with_unfolding_all refine' ForT_hold lF' ?_); k_whole))
  k_with "m_mem" => (first | with_reducible assumption | exact List.Mem.head _ | (refine' List.mem_cons_of_mem _ ?_; k_extra "m_mem"))
  k_with "m_tab" => (exact TabAt.ofNews (by k_asm) (by k_extra "m_mem") (by k_asm) (by k_asm) (by k_asm))
  k_with "m_items" => ((k_here; (with_reducible show wpAny _ _ (getMethod (Value.ref _) (PySem.Str.ofString "items") _) _ _ _); k_dflt (refine getMethod_tab (knd := PySem.intKind _ _) (enc := PyData.int) PySem.F.slot_dict_items PySem.F.type_dict_items (by k_extra "m_tab") ?_)))
  k_with "m_get" => ((k_here; (with_reducible show wpAny _ _ (getMethod (Value.ref _) (PySem.Str.ofString "get") _) _ _ _); k_dflt (refine getMethod_tab (knd := PySem.intKind _ _) (enc := PyData.int) PySem.F.slot_dict_get PySem.F.type_dict_get (by k_extra "m_tab") ?_)))
  k_with "m_callItems" => ((k_here; (with_reducible show wpAny _ _ (call (Value.builtin "dict.items") [Value.ref _]) _ _ _); k_dflt (refine' call_items_tab (knd := PySem.intKind _ _) (enc := PyData.int) (by k_extra "m_tab") (by k_asm) (by k_asm) ?_); intro h' o' hv' F' N'))
  k_with "m_callGet" => ((k_here; (with_reducible show wpAny _ _ (call (Value.builtin "dict.get") [Value.ref _, Value.int _ _, Value.int _ _]) _ _ _); k_dflt (refine kdf_get2 (by k_extra "m_tab") ?_); intro _))
  k_with "m_in" => ((k_here; k_dflt (refine kdf_in (by k_extra "m_tab") ?_)))
  k_with "m_item" => ((k_here; (with_reducible show wpAny _ _ (subscriptTail _ _ (Value.ref _) (Value.int _ _)) _ _ _); k_dflt (refine kdf_item (by k_extra "m_tab") (by assumption) ?_); intro _))
  k_with "m_off" => (first | with_reducible assumption | exact List.forall_mem_nil _ | (refine' List.forall_mem_cons.mpr ⟨(by k_extra "m_ne0"), (by k_extra "m_off")⟩))
  k_with "m_ne0" => ((dsimp only; first | with_reducible assumption | (refine Ne.symm ?_; with_reducible assumption) | k_ne))
  k_with "m_upd" => (first | (refine' UpdF.head (by k_extra "m_off")) | (refine' UpdF.tail (by k_extra "m_ne0") (by k_extra "m_upd")))
  k_with "m_set" => ((k_here; (with_reducible show wpAny _ _ (setItem (Value.ref _) (Value.int _ _) (Value.int _ _)) _ _ _); k_dflt (refine' kdf_setItem (by k_asm) (by k_asm) (by k_extra "m_upd") (by k_asm) (by k_asm) (by first | with_reducible assumption | omega) ?_); intro h' o' kvs' F' N' hd' hf'; (try dsimp only at N')))
  k_with "m_getItem" => ((k_here; (with_reducible show wpAny _ _ (getItem (Value.ref _) (Value.int _ _)) _ _ _); k_dflt (refine kdf_getItem (by k_extra "m_tab") (by assumption) ?_); intro _))
  k_with "subscriptTail" => ((k_here; (with_reducible show wpAny _ _ (subscriptTail _ _ (Value.ref _) (Value.int _ _)) _ _ _); (rename News _ _ _ _ => Nx'); k_dflt (refine' item_last ⟨_, (Nx' (_, _) (by k_extra "m_mem")).1, rfl, _, rfl⟩ ?_)))
  k_with "compareOp NotEq ref ref" => ((k_here; (rename News _ _ _ _ => Nx'); k_dflt (first | (refine' ne_strs_nil0 ⟨_, (Nx' (_, _) (by k_extra "m_mem")).1, rfl, _, rfl⟩ ⟨_, (Nx' (_, _) (by k_extra "m_mem")).1, rfl, _, rfl⟩ (by assumption) (by (dsimp only; omega)) ?_) | (refine' ne_strs_nil1 ⟨_, (Nx' (_, _) (by k_extra "m_mem")).1, rfl, _, rfl⟩ ⟨_, (Nx' (_, _) (by k_extra "m_mem")).1, rfl, _, rfl⟩ (by assumption) (by assumption) (by (dsimp only; omega)) ?_))))
  k_with "exec Assign cons ListComp" => (k_extra "al_hold")
  exact True.intro
set_option maxRecDepth 100000 in
set_option maxHeartbeats 8000000 in
theorem law_b2 {w : World} {p : Program} {loose : List Str} {mean : ExcName → Option Value} {mg mb : Str → Option Value} {dp un : Nat} {fa : Addr} {ccd : Value} {outer : List Env} {A₀ : Around} {base h₀ : Heap} {L : Addr} {m : Str → Option Value} {news : List (Addr × Obj)} {s : Shared} {Q : Flow → Shared → Prop}
    {S : Addr} {oS oj oi ob0 or0 of : Obj} {vj vi vb vr : Option Value} {vs : List Value} {nS : Nat} (wd ln cs : List Nat) (fst sec : Int) (t1 t2 t3 tf : Tok) (hwd : wd.length = 4)
    (hf0 : 0 ≤ fst) (hf1 : fst < 3) (hs0 : 0 ≤ sec) (hs1 : sec < 3) (hcs : cs.length = 4) (hmenu : ∀ c ∈ cs, c ∈ menu9) (hvs : StrsAre vs (cs.map fun c => tx [c])) (hln : ln = writtenL sec (commentL (writtenL fst cs)))
    (B : Below A₀ base outer h₀) (F : Fr h₀ L s.heap (fun y => if y = "word" then some (.str (tx wd) t1) else if y = "line" then some (.str (tx ln) t2) else if y = "second" then some (.int sec t3) else if y = "signs" then some (.ref S) else m y)) (X : (Mine.hd.heap_39 w.params).In h₀)
    (N : News h₀ L s.heap ((S, oS) :: (L + 1 + 1 + 1 + 1 + 1 + 1 + 1, oj) :: (L + 1 + 1 + 1 + 1 + 1 + 1, oi) :: (L + 1 + 1 + 1 + 1 + 1, ob0) :: (L + 1 + 1 + 1 + 1, or0) :: (L + 1 + 1 + 1, of) :: news)) (T : Top p loose mean mg mb h₀) (hd : dp + 64 < recursionLimit) (hu : un + 640 < cLine)
    (dS : oS.cls = .type "list") (dS' : oS.data = .seq vs.toArray nS) (dj : oj.data = .cell vj) (di : oi.data = .cell vi) (db : ob0.data = .cell vb) (dr : or0.data = .cell vr) (df : of.data = .cell (some (.int fst tf)))
    (hnews : ∀ p ∈ news, p.1 < L + 1 + 1 + 1)
    (hQ : ∀ h' tk, (∀ b o, h₀.get? b = some o → h'.get? b = some o) → Q (.ret (.bool true)) { s with heap := h', toks := tk }) :
    wpG (model PySem.Challenge.rw_zn0009_01.row.prog w) (ktrTop dp un (some []) "law" (lawP w).scope L fa ccd (cellsFrom (L + 1) (lawP w).scope.names []) outer) (execs ((lawP w).body.drop 7) (envOfC "law" (lawP w).scope L fa ccd)) Q (fun _ _ => False) s := by
  revert X
  k_fill
  intro X
  show wpG _ (ktrTop _ _ _ _ (Scope.mk _ _ _ _ _) _ _ _ _ _) (execs (_ :: _) (envOfC _ (Scope.mk _ _ _ _ _) _ _ _)) _ _ _
  have fin : ∀ (ts : List (List Nat)) (vs : List Value) (nk : Nat) (K : Addr) (h : Heap) (tk : Nat), StrsAre vs (ts.map tx) → (∀ t ∈ ts, ∃ c ∈ menu9, t = sgn fst c) → ts.length ≤ 4 → keptL (cs.map (sgn fst)) = ts →
      Fr h₀ L h (fun y => if y = "kept" then some (.ref K) else if y = "word" then some (.str (tx wd) t1) else if y = "line" then some (.str (tx ln) t2) else if y = "second" then some (.int sec t3) else if y = "signs" then some (.ref S) else m y) →
      News h₀ L h ((K, Obj.mk (.type "list") none (.seq (List.toArray vs) nk) #[]) :: (L + 1 + 1 + 1 + 1 + 1 + 1 + 1, oj) :: (L + 1 + 1 + 1 + 1 + 1 + 1, oi) :: (L + 1 + 1 + 1 + 1 + 1, ob0) :: (L + 1 + 1 + 1 + 1, or0) :: (L + 1 + 1 + 1, of) :: news) →
      wpG (model PySem.Challenge.rw_zn0009_01.row.prog w) (ktrTop dp un (some []) "law" (lawP w).scope L fa ccd (cellsFrom (L + 1) (lawP w).scope.names []) outer) (execs ((lawP w).body.drop 9) (envOfC "law" (lawP w).scope L fa ccd)) Q (fun _ _ => False) { s with heap := h, toks := tk } := by
    intro ts vs nk K h tk hvs' hgood hl4 hk F' N'
    have hdue := line_due (f := fst) (s := sec) hs0 hs1 hf0 hf1 cs hmenu
    rw [← hln, hk] at hdue
    have hdue' : ln = toldL sec (frontL ts ++ ts.flatten) := hdue
    rw [hdue'] at F'
    refine law_b3 (s := { s with heap := h, toks := tk }) wd ts fst sec t1 t2 t3 hwd hf0 hf1 hs0 hs1 hvs' hgood hl4 B F' X N' T hd hu dj di db dr (fun p hp => ?_) hQ
    rcases List.mem_cons.mp hp with rfl | hp
    · exact Nat.lt_succ_self _
    · exact Nat.lt_trans (hnews p hp) (Nat.lt_succ_self _)
  refine @wpG_step _ _ _ _ _ _ _ _ ?_
  k_steps
  unfold Hold
  (rename Fr _ _ _ _ => Fa)
  (rename News _ _ _ _ => Na)
  have hvl : vs.length = 4 := by rw [hvs.length, List.length_map, hcs]
  refine goU_list rfl Fa Na (.inr ⟨oS, .head _, dS, _, dS'⟩) (by simp [hvl]) (fun g1 => comp_rest (fun i v => ∃ t : Tok, v = Value.str (tx (sgn fst (cs.getD i 0))) t) ?_ ?_)
  · intro i v I oI C oC D2 m₂ ys h1' tk1 E' hi hv hC hx' F1 N1 off ne
    have hv' : vs[i]? = some v := by simpa using hv
    obtain ⟨y, ut, rfl, hy⟩ := hvs.item i v hv'
    rw [List.getElem?_map] at hy
    obtain ⟨c, hc, rfl⟩ : ∃ c, cs[i]? = some c ∧ y = tx [c] := by
      cases hq : cs[i]? with
      | none => rw [hq] at hy; cases hy
      | some q => rw [hq] at hy; exact ⟨q, rfl, (Option.some.inj hy).symm⟩
    have hgc : cs.getD i 0 = c := by rw [List.getD_eq_getElem?_getD, hc]; rfl
    rw [hgc]
    clear hv hv' hy Fa Na
    k_steps
    refine' told_sum ?k1 ?k2 ?k3 ?k4 ?k5 ?k6 ?k7 ?k8 [c] _ _ fst hf0 hf1 (by simp) ?_
    case k1 => k_asm
    case k2 => k_asm
    case k3 => k_asm
    case k4 => k_asm
    case k5 => k_asm
    case k6 => rfl
    case k7 => ktr_room
    case k8 => ktr_units
    intro t9 h9 tk9 F9 N9
    clear F1 N1
    k_steps
    exact LCg.CompEnd.intro F9 N9 _ (fun p hp => hp) off (.inr ⟨oS, .head _, dS, _, dS'⟩) ⟨rfl, t9, by simp [toldL]⟩
  · intro ys hl hy K1 h1' tk1 F1 N1 off
    have hys : StrsAre ys ((cs.map (sgn fst)).map tx) := strs_of (by simp [hl, hvl, hcs]) (fun i v y hv hl2 => by
      obtain ⟨t, e⟩ := hy i v hv
      rw [List.getElem?_map, List.getElem?_map] at hl2
      cases hq : cs[i]? with
      | none => rw [hq] at hl2; cases hl2
      | some q =>
        rw [hq] at hl2
        rw [List.getD_eq_getElem?_getD, hq] at e
        simp at hl2
        subst hl2
        exact ⟨t, e⟩)
    have hts : ∀ t ∈ cs.map (sgn fst), ∃ c ∈ menu9, t = sgn fst c := fun t ht => by
      obtain ⟨c, hc, rfl⟩ := List.mem_map.mp ht
      exact ⟨c, hmenu c hc, rfl⟩
    have htl : (cs.map (sgn fst)).length ≤ 4 := by simp [hcs]
    generalize cs.map (sgn fst) = ts0 at hys hts htl fin
    clear hy hl Fa Na off
    dsimp only
    refine @wpG_step _ _ _ _ _ _ _ _ ?_
    refine While_inv (JK fst ts0 _ _) F1 (N1.perm (m_drop2 _ _ _)) ⟨K1, _, ys, ts0, rfl, rfl, hys, rfl, hts, htl, rfl, fun z hz => if_neg hz⟩ ?_
    rintro n m₁ nx h2 tk2 F2 N2 ⟨K, nk, vs2, ts, rfl, rfl, hvs2, hkl, hgood, hlen4, hmk, hmm⟩
    rw [mapE hmk hmm] at F2
    clear F1 N1 hmm hmk
    rcases List.eq_nil_or_concat ts with rfl | ⟨ti, t, hti⟩
    · k_steps
      (rename Fr _ _ _ _ => Fz)
      (rename News _ _ _ _ => Nz)
      exact fin [] vs2 nk K _ _ hvs2 (by simp) (by simp) (by rw [← hkl]; rfl) Fz (Nz.perm fun p hp => .tail _ hp)
    · rw [List.concat_eq_append] at hti
      subst hti
      rw [List.map_append, List.map_cons, List.map_nil] at hvs2
      have hok : ∀ z ∈ ti.map tx ++ [tx t], PyData.strOk z = true := fun z hz => by
        have hz' : z ∈ (ti ++ [t]).map tx := by simpa using hz
        obtain ⟨x, hx, rfl⟩ := List.mem_map.mp hz'
        obtain ⟨c, hc, rfl⟩ := hgood x hx
        exact piece_ok hf0 hf1 hc
      obtain ⟨c, hc, ht⟩ := hgood t (by simp)
      have hocc := bare_occ hf0 hf1 hc
      rw [← ht] at hocc
      obtain ⟨vi, ut, rfl, hvi⟩ := strs_snoc_inv hvs2
      k_steps
      · (rename List.isEmpty _ = true => hq)
        rw [hocc] at hq
        have hb : bareT t = false := by simpa using hq
        rw [keptL_snoc, if_neg (by rw [hb]; decide)] at hkl
        (rename Fr _ _ _ _ => Fz)
        (rename News _ _ _ _ => Nz)
        exact fin (ti ++ [t]) _ nk K _ _ (by rw [List.map_append]; exact hvs2) hgood hlen4 hkl.symm Fz (Nz.perm fun p hp => .tail _ hp)
      · (rename List.isEmpty _ = false => hq)
        rw [hocc] at hq
        have hb : bareT t = true := by simpa using hq
        rw [keptL_snoc, if_pos hb] at hkl
        (rename Fr _ _ _ _ => Fz)
        (rename News _ _ _ _ => Nz)
        rw [slice_last] at Nz
        refine WhileStep.intro Fz (Nz.perm (m_drop23 _ _ _ _)) ?_ ⟨_, _, vi, ti, rfl, rfl, hvi, hkl, fun x hx => hgood x (List.mem_append_left _ hx), ?_, rfl, fun z hz => ?_⟩
        · simp
        · have := hlen4
          simp at this
          omega
        · simp only [hz, if_false]
end

end
-- part Lb1
section
abbrev wmenu : List Nat := [38, 59, 97, 109, 112, 35, 116, 32]
def pick9 (z : Int) : Nat := menu9.getD (z.fmod 9).toNat 0
def pick8 (z : Int) : Nat := wmenu.getD (z.fmod 8).toNat 0
theorem item9 (z : Int) : Txt.item (Str.ofString "&<;a \"\t>\r") (z.fmod 9) = tx [pick9 z] ∧ pick9 z ∈ menu9 := by
  have h0 : 0 ≤ z.fmod 9 := Int.fmod_nonneg_of_pos z (by decide)
  have h1 : z.fmod 9 < 9 := Int.fmod_lt_of_pos z (by decide)
  unfold pick9
  generalize z.fmod 9 = r at h0 h1 ⊢
  obtain ⟨n, rfl⟩ := Int.eq_ofNat_of_zero_le h0
  exact (by decide +kernel : ∀ n : Nat, n < 9 → Txt.item (Str.ofString "&<;a \"\t>\r") (n : Int) = tx [menu9.getD (n : Int).toNat 0] ∧ menu9.getD (n : Int).toNat 0 ∈ menu9) n (Int.ofNat_lt.mp h1)
theorem item8 (z : Int) : Txt.item (Str.ofString "&;amp#t ") (z.fmod 8) = tx [pick8 z] := by
  have h0 : 0 ≤ z.fmod 8 := Int.fmod_nonneg_of_pos z (by decide)
  have h1 : z.fmod 8 < 8 := Int.fmod_lt_of_pos z (by decide)
  unfold pick8
  generalize z.fmod 8 = r at h0 h1 ⊢
  obtain ⟨n, rfl⟩ := Int.eq_ofNat_of_zero_le h0
  exact (by decide +kernel : ∀ n : Nat, n < 8 → Txt.item (Str.ofString "&;amp#t ") (n : Int) = tx [wmenu.getD (n : Int).toNat 0]) n (Int.ofNat_lt.mp h1)
theorem picks_strs (f : Int → Nat) {ys : List Value} {dl : List Int} (hl : ys.length = dl.length) (hy : ∀ i v, ys[i]? = some v → ∃ t : Tok, v = Value.str (tx [f (dl.getD i 0)]) t) : StrsAre ys ((dl.map f).map fun c => tx [c]) :=
  strs_of (by simp [hl]) (fun i v y hv hl2 => by
    obtain ⟨t, e⟩ := hy i v hv
    rw [List.getElem?_map, List.getElem?_map] at hl2
    cases hq : dl[i]? with
    | none => rw [hq] at hl2; cases hl2
    | some q =>
      rw [hq] at hl2
      rw [List.getD_eq_getElem?_getD, hq] at e
      simp at hl2
      subst hl2
      exact ⟨t, e⟩)
theorem m_drop22 (a b : Addr × Obj) (r : List (Addr × Obj)) : ∀ p ∈ r, p ∈ a :: b :: r := fun p hp => .tail _ (.tail _ hp)
theorem cell_mod {o : Obj} {x : Int} {t : Tok} (h : o.data = Data.cell (some (Value.int (Int.fmod x 3) t))) : ∃ f : Int, 0 ≤ f ∧ f < 3 ∧ o.data = Data.cell (some (Value.int f t)) :=
  ⟨_, Int.fmod_nonneg_of_pos x (by decide), Int.fmod_lt_of_pos x (by decide), h⟩
theorem fr_mod {h₀ h : Heap} {L : Addr} {m : Str → Option Value} {a : Str} {x : Int} {t : Tok} (F : Fr h₀ L h (fun y => if y = a then some (Value.int (Int.fmod x 3) t) else m y)) : ∃ f : Int, 0 ≤ f ∧ f < 3 ∧ Fr h₀ L h (fun y => if y = a then some (Value.int f t) else m y) :=
  ⟨_, Int.fmod_nonneg_of_pos x (by decide), Int.fmod_lt_of_pos x (by decide), F⟩
theorem written_len {f : Int} (h0 : 0 ≤ f) (h1 : f < 3) {cs : List Nat} (hl : cs.length = 4) (hm : ∀ c ∈ cs, c ∈ menu9) : (writtenL f cs).length ≤ 24 ∧ (commentL (writtenL f cs)).length ≤ 26 := by
  have h10 : 10 ∉ cs := fun h => by have := hm 10 h; simp at this
  have e := written_told h0 h1 cs h10
  have l1 := toldL_length f cs
  have l2 := rsL_length (writtenL f cs)
  refine ⟨by rw [e]; omega, ?_⟩
  unfold commentL
  rw [e] at l2 ⊢
  split
  · simp
  · simp only [List.length_cons]; omega
theorem fr_four {h₀ h : Heap} {L : Addr} {m : Str → Option Value} {a b c d : Str} {va vb vc vd : Value} (F : Fr h₀ L h m) (ha : m a = some va) (hb : m b = some vb) (hc : m c = some vc) (hd : m d = some vd) :
    Fr h₀ L h (fun y => if y = a then some va else if y = b then some vb else if y = c then some vc else if y = d then some vd else m y) := by
  have e : (fun y => if y = a then some va else if y = b then some vb else if y = c then some vc else if y = d then some vd else m y) = m := by
    funext y
    by_cases h1 : y = a
    · rw [if_pos h1, h1, ha]
    · rw [if_neg h1]
      by_cases h2 : y = b
      · rw [if_pos h2, h2, hb]
      · rw [if_neg h2]
        by_cases h3 : y = c
        · rw [if_pos h3, h3, hc]
        · rw [if_neg h3]
          by_cases h4 : y = d
          · rw [if_pos h4, h4, hd]
          · rw [if_neg h4]
  rw [e]
  exact F
theorem tx_ones (l : List Nat) : (l.map fun c => [c]).map tx = l.map fun c => tx [c] := by rw [List.map_map]; rfl
theorem one_flat : ∀ l : List Nat, (l.map fun c => [c]).flatten = l
  | [] => rfl
  | a :: r => by rw [List.map_cons, List.flatten_cons, one_flat r]; rfl
section
theorem lines20 : True := by
  k_with_none
  k_with "for_hold" => ((k_here; (rename Fr _ _ _ _ => lF'); (with_unfolding_all refine' For_hold lF' (by exact rfl) (by exact rfl) ?_; k_whole)))
  k_with "clean_enter" => ((refine' defG ?k1 ?k2 ?k3 ?k4 ?k5 ?kA ?kF ?kK ?k6 ?k7 ?k8 ?k9 ?kB ?_ ?c2 ?c3 ?c4 ?c5; (case kA => exact rfl); (case kF => exact rfl); (case kK => assumption); (case k1 => k_asm); (case k2 => k_asm); (case k3 => k_asm); (case k4 => k_asm); (case k5 => k_asm); (case k6 => k_is); (case k7 => k_is); (case k8 => ktr_room); (case k9 => exact BindsTo.of_eq rfl); (case c5 => decide); (case kB => exact locs rfl); (case c2 => exact rfl); (case c3 => exact rfl); (case c4 => exact rfl); k_whole; intro g' L' h' FG' F' N' B' X' T'; (try dsimp only); (try k_lift B'); (try k_fold)))
  k_with "cells_enter" => ((refine' code_defC ?k1 ?k2 ?k3 ?k4 ?k5 ?kA ?kF ?kK ?k6 ?k7 ?k8 ?k9 ?kB ?kD ?_ ?c2 ?c3 ?c4; (case kA => exact rfl); (case kF => exact rfl); (case kK => assumption); (case k1 => k_asm); (case k2 => k_asm); (case k3 => k_asm); (case k4 => k_asm); (case k5 => k_asm); (case k6 => k_is); (case k7 => k_is); (case k8 => ktr_room); (case k9 => exact BindsTo.of_eq rfl); (case kB => exact rfl); (case kD => decide +kernel); (case c2 => exact rfl); (case c3 => exact rfl); (case c4 => exact rfl); k_whole; intro g' L' h' tk' cells' FG' F' N' Y' B' X' T' l1; (try k_lt l1); k_cells Y'; (try simp only [List.cons_append, List.nil_append] at N'); (try dsimp only); (try k_lift B'); (try k_fold)))
  k_with "lc_hold" => ((k_here; k_dflt (refine ListComp_W (F₀ := by k_asm) (by with_unfolding_all rfl) (by decide) (by rfl) (by decide) (by rfl) ?_)))
  k_with "lk_hold" => ((k_here; (with_reducible show wpAny _ _ (eval (Expr.ListComp _ [⟨_, _, [], 0⟩] _ _) _) _ _ _); k_dflt (refine ListComp_K (F₀ := by k_asm) (by with_unfolding_all rfl) (by intro _ _; rfl) (by intro _; rfl) (by rfl) (by decide) (by intro _ _; rfl) ?_)))
  k_with "lt_hold" => ((k_here; (with_reducible show wpAny _ _ (eval (Expr.ListComp _ [⟨_, _, [_], 0⟩] _ _) _) _ _ _); k_dflt (refine ListComp_TH (F₀ := by k_asm) (by with_unfolding_all rfl) (by decide) (by rfl) (by decide) (by rfl) ?_)))
  k_with "al_hold" => ((k_here; (with_reducible show wpAny _ _ (exec (Stmt.Assign [Expr.Name _ _] (Expr.ListComp _ [⟨_, _, [], 0⟩] _ _) _) _) _ _ _); k_dflt (refine' Assign_ListComp_W (F₀ := by k_asm) (by rfl) (by with_unfolding_all rfl) (by with_unfolding_all rfl) (by decide) (by rfl) (by decide) (by rfl) (by rfl) (by rfl) ?_); k_whole))
  k_with "forT_hold" => ((k_here; (rename Fr _ _ _ _ => lF'); (with_unfolding_all refine' ForT_hold lF' ?_); k_whole))
  k_with "m_mem" => (first | with_reducible assumption | exact List.Mem.head _ | (refine' List.mem_cons_of_mem _ ?_; k_extra "m_mem"))
  k_with "m_tab" => (exact TabAt.ofNews (by k_asm) (by k_extra "m_mem") (by k_asm) (by k_asm) (by k_asm))
  k_with "m_items" => ((k_here; (with_reducible show wpAny _ _ (getMethod (Value.ref _) (PySem.Str.ofString "items") _) _ _ _); k_dflt (refine getMethod_tab (knd := PySem.intKind _ _) (enc := PyData.int) PySem.F.slot_dict_items PySem.F.type_dict_items (by k_extra "m_tab") ?_)))
  k_with "m_get" => ((k_here; (with_reducible show wpAny _ _ (getMethod (Value.ref _) (PySem.Str.ofString "get") _) _ _ _); k_dflt (refine getMethod_tab (knd := PySem.intKind _ _) (enc := PyData.int) PySem.F.slot_dict_get PySem.F.type_dict_get (by k_extra "m_tab") ?_)))
  k_with "m_callItems" => ((k_here; (with_reducible show wpAny _ _ (call (Value.builtin "dict.items") [Value.ref _]) _ _ _); k_dflt (refine' call_items_tab (knd := PySem.intKind _ _) (enc := PyData.int) (by k_extra "m_tab") (by k_asm) (by k_asm) ?_); intro h' o' hv' F' N'))
  k_with "m_callGet" => ((k_here; (with_reducible show wpAny _ _ (call (Value.builtin "dict.get") [Value.ref _, Value.int _ _, Value.int _ _]) _ _ _); k_dflt (refine kdf_get2 (by k_extra "m_tab") ?_); intro _))
  k_with "m_in" => ((k_here; k_dflt (refine kdf_in (by k_extra "m_tab") ?_)))
  k_with "m_item" => ((k_here; (with_reducible show wpAny _ _ (subscriptTail _ _ (Value.ref _) (Value.int _ _)) _ _ _); k_dflt (refine kdf_item (by k_extra "m_tab") (by assumption) ?_); intro _))
  k_with "m_off" => (first | with_reducible assumption | exact List.forall_mem_nil _ | (refine' List.forall_mem_cons.mpr ⟨(by k_extra "m_ne0"), (by k_extra "m_off")⟩))
  k_with "m_ne0" => ((dsimp only; first | with_reducible assumption | (refine Ne.symm ?_; with_reducible assumption) | k_ne))
  k_with "m_upd" => (first | (refine' UpdF.head (by k_extra "m_off")) | (refine' UpdF.tail (by k_extra "m_ne0") (by k_extra "m_upd")))
  k_with "m_set" => ((k_here; (with_reducible show wpAny _ _ (setItem (Value.ref _) (Value.int _ _) (Value.int _ _)) _ _ _); k_dflt (refine' kdf_setItem (by k_asm) (by k_asm) (by k_extra "m_upd") (by k_asm) (by k_asm) (by first | with_reducible assumption | omega) ?_); intro h' o' kvs' F' N' hd' hf'; (try dsimp only at N')))
  k_with "m_getItem" => ((k_here; (with_reducible show wpAny _ _ (getItem (Value.ref _) (Value.int _ _)) _ _ _); k_dflt (refine kdf_getItem (by k_extra "m_tab") (by assumption) ?_); intro _))
  k_with "storeName" => ((k_here; k_dflt (refine' storeX_C (by k_asm) (by k_asm) (by rfl) (by k_extra "m_upd") (by k_asm) ?_ (by rfl) (by rfl); k_whole); intro h' o' F' N' d'; (try dsimp only at N')))
  k_with "exec Assign cons ListComp" => (k_extra "al_hold")
  k_with "eval ListComp" => (k_extra "lc_hold")
  exact True.intro
set_option maxRecDepth 100000 in
set_option maxHeartbeats 8000000 in
theorem law_b1 {w : World} {p : Program} {loose : List Str} {mean : ExcName → Option Value} {mg mb : Str → Option Value} {dp un : Nat} {fa : Addr} {ccd : Value} {outer : List Env} {A₀ : Around} {base h₀ : Heap} {L : Addr} {m : Str → Option Value} {news : List (Addr × Obj)} {s : Shared} {Q : Flow → Shared → Prop}
    {D : Addr} {oj oi ob0 or0 of : Obj} {vj vi vb vr vf : Option Value} {nd : Nat} (d0 d1 d2 d3 d4 d5 d6 d7 d8 : Int) (u0 u1 u2 u3 u4 u5 u6 u7 u8 : Tok)
    (B : Below A₀ base outer h₀) (F : Fr h₀ L s.heap (fun y => if y = "drawn" then some (.ref D) else m y)) (X : (Mine.hd.heap_39 w.params).In h₀)
    (N : News h₀ L s.heap ((D, Obj.mk (.type "list") none (.seq (List.toArray [.int d0 u0, .int d1 u1, .int d2 u2, .int d3 u3, .int d4 u4, .int d5 u5, .int d6 u6, .int d7 u7, .int d8 u8]) nd) #[]) :: (L + 1 + 1 + 1 + 1 + 1 + 1 + 1, oj) :: (L + 1 + 1 + 1 + 1 + 1 + 1, oi) :: (L + 1 + 1 + 1 + 1 + 1, ob0) :: (L + 1 + 1 + 1 + 1, or0) :: (L + 1 + 1 + 1, of) :: news)) (T : Top p loose mean mg mb h₀) (hd : dp + 64 < recursionLimit) (hu : un + 640 < cLine)
    (dj : oj.data = .cell vj) (di : oi.data = .cell vi) (db : ob0.data = .cell vb) (dr : or0.data = .cell vr) (df : of.data = .cell vf)
    (nD : D ≠ L + 1 + 1 + 1) (hnews : ∀ p ∈ news, p.1 < L + 1 + 1 + 1)
    (hQ : ∀ h' tk, (∀ b o, h₀.get? b = some o → h'.get? b = some o) → Q (.ret (.bool true)) { s with heap := h', toks := tk }) :
    wpG (model PySem.Challenge.rw_zn0009_01.row.prog w) (ktrTop dp un (some []) "law" (lawP w).scope L fa ccd (cellsFrom (L + 1) (lawP w).scope.names []) outer) (execs ((lawP w).body.drop 2) (envOfC "law" (lawP w).scope L fa ccd)) Q (fun _ _ => False) s := by
  revert X
  k_fill
  intro X
  show wpG _ (ktrTop _ _ _ _ (Scope.mk _ _ _ _ _) _ _ _ _ _) (execs (_ :: _) (envOfC _ (Scope.mk _ _ _ _ _) _ _ _)) _ _ _
  refine @wpG_step _ _ _ _ _ _ _ _ ?_
  k_steps
  unfold Hold
  (rename Fr _ _ _ _ => Fa)
  (rename News _ _ _ _ => Na)
  refine goU_list (its := #[.int d0 u0, .int d1 u1, .int d2 u2, .int d3 u3]) rfl Fa Na (.inr ⟨_, .head _, rfl, _, rfl⟩) (by simp) (fun g1 => comp_rest (n := 4) (fun i v => ∃ t : Tok, v = Value.str (tx [pick9 ([d0, d1, d2, d3].getD i 0)]) t) ?_ ?_)
  · intro i v I oI C oC D2 m₂ ys h1' tk1 E' hi hv hC hx' F1 N1 off ne
    obtain ⟨z, u, rfl, hz⟩ : ∃ (z : Int) (u : Tok), v = .int z u ∧ z = [d0, d1, d2, d3].getD i 0 := by
      match i, hi with
      | 0, _ => exact ⟨d0, u0, (Option.some.inj hv).symm, rfl⟩
      | 1, _ => exact ⟨d1, u1, (Option.some.inj hv).symm, rfl⟩
      | 2, _ => exact ⟨d2, u2, (Option.some.inj hv).symm, rfl⟩
      | 3, _ => exact ⟨d3, u3, (Option.some.inj hv).symm, rfl⟩
    rw [← hz]
    clear hv hz Fa Na
    k_steps
    (rename Fr _ _ _ _ => Fb)
    (rename News _ _ _ _ => Nb)
    exact LCg.CompEnd.intro Fb Nb _ (fun p hp => hp) off (.inr ⟨_, .head _, rfl, _, rfl⟩) ⟨rfl, _, by rw [← (item9 z).1]⟩
  · intro ys hl hy K1 h1' tk1 F1 N1 off
    have hys := picks_strs pick9 (dl := [d0, d1, d2, d3]) hl hy
    have k3 := off1_mem off _ (.tail _ (.tail _ (.tail _ (.tail _ (.tail _ (.tail _ (.head _)))))))
    dsimp only at k3
    have N2 := N1.perm (m_drop2 _ _ _)
    clear hy off Fa Na N1
    dsimp only
    refine @wpG_step _ _ _ _ _ _ _ _ ?_
    k_steps
    unfold Hold
    (rename Fr _ _ _ _ => Fa)
    (rename News _ _ _ _ => Na)
    refine goU_list (its := #[.int d5 u5, .int d6 u6, .int d7 u7, .int d8 u8]) rfl Fa Na (.inr ⟨_, .head _, rfl, _, rfl⟩) (by simp) (fun g2 => comp_rest (n := 4) (fun i v => ∃ t : Tok, v = Value.str (tx [pick8 ([d5, d6, d7, d8].getD i 0)]) t) ?_ ?_)
    · intro i v I oI C oC D2 m₂ ys2 h2' tk2 E' hi hv hC hx' F1 N1 off ne
      obtain ⟨z, u, rfl, hz⟩ : ∃ (z : Int) (u : Tok), v = .int z u ∧ z = [d5, d6, d7, d8].getD i 0 := by
        match i, hi with
        | 0, _ => exact ⟨d5, u5, (Option.some.inj hv).symm, rfl⟩
        | 1, _ => exact ⟨d6, u6, (Option.some.inj hv).symm, rfl⟩
        | 2, _ => exact ⟨d7, u7, (Option.some.inj hv).symm, rfl⟩
        | 3, _ => exact ⟨d8, u8, (Option.some.inj hv).symm, rfl⟩
      rw [← hz]
      clear hv hz Fa Na
      k_steps
      (rename Fr _ _ _ _ => Fb)
      (rename News _ _ _ _ => Nb)
      exact LCg.CompEnd.intro Fb Nb _ (fun p hp => hp) off (.inr ⟨_, .head _, rfl, _, rfl⟩) ⟨rfl, _, by rw [← item8 z]⟩
    · intro ys2 hl2 hy2 K2 h2' tk2 F2 N3 off
      have hys2 := picks_strs pick8 (dl := [d5, d6, d7, d8]) hl2 hy2
      rw [← tx_ones] at hys2
      clear hy2 off Fa Na
      k_steps
      (rename Fr _ _ _ _ => Fb)
      (rename News _ _ _ _ => Nb)
      refine call_join_flat ⟨_, (Nb _ (.head _)).1, rfl, _, rfl⟩ hys2 (by rw [one_flat]; simp) (fun t9 k9 => ?_)
      rw [one_flat]
      obtain ⟨wd, hwd⟩ : ∃ wd, wd = List.map pick8 [d5, d6, d7, d8] := ⟨_, rfl⟩
      rw [← hwd]
      k_steps
      (rename Fr _ _ _ _ => Fc)
      (rename News _ _ _ _ => Nc)
      have Nd := Nc.perm (m_drop22 _ _ _)
      clear Nc
      have q3 : ∀ p ∈ news, p.1 ≠ L + 1 + 1 + 1 := fun p hp => Nat.ne_of_lt (hnews p hp)
      refine @wpG_step _ _ _ _ _ _ _ _ ?_
      k_steps
      dsimp only
      refine @wpG_step _ _ _ _ _ _ _ _ ?_
      k_steps
      dsimp only
      (rename Fr _ _ _ _ => Fd)
      (rename News _ _ _ _ => Ne)
      (rename _ = Data.cell (some (Value.int (Int.fmod _ 3) _)) => df1)
      obtain ⟨fst, hf0, hf1, df2⟩ := cell_mod df1
      obtain ⟨sec, hs0, hs1, Ff⟩ := fr_mod Fd
      clear df1 Fd
      obtain ⟨cs, hcs⟩ : ∃ cs, cs = List.map pick9 [d0, d1, d2, d3] := ⟨_, rfl⟩
      rw [← hcs] at hys
      have hcl : cs.length = 4 := by rw [hcs]; rfl
      have hwl : wd.length = 4 := by rw [hwd]; rfl
      have hmenu : ∀ c ∈ cs, c ∈ menu9 := fun c hc => by
        rw [hcs] at hc
        obtain ⟨z, _, rfl⟩ := List.mem_map.mp hc
        exact (item9 z).2
      have hys' := hys
      rw [← tx_ones] at hys'
      obtain ⟨wl1, wl2⟩ := written_len hf0 hf1 hcl hmenu
      refine @wpG_step _ _ _ _ _ _ _ _ ?_
      k_steps
      refine call_join_flat ⟨_, (Ne _ (.head _)).1, rfl, _, rfl⟩ hys' (by rw [one_flat]; omega) (fun t11 k11 => ?_)
      rw [one_flat]
      k_steps
      refine' written_sum ?k1 ?k2 ?k3 ?k4 ?k5 ?k6 ?k7 ?k8 cs _ _ fst (by omega) hf0 hf1 ?_
      case k1 => k_asm
      case k2 => k_asm
      case k3 => k_asm
      case k4 => k_asm
      case k5 => k_asm
      case k6 => rfl
      case k7 => ktr_room
      case k8 => ktr_units
      clear Ff Ne
      intro t12 h12 tk12 F12 N12
      k_steps
      refine' comment_sum ?k1 ?k2 ?k3 ?k4 ?k5 ?k6 ?k7 ?k8 (writtenL fst cs) _ (by omega) ?_
      case k1 => k_asm
      case k2 => k_asm
      case k3 => k_asm
      case k4 => k_asm
      case k5 => k_asm
      case k6 => rfl
      case k7 => ktr_room
      case k8 => ktr_units
      clear F12 N12
      intro t13 h13 tk13 F13 N13
      k_steps
      refine' written_sum ?k1 ?k2 ?k3 ?k4 ?k5 ?k6 ?k7 ?k8 (commentL (writtenL fst cs)) _ _ sec (by omega) hs0 hs1 ?_
      case k1 => k_asm
      case k2 => k_asm
      case k3 => k_asm
      case k4 => k_asm
      case k5 => k_asm
      case k6 => rfl
      case k7 => ktr_room
      case k8 => ktr_units
      clear F13 N13
      intro t14 h14 tk14 F14 N14
      k_steps
      (rename Fr _ _ _ _ => Fz)
      (rename News _ _ _ _ => Nz)
      have F4 := fr_four (a := "word") (b := "line") (c := "second") (d := "signs") Fz rfl rfl rfl rfl
      refine law_b2 wd (writtenL sec (commentL (writtenL fst cs))) cs fst sec _ _ _ _ hwl hf0 hf1 hs0 hs1 hcl hmenu hys rfl B F4 X (Nz.perm (m_drop2 _ _ _)) T hd hu rfl rfl dj di db dr df2 hnews hQ
end

end
-- part Lw
section
section
variable {prog : Program} {w : World} {A : Around} {E : Value → Shared → Prop} {s : Shared} {h₀ : Heap} {L l : Addr} {m : Str → Option Value} {news : List (Addr × Obj)} {vs : List Value} {ns : List Int}
theorem sum_pick {lo up st : Option Int} {c : Nat} {Q : Value → Shared → Prop} (F : Fr h₀ L s.heap m) (N : News h₀ L s.heap news) (hh : A.handled = none) (hm : (l, Obj.mk (.type "list") none (.seq (slicePick vs.toArray lo up st) c) #[]) ∈ news) (hi : IntsAre vs ns)
    (h : ∀ h' tk t' (n : Int), Fr h₀ L h' m → News h₀ L h' news → Q (.int n t') { s with heap := h', toks := tk }) : wpAny (model prog w) A (call (.builtin "sum") [.ref l]) Q E s := by
  refine PyProof.Rows.LSm.sum_ints (vs := (slicePick vs.toArray lo up st).toList) F N hh ⟨_, (N _ hm).1, rfl, c, by simp⟩ (hi.pick lo up st) (fun h' tk t' F' N' => h h' tk t' _ F' N')
end
theorem head_int {n : Nat} {ys : List Value} (hl : ys.length = n + 1) (hy : ∀ (i : Nat) (v : Value), ys[i]? = some v → ∃ (n : Int) (t : Tok), v = Value.int n t) :
    ∃ (d : Int) (u : Tok) (r : List Value), ys = .int d u :: r ∧ r.length = n ∧ ∀ (i : Nat) (v : Value), r[i]? = some v → ∃ (n : Int) (t : Tok), v = Value.int n t := by
  cases ys with
  | nil => cases hl
  | cons v r =>
    obtain ⟨d, u, rfl⟩ := hy 0 v rfl
    exact ⟨d, u, r, rfl, Nat.succ.inj hl, fun i w h => hy (i + 1) w h⟩
def LawQ (s : Shared) (f : Flow) (s' : Shared) : Prop := f = .ret (.bool true) ∧ ∃ h' tk, s' = { s with heap := h', toks := tk } ∧ ∀ b o, s.heap.get? b = some o → h'.get? b = some o
section
theorem lines21 : True := by
  k_with_none
  k_with "for_hold" => ((k_here; (rename Fr _ _ _ _ => lF'); (with_unfolding_all refine' For_hold lF' (by exact rfl) (by exact rfl) ?_; k_whole)))
  k_with "clean_enter" => ((refine' defG ?k1 ?k2 ?k3 ?k4 ?k5 ?kA ?kF ?kK ?k6 ?k7 ?k8 ?k9 ?kB ?_ ?c2 ?c3 ?c4 ?c5; (case kA => exact rfl); (case kF => exact rfl); (case kK => assumption); (case k1 => k_asm); (case k2 => k_asm); (case k3 => k_asm); (case k4 => k_asm); (case k5 => k_asm); (case k6 => k_is); (case k7 => k_is); (case k8 => ktr_room); (case k9 => exact BindsTo.of_eq rfl); (case c5 => decide); (case kB => exact locs rfl); (case c2 => exact rfl); (case c3 => exact rfl); (case c4 => exact rfl); k_whole; intro g' L' h' FG' F' N' B' X' T'; (try dsimp only); (try k_lift B'); (try k_fold)))
  k_with "cells_enter" => ((refine' code_defC ?k1 ?k2 ?k3 ?k4 ?k5 ?kA ?kF ?kK ?k6 ?k7 ?k8 ?k9 ?kB ?kD ?_ ?c2 ?c3 ?c4; (case kA => exact rfl); (case kF => exact rfl); (case kK => assumption); (case k1 => k_asm); (case k2 => k_asm); (case k3 => k_asm); (case k4 => k_asm); (case k5 => k_asm); (case k6 => k_is); (case k7 => k_is); (case k8 => ktr_room); (case k9 => exact BindsTo.of_eq rfl); (case kB => exact rfl); (case kD => decide +kernel); (case c2 => exact rfl); (case c3 => exact rfl); (case c4 => exact rfl); k_whole; intro g' L' h' tk' cells' FG' F' N' Y' B' X' T' l1; (try k_lt l1); k_cells Y'; (try simp only [List.cons_append, List.nil_append] at N'); (try dsimp only); (try k_lift B'); (try k_fold)))
  k_with "lc_hold" => ((k_here; k_dflt (refine ListComp_W (F₀ := by k_asm) (by with_unfolding_all rfl) (by decide) (by rfl) (by decide) (by rfl) ?_)))
  k_with "lk_hold" => ((k_here; (with_reducible show wpAny _ _ (eval (Expr.ListComp _ [⟨_, _, [], 0⟩] _ _) _) _ _ _); k_dflt (refine ListComp_K (F₀ := by k_asm) (by with_unfolding_all rfl) (by intro _ _; rfl) (by intro _; rfl) (by rfl) (by decide) (by intro _ _; rfl) ?_)))
  k_with "lt_hold" => ((k_here; (with_reducible show wpAny _ _ (eval (Expr.ListComp _ [⟨_, _, [_], 0⟩] _ _) _) _ _ _); k_dflt (refine ListComp_TH (F₀ := by k_asm) (by with_unfolding_all rfl) (by decide) (by rfl) (by decide) (by rfl) ?_)))
  k_with "al_hold" => ((k_here; (with_reducible show wpAny _ _ (exec (Stmt.Assign [Expr.Name _ _] (Expr.ListComp _ [⟨_, _, [], 0⟩] _ _) _) _) _ _ _); k_dflt (refine' Assign_ListComp_W (F₀ := by k_asm) (by rfl) (by with_unfolding_all rfl) (by with_unfolding_all rfl) (by decide) (by rfl) (by decide) (by rfl) (by rfl) (by rfl) ?_); k_whole))
  k_with "forT_hold" => ((k_here; (rename Fr _ _ _ _ => lF'); (with_unfolding_all refine' ForT_hold lF' ?_); k_whole))
  k_with "m_mem" => (first | with_reducible assumption | exact List.Mem.head _ | (refine' List.mem_cons_of_mem _ ?_; k_extra "m_mem"))
  k_with "m_tab" => (exact TabAt.ofNews (by k_asm) (by k_extra "m_mem") (by k_asm) (by k_asm) (by k_asm))
  k_with "m_items" => ((k_here; (with_reducible show wpAny _ _ (getMethod (Value.ref _) (PySem.Str.ofString "items") _) _ _ _); k_dflt (refine getMethod_tab (knd := PySem.intKind _ _) (enc := PyData.int) PySem.F.slot_dict_items PySem.F.type_dict_items (by k_extra "m_tab") ?_)))
  k_with "m_get" => ((k_here; (with_reducible show wpAny _ _ (getMethod (Value.ref _) (PySem.Str.ofString "get") _) _ _ _); k_dflt (refine getMethod_tab (knd := PySem.intKind _ _) (enc := PyData.int) PySem.F.slot_dict_get PySem.F.type_dict_get (by k_extra "m_tab") ?_)))
  k_with "m_callItems" => ((k_here; (with_reducible show wpAny _ _ (call (Value.builtin "dict.items") [Value.ref _]) _ _ _); k_dflt (refine' call_items_tab (knd := PySem.intKind _ _) (enc := PyData.int) (by k_extra "m_tab") (by k_asm) (by k_asm) ?_); intro h' o' hv' F' N'))
  k_with "m_callGet" => ((k_here; (with_reducible show wpAny _ _ (call (Value.builtin "dict.get") [Value.ref _, Value.int _ _, Value.int _ _]) _ _ _); k_dflt (refine kdf_get2 (by k_extra "m_tab") ?_); intro _))
  k_with "m_in" => ((k_here; k_dflt (refine kdf_in (by k_extra "m_tab") ?_)))
  k_with "m_item" => ((k_here; (with_reducible show wpAny _ _ (subscriptTail _ _ (Value.ref _) (Value.int _ _)) _ _ _); k_dflt (refine kdf_item (by k_extra "m_tab") (by assumption) ?_); intro _))
  k_with "m_off" => (first | with_reducible assumption | exact List.forall_mem_nil _ | (refine' List.forall_mem_cons.mpr ⟨(by k_extra "m_ne0"), (by k_extra "m_off")⟩))
  k_with "m_ne0" => ((dsimp only; first | with_reducible assumption | (refine Ne.symm ?_; with_reducible assumption) | k_ne))
  k_with "m_upd" => (first | (refine' UpdF.head (by k_extra "m_off")) | (refine' UpdF.tail (by k_extra "m_ne0") (by k_extra "m_upd")))
  k_with "m_set" => ((k_here; (with_reducible show wpAny _ _ (setItem (Value.ref _) (Value.int _ _) (Value.int _ _)) _ _ _); k_dflt (refine' kdf_setItem (by k_asm) (by k_asm) (by k_extra "m_upd") (by k_asm) (by k_asm) (by first | with_reducible assumption | omega) ?_); intro h' o' kvs' F' N' hd' hf'; (try dsimp only at N')))
  k_with "m_getItem" => ((k_here; (with_reducible show wpAny _ _ (getItem (Value.ref _) (Value.int _ _)) _ _ _); k_dflt (refine kdf_getItem (by k_extra "m_tab") (by assumption) ?_); intro _))
  k_with "call builtin:sum" => ((k_here; (with_reducible show wpAny _ _ (call (Value.builtin "sum") [Value.ref _]) _ _ _); k_dflt (refine' sum_pick (by k_asm) (by k_asm) (by rfl) (by k_extra "m_mem") (by assumption) ?_); intro h' tk' t' n' F' N'))
  k_with "exec Assign cons ListComp" => (k_extra "al_hold")
  exact True.intro
set_option maxRecDepth 100000 in
set_option maxHeartbeats 8000000 in
theorem law_holds : PySem.Challenge.rw_zn0009_01.Holds := Mine.hd (by
  k_fill
  intro w s₀ s₁ mg mb G Y fa o pm cd doc dV kV ho hd hcd hD hmg hg args vals as hpre hlay hrd hwl hlo
  have KX := kIn_of Y
  have X := (Ground.X G).1
  have V := (Ground.X G).2
  refine Ground.open G ?_
  intro T B D TE TW
  obtain ⟨_, _, M⟩ := bmod_of_top T
  have TA := at_of_top T
  try (obtain ⟨_, _, he, B0⟩ := based_of_top T rfl hmg ho hd; have he' : cd = _ := he; subst he'; clear he)
  clear hmg
  wrow_args hpre hlay hrd hwl hlo
  refine enter_callG ?_
  w_top on
  have K0 := below_caller (Top.heap T)
  (have he := Dflts.none hD rfl; subst he; have he := Dflts.noKw hD; subst he)
  refine callG_cellsN (by decide) ho (fd_plain hd) (Top.nolimit T) hcd rfl (kinds_of (by kinds_ok)) (by decide) fun h₁ tk₁ cells F N0 X0 => ?_
  obtain ⟨oc1, oc2, oc3, oc4, oc5, oc6, oc7, hce, dc1, dc2, dc3, dc4, dc5, dc6, dc7⟩ := PyProof.Rows.kc_seven X0
  subst hce
  clear X0 hd TA
  k_drop
  dsimp only at F N0 dc1 dc2 dc3 dc4 dc5 dc6 dc7 ⊢
  refine wpG_mono (Q := LawQ s₁) (E := fun _ _ => False) ?_ ?_ ?_
  rotate_left
  · rintro f s' ⟨rfl, h', tk, rfl, hk⟩
    refine ⟨.inl ⟨.bool true, .bool true, [], rfl, ?_, .bool true, ?_, fun _ => ⟨List.nodup_nil, fun a h => nomatch h⟩⟩, .of_keep hk, rfl, .of_eq hg⟩
    · exact raisesW_false (by wrow_none_raised)
    · exact postW_of (by wrow_shape) (by wtm_val) (by w_fin)
  · intro e s' h
    exact h.elim
  clear hcd ho D TE TW B Y G M
  skip
  generalize hLz : s₁.heap.objs.size = L at *
  show wpG _ (ktrTop _ _ _ _ _ _ _ _ _ _) _ _ _ _
  obtain ⟨hp, gn, dr, tk0, os⟩ := s₁
  refine @wpG_step _ _ _ _ _ _ _ _ ?_
  k_steps
  refine @wpG_step _ _ _ _ _ _ _ _ ?_
  k_steps
  unfold Hold
  (rename Fr _ _ _ _ => Fa)
  (rename News _ _ _ _ => Na)
  (rename IsRange _ _ _ _ _ _ _ _ => rg)
  refine goU_range rfl Fa Na rg (by decide) (n := 9) (by decide) (by decide) (fun g1 => comp_rest (fun i v => ∃ (n : Int) (t : Tok), v = Value.int n t) ?_ ?_)
  · intro i v I oI C oC D2 m₂ ys h1' tk1 E' hi hv hC hx' F1 N1 off ne
    obtain ⟨tk, rfl⟩ := hv
    clear Fa Na rg
    k_steps
    (rename Fr _ _ _ _ => Fb)
    (rename News _ _ _ _ => Nb)
    exact LCg.CompEnd.intro Fb Nb _ (fun p hp => .tail _ hp) off trivial ⟨rfl, _, _, rfl⟩
  · intro ys hl hy D2 h1' tk1 F1 N1 off
    obtain ⟨d0, u0, r0, rfl, hl0, hy0⟩ := head_int hl hy
    obtain ⟨d1, u1, r1, rfl, hl1, hy1⟩ := head_int hl0 hy0
    obtain ⟨d2, u2, r2, rfl, hl2, hy2⟩ := head_int hl1 hy1
    obtain ⟨d3, u3, r3, rfl, hl3, hy3⟩ := head_int hl2 hy2
    obtain ⟨d4, u4, r4, rfl, hl4, hy4⟩ := head_int hl3 hy3
    obtain ⟨d5, u5, r5, rfl, hl5, hy5⟩ := head_int hl4 hy4
    obtain ⟨d6, u6, r6, rfl, hl6, hy6⟩ := head_int hl5 hy5
    obtain ⟨d7, u7, r7, rfl, hl7, hy7⟩ := head_int hl6 hy6
    obtain ⟨d8, u8, r8, rfl, hl8, hy8⟩ := head_int hl7 hy7
    obtain rfl : r8 = [] := List.eq_nil_of_length_eq_zero hl8
    have k3 := off1_mem off _ (.tail _ (.tail _ (.tail _ (.tail _ (.tail _ (.head _))))))
    dsimp only at k3
    clear Fa Na rg hy
    dsimp only
    refine law_b1 d0 d1 d2 d3 d4 d5 d6 d7 d8 u0 u1 u2 u3 u4 u5 u6 u7 u8 K0 F1 KX (N1.perm (m_drop2 _ _ _)) T (by decide) (by decide) dc1 dc2 dc3 dc4 dc5 (_root_.Ne.symm k3) (fun p hp => ?_) (fun h' tk hk => ⟨rfl, h', tk, rfl, hk⟩)
    rcases List.mem_cons.mp hp with rfl | hp
    · exact Nat.lt_succ_self _
    rcases List.mem_cons.mp hp with rfl | hp
    · exact Nat.lt_succ_of_lt (Nat.lt_succ_self _)
    · nomatch hp)
end

end
end Mine
set_option maxRecDepth 100000 in
theorem PySem.Challenge.cw_zn0009_01_holds : PySem.Challenge.rw_zn0009_01.Holds :=
  Mine.law_holds
