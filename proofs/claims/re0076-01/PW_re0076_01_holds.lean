import PyProof.Rows.All
import Wide.All
import OpenK.AllK
import Wide.FinOn
import PySem.Challenge.RW_re0076_01
set_option Elab.async false
set_option linter.all false
section
namespace Mine
abbrev Tx := List Nat

/-- the signs that stand for themselves in a line -/
def isP (c : Nat) : Bool := c == 97 || c == 32 || c == 9 || c == 35
def hexd (n : Nat) : Nat := if n < 10 then 48 + n else 55 + n
def enc (c : Nat) : Tx := if isP c then [c] else [61, hexd (c / 16), hexd (c % 16)]
def encs (l : Tx) : Tx := l.flatMap enc
def okC (c : Nat) : Bool := c == 97 || c == 32 || c == 9 || c == 35 || c == 61 || c == 233 || c == 160
def okT (c : Nat) : Bool := c == 10 || okC c
/-- what translate writes -/
def tr (c : Nat) : Tx := if c == 10 then [10] else enc c

def wsp (c : Nat) : Bool := PySem.Unicode.isSpace c
def rstripL (l : Tx) : Tx := (l.reverse.dropWhile wsp).reverse

def isHex (c : Nat) : Bool := (48 ≤ c && c ≤ 57) || (97 ≤ c && c ≤ 102) || (65 ≤ c && c ≤ 70)
def hval (c : Nat) : Nat := if c ≤ 57 then c - 48 else if c ≤ 70 then c - 55 else c - 87

/-- a line of decode's, its end with it unless it is soft -/
def decGo : Tx → Tx
  | [] => [10]
  | c :: r => if c ≠ 61 then c :: decGo r else match r with
    | [] => []
    | [x] => c :: decGo [x]
    | x :: y :: r' => if isHex x && isHex y then (16 * hval x + hval y) :: decGo r' else c :: decGo (x :: y :: r')
def decLine (l : Tx) : Tx := decGo (rstripL l)

/-- split at line feeds -/
def lns : Tx → List Tx
  | [] => [[]]
  | c :: r => if c = 10 then [] :: lns r else match lns r with
    | [] => [[c]]
    | a :: t => (c :: a) :: t
/-- joined by line feeds -/
def jn : List Tx → Tx
  | [] => []
  | [a] => a
  | a :: b :: t => a ++ 10 :: jn (b :: t)
/-- splitlines -/
def slns (l : Tx) : List Tx := if (lns l).getLast? = some [] then (lns l).dropLast else lns l

def fin1 (T d : Tx) : Tx := if T.getLast? ≠ some 10 ∧ d.getLast? = some 10 then d.dropLast else d
def decode (T : Tx) : Tx := if T = [] then [] else fin1 T ((slns T).flatMap decLine)

/-- how many signs go into a row -/
def fit (w : Nat) : Nat → Tx → Nat
  | _, [] => 0
  | u, c :: r => if u + (enc c).length < w then fit w (u + (enc c).length) r + 1 else 0
def isW (c : Nat) : Bool := c == 32 || c == 9
def endW (l : Tx) : Bool := match l.getLast? with | some c => isW c | none => false

abbrev Row := Tx × Bool
def lastRows (w : Nat) (r : Tx) : List Row :=
  if endW r && (encs r).length == w then [(r.dropLast, true), (r.drop (r.length - 1), false)]
  else if endW r && (encs r).length + 1 == w then [(r, true), ([], false)]
  else [(r, false)]
def rows (w : Nat) (r : Tx) : List Row :=
  if h : w < (encs r).length ∧ 0 < fit w 0 r then (r.take (fit w 0 r), true) :: rows w (r.drop (fit w 0 r)) else lastRows w r
termination_by r.length
decreasing_by
  have h1 : r ≠ [] := by intro e; rw [e] at h; exact absurd h.2 (by simp [fit])
  have : 0 < r.length := List.length_pos_iff.mpr h1
  simp only [List.length_drop]; omega

def q2 (c : Nat) : Tx := if c = 32 then [61, 50, 48] else [61, 48, 57]
def written (p : Row) : Tx :=
  if p.2 then encs p.1 ++ [61] else match p.1.getLast? with
    | some c => if isW c then encs p.1.dropLast ++ q2 c else encs p.1
    | none => encs p.1
def marked (r : Tx) : Tx := if r = [] then [35] else 35 :: 32 :: r
def shownOf (p : Row) : Tx := if p.2 then 35 :: 32 :: p.1 else marked p.1 ++ [10]

def allRows (w : Nat) (T : Tx) : List Row := (lns T).flatMap (rows w)
def due (w : Nat) (T : Tx) : List Tx := (allRows w T).map written
def bodyOf (w : Nat) (T : Tx) : Tx := jn (due w T)

/-! ## lists -/
theorem mem_dl {α : Type} {l : List α} {a : α} (h : a ∈ l.dropLast) : a ∈ l := (List.dropLast_sublist l).mem h
theorem decGo_plain {c : Nat} (h : c ≠ 61) (r : Tx) : decGo (c :: r) = c :: decGo r := by rw [decGo.eq_def]; simp [h]
theorem lns_cons {c : Nat} (h : c ≠ 10) {r a : Tx} {t : List Tx} (e : lns r = a :: t) : lns (c :: r) = (c :: a) :: t := by
  rw [lns.eq_def]; simp only [if_neg h, e]
theorem lns_ne (l : Tx) : lns l ≠ [] := by
  cases l with
  | nil => simp [lns]
  | cons c r => unfold lns; split <;> (try split) <;> simp
theorem jn_cons (a : Tx) {t : List Tx} (h : t ≠ []) : jn (a :: t) = a ++ 10 :: jn t := by
  cases t with
  | nil => exact absurd rfl h
  | cons b t => rfl
theorem jn_lns (l : Tx) : jn (lns l) = l := by
  induction l with
  | nil => rfl
  | cons c r ih =>
    unfold lns
    split
    · rename_i h; rw [jn_cons _ (lns_ne r), ih, h]; rfl
    · split
      · rename_i h; exact absurd h (lns_ne r)
      · rename_i a t h
        rw [h] at ih
        cases t with
        | nil => simp only [jn] at ih ⊢; rw [ih]
        | cons b t => simp only [jn] at ih ⊢; rw [← ih]; rfl
theorem lns_free {a : Tx} (h : 10 ∉ a) : lns a = [a] := by
  induction a with
  | nil => rfl
  | cons c r ih =>
    simp only [List.mem_cons, not_or] at h
    unfold lns
    rw [if_neg (Ne.symm h.1), ih h.2]
theorem lns_app {a : Tx} (h : 10 ∉ a) (r : Tx) : lns (a ++ 10 :: r) = a :: lns r := by
  induction a with
  | nil => simp [lns]
  | cons c a ih =>
    simp only [List.mem_cons, not_or] at h
    exact lns_cons (Ne.symm h.1) (ih h.2)
theorem lns_jn {t : List Tx} (hn : t ≠ []) (h : ∀ a ∈ t, 10 ∉ a) : lns (jn t) = t := by
  induction t with
  | nil => exact absurd rfl hn
  | cons a t ih =>
    cases t with
    | nil => exact lns_free (h a (by simp))
    | cons b t =>
      rw [jn_cons _ (by simp), lns_app (h a (by simp)), ih (by simp) fun x hx => h x (by simp [hx])]
theorem lns_mem {l : Tx} : ∀ a ∈ lns l, 10 ∉ a ∧ ∀ c ∈ a, c ∈ l := by
  induction l with
  | nil => simp [lns]
  | cons c r ih =>
    intro a ha
    unfold lns at ha
    split at ha
    · rcases List.mem_cons.mp ha with rfl | ha
      · simp
      · exact ⟨(ih a ha).1, fun x hx => List.mem_cons_of_mem _ ((ih a ha).2 x hx)⟩
    · rename_i hc
      split at ha
      · rename_i h; exact absurd h (lns_ne r)
      · rename_i b t h
        rw [h] at ih
        rcases List.mem_cons.mp ha with rfl | ha
        · have := ih b (by simp)
          refine ⟨by simp only [List.mem_cons, not_or]; exact ⟨Ne.symm hc, this.1⟩, fun x hx => ?_⟩
          rcases List.mem_cons.mp hx with rfl | hx
          · simp
          · exact List.mem_cons_of_mem _ (this.2 x hx)
        · have := ih a (by simp [ha])
          exact ⟨this.1, fun x hx => List.mem_cons_of_mem _ (this.2 x hx)⟩
theorem jn_last {t : List Tx} {b : Tx} (hb : b ≠ []) : (jn (t ++ [b])).getLast? = b.getLast? := by
  induction t with
  | nil => rfl
  | cons a t ih =>
    rw [List.cons_append, jn_cons _ (by simp), List.getLast?_append, List.getLast?_cons, ih]
    cases h : b.getLast? with
    | none => exact absurd (List.getLast?_eq_none_iff.mp h) hb
    | some c => simp
theorem jn_last_nil {t : List Tx} (ht : t ≠ []) : (jn (t ++ [[]])).getLast? = some 10 := by
  induction t with
  | nil => exact absurd rfl ht
  | cons a t ih =>
    cases t with
    | nil => simp [jn]
    | cons b t =>
      have := ih (by simp)
      rw [List.cons_append, jn_cons _ (by simp), List.getLast?_append, List.getLast?_cons, this]; simp

/-! ## decode of joined rows -/
/-- rows joined and decoded: all but the last line end -/
theorem decode_jn {t : List Tx} {R : Tx} (hn : t ≠ []) (h : ∀ a ∈ t, 10 ∉ a) (hR : t.flatMap decLine = R ++ [10]) : decode (jn t) = R := by
  obtain ⟨t, b, rfl⟩ : ∃ t' b, t = t' ++ [b] := ⟨t.dropLast, t.getLast hn, (List.dropLast_concat_getLast hn).symm⟩
  have hl : lns (jn (t ++ [b])) = t ++ [b] := lns_jn hn h
  unfold decode slns
  rw [hl]
  by_cases hb : b = []
  · subst hb
    rw [List.flatMap_append] at hR
    have e10 : List.flatMap decLine [([] : Tx)] = [10] := by simp [decLine, rstripL, decGo]
    rw [e10] at hR
    have hR' := (List.append_left_inj _).mp hR
    by_cases ht : t = []
    · subst ht
      simp at hR'
      rw [hR']; rfl
    · have h1 := jn_last_nil ht
      rw [if_neg (by intro e; rw [e] at h1; simp at h1)]
      unfold fin1
      rw [if_neg (by rw [h1]; simp)]
      simp [hR']
  · have h1 := jn_last (t := t) hb
    have hbl : b.getLast? ≠ some 10 := fun e => h b (by simp) (List.mem_of_getLast? e)
    have hbn : b.getLast? ≠ none := fun e => hb (List.getLast?_eq_none_iff.mp e)
    rw [if_neg (by intro e; rw [e] at h1; exact hbn h1.symm)]
    unfold fin1
    have e1 : ¬ (t ++ [b]).getLast? = some [] := by simp [hb]
    rw [if_neg e1, hR, if_pos ⟨by rw [h1]; exact hbl, by simp⟩]
    simp

/-! ## signs -/
theorem okC_cases {c : Nat} (h : okC c = true) : c = 97 ∨ c = 32 ∨ c = 9 ∨ c = 35 ∨ c = 61 ∨ c = 233 ∨ c = 160 := by
  simp only [okC, Bool.or_eq_true, beq_iff_eq] at h; omega
theorem decGo_enc {c : Nat} (h : okC c = true) (r : Tx) : decGo (enc c ++ r) = c :: decGo r := by
  rcases okC_cases h with rfl | rfl | rfl | rfl | rfl | rfl | rfl <;> first | (simp [enc, isP, hexd, decGo, isHex, hval]; done) | exact decGo_plain (by decide) r
theorem decGo_encs {l : Tx} (h : ∀ c ∈ l, okC c = true) (r : Tx) : decGo (encs l ++ r) = l ++ decGo r := by
  induction l with
  | nil => rfl
  | cons c l ih =>
    show decGo ((enc c ++ encs l) ++ r) = _
    rw [List.append_assoc, decGo_enc (h c (by simp)), ih fun x hx => h x (by simp [hx])]; rfl
theorem encs_append (a b : Tx) : encs (a ++ b) = encs a ++ encs b := List.flatMap_append
theorem encs_last {l : Tx} {c : Nat} : encs (l ++ [c]) = encs l ++ enc c := by rw [encs_append]; simp [encs]
theorem decGo_soft {l : Tx} (h : ∀ c ∈ l, okC c = true) : decGo (encs l ++ [61]) = l := by
  rw [decGo_encs h]; simp [decGo]
theorem decGo_end {l : Tx} (h : ∀ c ∈ l, okC c = true) : decGo (encs l) = l ++ [10] := by
  have := decGo_encs h []; simpa [decGo] using this
theorem snoc_of {l : Tx} {c : Nat} (h : l.getLast? = some c) : l = l.dropLast ++ [c] := by
  have hn : l ≠ [] := by intro e; rw [e] at h; simp at h
  rw [List.getLast?_eq_some_getLast hn] at h
  have := (List.dropLast_concat_getLast hn).symm
  rw [Option.some.inj h] at this; exact this
theorem isW_cases {c : Nat} (h : isW c = true) : c = 32 ∨ c = 9 := by simpa [isW] using h
theorem decGo_written {p : Row} (h : ∀ c ∈ p.1, okC c = true) : decGo (written p) = if p.2 then p.1 else p.1 ++ [10] := by
  obtain ⟨l, b⟩ := p
  cases b with
  | true => simp only [written, if_true]; exact decGo_soft h
  | false =>
    simp only [written, Bool.false_eq_true, if_false]
    split
    · rename_i c hc
      split
      · rename_i hw
        have e := snoc_of hc
        have h' : ∀ x ∈ l.dropLast, okC x = true := fun x hx => h x (mem_dl hx)
        rw [decGo_encs h']
        conv => rhs; rw [e]
        rw [List.append_assoc]
        congr 1
        rcases isW_cases hw with rfl | rfl <;> simp [q2, decGo, isHex, hval]
      · exact decGo_end h
    · exact decGo_end h

/-! ## no white end -/
theorem wsp_facts : wsp 97 = false ∧ wsp 32 = true ∧ wsp 9 = true ∧ wsp 10 = true ∧ wsp 35 = false ∧ wsp 61 = false ∧ wsp 233 = false ∧ wsp 160 = true ∧ wsp 48 = false ∧ wsp 57 = false ∧ wsp 68 = false ∧ wsp 69 = false ∧ wsp 51 = false ∧ wsp 65 = false ∧ wsp 50 = false := by decide +kernel
theorem rstrip_id {l : Tx} (h : ∀ c, l.getLast? = some c → wsp c = false) : rstripL l = l := by
  cases e : l.getLast? with
  | none => rw [List.getLast?_eq_none_iff.mp e]; rfl
  | some c =>
    have := snoc_of e
    rw [this]
    simp [rstripL, List.dropWhile_cons, h c e]
theorem enc_last {c : Nat} (h : okC c = true) (hw : isW c = false) : ∃ d, (enc c).getLast? = some d ∧ wsp d = false := by
  have W := wsp_facts
  rcases okC_cases h with rfl | rfl | rfl | rfl | rfl | rfl | rfl <;> simp [isW] at hw <;> simp [enc, isP, hexd, W]
theorem written_last {p : Row} (h : ∀ c ∈ p.1, okC c = true) : ∀ c, (written p).getLast? = some c → wsp c = false := by
  have W := wsp_facts
  obtain ⟨l, b⟩ := p
  cases b with
  | true => intro c; simp only [written, if_true]; simp; rintro rfl; exact W.2.2.2.2.2.1
  | false =>
    intro c
    simp only [written, Bool.false_eq_true, if_false]
    split
    · rename_i d hd
      split
      · rename_i hw
        rcases isW_cases hw with rfl | rfl <;> simp [q2] <;> rintro rfl <;> simp [W]
      · rename_i hw
        have e := snoc_of hd
        have hok : okC d = true := h d (List.mem_of_getLast? hd)
        obtain ⟨x, hx, hxw⟩ := enc_last hok (by simpa using hw)
        rw [e, encs_last, List.getLast?_append, hx]
        simp; rintro rfl; exact hxw
    · rename_i hd
      rw [List.getLast?_eq_none_iff.mp hd]; simp [encs]
theorem enc_free {c : Nat} (h : okC c = true) : ∀ x ∈ enc c, x ≠ 10 ∧ x ≠ 13 := by
  rcases okC_cases h with rfl | rfl | rfl | rfl | rfl | rfl | rfl <;> simp [enc, isP, hexd]
theorem encs_free {l : Tx} (h : ∀ c ∈ l, okC c = true) : 10 ∉ encs l := by
  intro hm
  obtain ⟨c, hc, hx⟩ := List.mem_flatMap.mp hm
  exact (enc_free (h c hc) 10 hx).1 rfl
theorem written_free {p : Row} (h : ∀ c ∈ p.1, okC c = true) : 10 ∉ written p := by
  obtain ⟨l, b⟩ := p
  have h0 := encs_free h
  have h1 : 10 ∉ encs l.dropLast := encs_free fun x hx => h x (mem_dl hx)
  unfold written
  simp only at h0 ⊢
  split
  · simp [h0]
  · split
    · split
      · rename_i hw; rcases isW_cases hw with rfl | rfl <;> simp [q2, h1]
      · exact h0
    · exact h0

/-! ## rows -/
theorem lastRows_flat (w : Nat) (r : Tx) : (lastRows w r).flatMap (fun p => if p.2 then p.1 else p.1 ++ [10]) = r ++ [10] := by
  unfold lastRows
  split
  · rename_i h
    simp only [Bool.and_eq_true] at h
    simp only [List.flatMap_cons, List.flatMap_nil, if_true, Bool.false_eq_true, if_false, List.append_nil]
    rw [← List.append_assoc, List.dropLast_eq_take, List.take_append_drop]
  · split <;> simp
theorem rows_flat (w : Nat) (r : Tx) : (rows w r).flatMap (fun p => if p.2 then p.1 else p.1 ++ [10]) = r ++ [10] := by
  induction r using rows.induct (w := w) with
  | case1 r h ih => rw [rows, dif_pos h, List.flatMap_cons, ih]; simp only [if_true]; rw [← List.append_assoc, List.take_append_drop]
  | case2 r h => rw [rows, dif_neg h]; exact lastRows_flat w r
theorem lastRows_mem {w : Nat} {r : Tx} : ∀ p ∈ lastRows w r, ∀ c ∈ p.1, c ∈ r := by
  intro p hp c hc
  unfold lastRows at hp
  split at hp
  · simp only [List.mem_cons, List.not_mem_nil, or_false] at hp
    rcases hp with rfl | rfl
    · exact mem_dl hc
    · exact List.mem_of_mem_drop hc
  · split at hp
    · simp only [List.mem_cons, List.not_mem_nil, or_false] at hp
      rcases hp with rfl | rfl
      · exact hc
      · simp at hc
    · simp only [List.mem_cons, List.not_mem_nil, or_false] at hp
      subst hp; exact hc
theorem rows_mem (w : Nat) (r : Tx) : ∀ p ∈ rows w r, ∀ c ∈ p.1, c ∈ r := by
  induction r using rows.induct (w := w) with
  | case1 r h ih =>
    intro p hp c hc
    rw [rows, dif_pos h] at hp
    rcases List.mem_cons.mp hp with rfl | hp
    · exact List.mem_of_mem_take hc
    · exact List.mem_of_mem_drop (ih p hp c hc)
  | case2 r h => rw [rows, dif_neg h]; exact lastRows_mem
theorem rows_ne (w : Nat) (r : Tx) : rows w r ≠ [] := by
  rw [rows]; split
  · simp
  · unfold lastRows; split <;> (try split) <;> simp
def OkT (T : Tx) : Prop := ∀ c ∈ T, okT c = true
def OkC (T : Tx) : Prop := ∀ c ∈ T, okC c = true
theorem lns_ok {T : Tx} (h : OkT T) : ∀ a ∈ lns T, OkC a := by
  intro a ha c hc
  have h1 := lns_mem a ha
  have := h c (h1.2 c hc)
  simp only [okT, Bool.or_eq_true, beq_iff_eq] at this
  rcases this with rfl | h
  · exact absurd hc h1.1
  · exact h
theorem allRows_ok {w : Nat} {T : Tx} (h : OkT T) : ∀ p ∈ allRows w T, OkC p.1 := by
  intro p hp
  obtain ⟨a, ha, hp⟩ := List.mem_flatMap.mp hp
  exact fun c hc => lns_ok h a ha c (rows_mem w a p hp c hc)
theorem allRows_ne (w : Nat) (T : Tx) : allRows w T ≠ [] := by
  unfold allRows
  cases h : lns T with
  | nil => exact absurd h (lns_ne T)
  | cons a t =>
    intro e
    rw [List.flatMap_cons] at e
    exact rows_ne w a (List.append_eq_nil_iff.mp e).1
theorem flat_lines : ∀ (t : List Tx), t ≠ [] → t.flatMap (fun a => a ++ [10]) = jn t ++ [10]
  | [], h => absurd rfl h
  | [a], _ => by simp [jn]
  | a :: b :: t, _ => by
    have := flat_lines (b :: t) (by simp)
    rw [List.flatMap_cons, this]; simp [jn]
theorem allRows_flat (w : Nat) (T : Tx) : (allRows w T).flatMap (fun p => if p.2 then p.1 else p.1 ++ [10]) = T ++ [10] := by
  unfold allRows
  rw [List.flatMap_assoc]
  simp only [rows_flat]
  rw [flat_lines _ (lns_ne T), jn_lns]
theorem flatMap_congr' {α β : Type} {l : List α} {f g : α → List β} (h : ∀ a ∈ l, f a = g a) : l.flatMap f = l.flatMap g := by
  induction l with
  | nil => rfl
  | cons a l ih => rw [List.flatMap_cons, List.flatMap_cons, h a (by simp), ih fun x hx => h x (by simp [hx])]
theorem flatMap_map' {α β γ : Type} (l : List α) (f : α → β) (g : β → List γ) : (l.map f).flatMap g = l.flatMap fun a => g (f a) := by
  induction l with
  | nil => rfl
  | cons a l ih => simp [ih]
theorem due_free {w : Nat} {T : Tx} (h : OkT T) : ∀ a ∈ due w T, 10 ∉ a := by
  intro a ha
  obtain ⟨p, hp, rfl⟩ := List.mem_map.mp ha
  exact written_free (allRows_ok h p hp)
theorem due_ne (w : Nat) (T : Tx) : due w T ≠ [] := by
  unfold due; intro e; exact allRows_ne w T (List.map_eq_nil_iff.mp e)
theorem decLine_written {p : Row} (h : OkC p.1) : decLine (written p) = if p.2 then p.1 else p.1 ++ [10] := by
  unfold decLine; rw [rstrip_id (written_last h), decGo_written h]

/-- 2: what was written is read back -/
theorem decode_body {w : Nat} {T : Tx} (h : OkT T) : decode (bodyOf w T) = T := by
  refine decode_jn (due_ne w T) (due_free h) ?_
  unfold due
  rw [flatMap_map', flatMap_congr' (g := fun p => if p.2 then p.1 else p.1 ++ [10]) fun p hp => decLine_written (allRows_ok h p hp)]
  exact allRows_flat w T

def commentL (l : Tx) : Tx := if rstripL l = [] then [35] else 35 :: 32 :: rstripL l
theorem commentL_eq (l : Tx) : commentL l = marked (rstripL l) := rfl
/-- 3: the commented rows -/
theorem comment_due {w : Nat} {T : Tx} (h : OkT T) : (lns (bodyOf w T)).map commentL = (due w T).map marked := by
  unfold bodyOf
  rw [lns_jn (due_ne w T) (due_free h)]
  refine List.map_congr_left fun a ha => ?_
  obtain ⟨p, hp, rfl⟩ := List.mem_map.mp ha
  rw [commentL_eq, rstrip_id (written_last (allRows_ok h p hp))]
theorem marked_last {r : Tx} (h : ∀ c, r.getLast? = some c → wsp c = false) : ∀ c, (marked r).getLast? = some c → wsp c = false := by
  have W := wsp_facts
  intro c
  unfold marked
  split
  · simp; rintro rfl; exact W.2.2.2.2.1
  · rename_i hr
    cases e : r.getLast? with
    | none => exact absurd (List.getLast?_eq_none_iff.mp e) hr
    | some d => simp [List.getLast?_cons, e]; rintro rfl; exact h d e
theorem written_nil {p : Row} (h : OkC p.1) : written p = [] ↔ p = ([], false) := by
  obtain ⟨l, b⟩ := p
  constructor
  · intro e
    have := decGo_written h
    rw [e] at this
    cases b with
    | true => unfold written at e; simp at e
    | false => simp [decGo] at this; rw [this]
  · intro e; rw [e]; rfl
theorem decLine_marked {p : Row} (h : OkC p.1) : decLine (marked (written p)) = shownOf p := by
  unfold decLine
  rw [rstrip_id (marked_last (written_last h))]
  have hd := decGo_written h
  by_cases hn : written p = []
  · have := (written_nil h).mp hn
    rw [hn, this]; simp [marked, decGo, shownOf]
  · unfold marked
    rw [if_neg hn]
    have : decGo (35 :: 32 :: written p) = 35 :: 32 :: decGo (written p) := by rw [decGo_plain (by decide), decGo_plain (by decide)]
    rw [this, hd]
    unfold shownOf marked
    split
    · rfl
    · rename_i hp
      have : p.1 ≠ [] := by
        intro e
        exact hn ((written_nil h).mpr (by obtain ⟨l, b⟩ := p; simp at e hp ⊢; exact ⟨e, hp⟩))
      rw [if_neg this]; rfl
theorem marked_free {r : Tx} (h : 10 ∉ r) : 10 ∉ marked r := by unfold marked; split <;> simp [h]
theorem lastRows_last (w : Nat) (r : Tx) : ∃ t l, lastRows w r = t ++ [(l, false)] := by
  unfold lastRows
  split
  · exact ⟨[_], _, rfl⟩
  · split
    · exact ⟨[_], _, rfl⟩
    · exact ⟨[], _, rfl⟩
theorem rows_last (w : Nat) (r : Tx) : ∃ t l, rows w r = t ++ [(l, false)] := by
  induction r using rows.induct (w := w) with
  | case1 r h ih =>
    obtain ⟨t, l, e⟩ := ih
    exact ⟨_ :: t, l, by rw [rows, dif_pos h, e]; rfl⟩
  | case2 r h => rw [rows, dif_neg h]; exact lastRows_last w r
theorem flat_last {t : List Tx} (w : Nat) (hn : t ≠ []) : ∃ t' l, t.flatMap (rows w) = t' ++ [(l, false)] := by
  induction t with
  | nil => exact absurd rfl hn
  | cons a t ih =>
    cases t with
    | nil => obtain ⟨t', l, e⟩ := rows_last w a; exact ⟨t', l, by simp [e]⟩
    | cons b t =>
      obtain ⟨t', l, e⟩ := ih (by simp)
      exact ⟨rows w a ++ t', l, by rw [List.flatMap_cons, e, List.append_assoc]⟩
/-- 4: decode of the commented rows -/
theorem decode_marked {w : Nat} {T : Tx} (h : OkT T) : decode (jn ((due w T).map marked)) = ((allRows w T).flatMap shownOf).dropLast := by
  refine decode_jn (by simp [due_ne]) ?_ ?_
  · intro a ha
    obtain ⟨b, hb, rfl⟩ := List.mem_map.mp ha
    exact marked_free (due_free h b hb)
  · unfold due
    rw [List.map_map, flatMap_map']
    show (allRows w T).flatMap (fun p => decLine (marked (written p))) = _
    rw [flatMap_congr' (g := shownOf) fun p hp => decLine_marked (allRows_ok h p hp)]
    obtain ⟨t', l, e⟩ := flat_last (t := lns T) w (lns_ne T)
    have e' : allRows w T = t' ++ [(l, false)] := e
    rw [e', List.flatMap_append]
    have : List.flatMap shownOf [(l, false)] = marked l ++ [10] := by simp [shownOf]
    rw [this, ← List.append_assoc, List.dropLast_concat]

/-! ## 5, 6: the other way round -/
def keptW (c : Nat) : Bool := c == 32 || c == 9 || c == 160
def keptL (l : Tx) : Tx := (l.reverse.dropWhile keptW).reverse
theorem dropWhile_congr' {α : Type} {p q : α → Bool} : ∀ {l : List α}, (∀ a ∈ l, p a = q a) → l.dropWhile p = l.dropWhile q
  | [], _ => rfl
  | a :: l, h => by
    rw [List.dropWhile_cons, List.dropWhile_cons, h a (by simp), dropWhile_congr' fun x hx => h x (by simp [hx])]
theorem kept_eq {l : Tx} (h : OkC l) : keptL l = rstripL l := by
  have W := wsp_facts
  unfold keptL rstripL
  rw [dropWhile_congr' fun a ha => ?_]
  rcases okC_cases (h a (by simpa using ha)) with rfl | rfl | rfl | rfl | rfl | rfl | rfl <;> simp [keptW, W]
theorem marked_drop (r : Tx) : (marked r).drop 2 = r := by
  unfold marked; split
  · rename_i h; simp [h]
  · rfl
theorem rstrip_rstrip (l : Tx) : rstripL (rstripL l) = rstripL l := by
  refine rstrip_id fun c hc => ?_
  unfold rstripL at hc
  rw [List.getLast?_reverse] at hc
  cases e : l.reverse.dropWhile wsp with
  | nil => rw [e] at hc; simp at hc
  | cons a t =>
    rw [e] at hc
    have : a = c := by simpa using hc
    subst this
    have h1 := List.head?_dropWhile_not wsp l.reverse
    rw [e] at h1
    simpa using h1
theorem rstrip_mem {l : Tx} {c : Nat} (h : c ∈ rstripL l) : c ∈ l := by
  unfold rstripL at h
  have := (List.dropWhile_sublist wsp).mem (List.mem_reverse.mp h)
  simpa using this
theorem decLine_rstrip (l : Tx) : decLine (rstripL l) = decLine l := by unfold decLine; rw [rstrip_rstrip]
theorem fin1_free {T d : Tx} (h : T.getLast? ≠ some 10) : fin1 T (d ++ [10]) = d := by
  unfold fin1; rw [if_pos ⟨h, by simp⟩]; simp
/-- 5: decode does not see the loss -/
theorem decode_stripped (T : Tx) : decode (jn ((lns T).map rstripL)) = decode T := by
  obtain ⟨t, b, e⟩ : ∃ t b, lns T = t ++ [b] := ⟨(lns T).dropLast, (lns T).getLast (lns_ne T), (List.dropLast_concat_getLast (lns_ne T)).symm⟩
  have hf : ∀ a ∈ t ++ [b], 10 ∉ a := fun a ha => (lns_mem a (e ▸ ha)).1
  have hfs : ∀ a ∈ (t ++ [b]).map rstripL, 10 ∉ a := by
    intro a ha
    obtain ⟨x, hx, rfl⟩ := List.mem_map.mp ha
    exact fun hm => hf x hx (rstrip_mem hm)
  have hT : T = jn (t ++ [b]) := by rw [← e, jn_lns]
  have hl : lns (jn ((t ++ [b]).map rstripL)) = (t ++ [b]).map rstripL := lns_jn (by simp) hfs
  have flat : ∀ u : List Tx, (u.map rstripL).flatMap decLine = u.flatMap decLine := fun u => by
    rw [flatMap_map']; exact flatMap_congr' fun a _ => decLine_rstrip a
  rw [e]
  unfold decode slns
  rw [hl, e]
  by_cases hb : b = []
  · subst hb
    have r0 : rstripL [] = [] := rfl
    rw [List.map_append, List.map_cons, List.map_nil, r0]
    by_cases ht : t = []
    · subst ht; rw [hT]; rfl
    · have h1 := jn_last_nil ht
      have h2 := jn_last_nil (t := t.map rstripL) (by simp [ht])
      rw [hT]
      rw [if_neg (c := jn (t.map rstripL ++ [[]]) = []) (by intro q; rw [q] at h2; simp at h2), if_neg (c := jn (t ++ [[]]) = []) (by intro q; rw [q] at h1; simp at h1)]
      simp only [List.getLast?_concat, if_true, List.dropLast_concat]
      rw [flat]
      unfold fin1
      rw [if_neg (by rw [h2]; simp), if_neg (by rw [h1]; simp)]
  · have h1 := jn_last (t := t) hb
    have hbl : b.getLast? ≠ some 10 := fun q => hf b (by simp) (List.mem_of_getLast? q)
    have hbn : b.getLast? ≠ none := fun q => hb (List.getLast?_eq_none_iff.mp q)
    have hTn : ¬ T = [] := by intro q; rw [hT] at q; rw [q] at h1; exact hbn h1.symm
    have hT10 : T.getLast? ≠ some 10 := by rw [hT, h1]; exact hbl
    rw [if_neg hTn, if_neg (show ¬ (t ++ [b]).getLast? = some [] by simp [hb])]
    rw [List.map_append, List.map_cons, List.map_nil]
    by_cases hs : rstripL b = []
    · rw [hs]
      have hdb : decLine b = [10] := by unfold decLine; rw [hs]; rfl
      have hR : (t ++ [b]).flatMap decLine = t.flatMap decLine ++ [10] := by rw [List.flatMap_append]; simp [hdb]
      rw [hR, fin1_free hT10]
      by_cases ht : t = []
      · subst ht; rfl
      · have h2 := jn_last_nil (t := t.map rstripL) (by simp [ht])
        rw [if_neg (by intro q; rw [q] at h2; simp at h2)]
        simp only [List.getLast?_concat, if_true, List.dropLast_concat]
        rw [flat]
        unfold fin1
        rw [if_neg (by rw [h2]; simp)]
    · have h2 := jn_last (t := t.map rstripL) hs
      have hsl : (rstripL b).getLast? ≠ some 10 := fun q => hfs _ (by simp) (List.mem_of_getLast? q)
      have hsn : (rstripL b).getLast? ≠ none := fun q => hs (List.getLast?_eq_none_iff.mp q)
      rw [if_neg (by intro q; rw [q] at h2; exact hsn h2.symm), if_neg (by simp [hs])]
      have hf2 : (t.map rstripL ++ [rstripL b]).flatMap decLine = (t ++ [b]).flatMap decLine := by
        have := flat (t ++ [b]); rwa [List.map_append, List.map_cons, List.map_nil] at this
      rw [hf2]
      unfold fin1
      rw [h2]
      by_cases hd : ((t ++ [b]).flatMap decLine).getLast? = some 10
      · rw [if_pos ⟨hsl, hd⟩, if_pos ⟨hT10, hd⟩]
      · rw [if_neg (fun q => hd q.2), if_neg (fun q => hd q.2)]
/-- the noted text -/
def notedOf (T : Tx) : Tx := jn ((lns T).map commentL)
theorem noted_ok {T : Tx} (h : OkT T) : OkT (notedOf T) := by
  have hj : ∀ (t : List Tx), (∀ a ∈ t, OkT a) → OkT (jn t) := by
    intro t
    induction t with
    | nil => intro _ c hc; simp [jn] at hc
    | cons a t ih =>
      intro h
      cases t with
      | nil => exact h a (by simp)
      | cons b t =>
        intro c hc
        rw [jn_cons _ (by simp)] at hc
        rcases List.mem_append.mp hc with hc | hc
        · exact h a (by simp) c hc
        · rcases List.mem_cons.mp hc with rfl | hc
          · rfl
          · exact ih (fun x hx => h x (by simp [hx])) c hc
  refine hj _ fun a ha => ?_
  obtain ⟨x, hx, rfl⟩ := List.mem_map.mp ha
  intro c hc
  rw [commentL_eq] at hc
  have hr : ∀ c ∈ rstripL x, okT c = true := fun c hc => by
    have := lns_ok h x hx c (rstrip_mem hc); simp [okT, this]
  unfold marked at hc
  split at hc
  · simp at hc; rw [hc]; rfl
  · rcases List.mem_cons.mp hc with rfl | hc
    · rfl
    · rcases List.mem_cons.mp hc with rfl | hc
      · rfl
      · exact hr c hc
end Mine
end
section
open PySem PySem.W PyProof.Rows
set_option maxRecDepth 100000
set_option maxHeartbeats 0
set_option linter.unusedVariables false
noncomputable section
namespace Mine

abbrev pw : Program := PySem.Challenge.pw_re0076_01
def s (l : List Nat) : Str := ⟨⟨l⟩⟩
def e (P : Params) (k : Str) (t : Nat) (v : Value) : DictEntry := ⟨PyData.keyHash P k, .str k t, v⟩
def stmt (p : Program) (i : Nat) : Stmt := (p.main.body[i]?).getD (.Pass ⟨0, 0, 0, 0⟩)
def fd (st : Stmt) (g : Nat) (dflt mod code : Value) : FuncData := match st with
  | .FunctionDef name args body _ _ _ scope _ _ _ => { name := name, qualname := name, params := args, body := .stmts body, scope := scope, globals := g, closure := [], defaults := dflt, kwdefaults := .none, doc := .none, pyModule := mod, annotations := none, code := code, closureTuple := .none, builtins := 0 }
  | _ => { name := s [], qualname := s [], params := default, body := .stmts [], scope := default, globals := 0, closure := [], defaults := .none, kwdefaults := .none }
def hx (n : Nat) : Nat := bif Nat.blt n 10 then 48 + n else 55 + n
def item (k : Nat) : Value := .str (s [61, hx (k / 16), hx (k % 16)]) (206 + 4 * k)
def itemsFrom : Nat → Nat → List Value
  | _, 0 => []
  | k, n + 1 => item k :: itemsFrom (k + 1) n
def items (n : Nat) : List Value := itemsFrom 0 n
def upd : List Value → List Nat → Nat → List Value
  | l, [], _ => l
  | l, b :: r, t => upd (l.set b (.str (s [b]) t)) r (t + 3)
def b13 : List Nat := [45, 33, 42, 43, 47, 97, 98, 99, 100, 101, 102, 103, 104, 105, 106, 107, 108, 109, 110, 111, 112, 113, 114, 115, 116, 117, 118, 119, 120, 121, 122, 65, 66, 67, 68, 69, 70, 71, 72, 73, 74, 75, 76, 77, 78, 79, 80, 81, 82, 83, 84, 85, 86, 87, 88, 89, 90, 48, 49, 50, 51, 52, 53, 54, 55, 56, 57]
def b15 : List Nat := [32, 33, 34, 35, 36, 37, 38, 39, 40, 41, 42, 43, 44, 45, 46, 47, 48, 49, 50, 51, 52, 53, 54, 55, 56, 57, 58, 59, 60, 62, 63, 64, 65, 66, 67, 68, 69, 70, 71, 72, 73, 74, 75, 76, 77, 78, 79, 80, 81, 82, 83, 84, 85, 86, 87, 88, 89, 90, 91, 92, 93, 94, 95, 96, 97, 98, 99, 100, 101, 102, 103, 104, 105, 106, 107, 108, 109, 110, 111, 112, 113, 114, 115, 116, 117, 118, 119, 120, 121, 122, 123, 124, 125, 126, 9]
def by8 (l : List Nat) : Array UInt8 := ⟨l.map UInt8.ofNat⟩
def menv (p : Program) : Env := { scope := p.main.scope, locals := mainNs, globals := mainNs, cells := [], code := .ref 13, frame := some 14 }
def cE (p : Program) : Code := .body (behindTheImports p) (menv p)
def Bf : List Frame := [topFrame ⟨0, 0, 0, 0⟩]
def sT (t : BT) (n k : Nat) (os : OsState) : SharedT := ⟨t, n, {}, ⟨[]⟩, {}, k, os⟩
def seg (p : Program) (i n : Nat) : List Stmt := ((behindTheImports p).drop i).take n
/-- the comprehension's parts -/
def cmp4 (p : Program) : Expr := match stmt p 4 with
  | .Assign _ v _ => v
  | _ => .Constant .none 0 ⟨0, 0, 0, 0⟩
def scp4 (p : Program) : Scope := match cmp4 p with
  | .ListComp _ _ sc _ => sc
  | _ => default
def C4 (p : Program) : Code := .compLoop (cmp4 p) 0 (.ref 23) (.ref 24) (compEnvC (scp4 p) [] 25 (menv p))
def T4 (den : Code → Sem Fin) (p : Program) (q : Pos) (F : Frame) : Thread := ⟨den (C4 p), C4 p, q, F :: Bf⟩
def q4 (k : Nat) : Pos := match k with | 0 => ⟨10, 36, 10, 46⟩ | _ => ⟨10, 15, 10, 26⟩
def o23k (k : Nat) : Obj := ⟨.type "range_iterator", none, .fields ⟨[.int (Int.ofNat k) 0, .int (Int.ofNat (256 - k)) 0, .int 1 0]⟩, ⟨[]⟩⟩
def o24k (k : Nat) : Obj := ⟨.type "list", none, .seq ⟨items k⟩ k, ⟨[]⟩⟩
def o25k (P : Params) (k : Nat) : Obj := match k with
  | 0 => ⟨.type "dict", none, .dict ⟨[]⟩ 0, ⟨[]⟩⟩
  | k + 1 => ⟨.type "dict", none, .dict ⟨[e P (s [99]) 204 (.int (Int.ofNat k) (203 + 4 * k))]⟩ 1, ⟨[]⟩⟩

def whole (ex : List Stmt → Env → Sem Flow) (p : Program) (i n : Nat) (q : Pos) : Thread := ⟨(ex (seg p i n) (menv p)).wrap doneF deadEnd id id, cE p, q, Bf⟩
def C13 (p : Program) (i : Nat) (it : Addr) : Code := match stmt p i with
  | .For t _ b o _ => .forLoop t (.ref it) b o (menv p)
  | _ => .body [] (menv p)
def TF (den : Code → Sem Fin) (p : Program) (i : Nat) (it : Addr) (q : Pos) (F : Frame) : Thread := ⟨den (C13 p i it), C13 p i it, q, F :: Bf⟩
def q13 (k : Nat) : Pos := match k with | 0 => ⟨19, 9, 19, 74⟩ | _ => ⟨20, 4, 20, 25⟩
def q15 (k : Nat) : Pos := match k with | 0 => ⟨22, 9, 22, 110⟩ | _ => ⟨23, 4, 23, 23⟩
def o32k (k : Nat) : Obj := ⟨.type "bytes_iterator", none, .fields ⟨[.bytes (by8 b13) 1251, .int (Int.ofNat k) 0]⟩, ⟨[]⟩⟩
def o35k (k : Nat) : Obj := ⟨.type "bytes_iterator", none, .fields ⟨[.bytes (by8 b15) 1456, .int (Int.ofNat k) 0]⟩, ⟨[]⟩⟩
def o29k (k : Nat) : Obj := ⟨.type "list", none, .seq ⟨upd (items 256) (b13.take k) 1254⟩ 0, ⟨[]⟩⟩
def o31k (k : Nat) : Obj := ⟨.type "list", none, .seq ⟨upd (items 256) (b15.take k) 1459⟩ 0, ⟨[]⟩⟩

def ns12 (P : Params) : List DictEntry := [e P (s [95, 95, 110, 97, 109, 101, 95, 95]) 165 (.str (s [99, 112, 121, 51, 49, 51, 46, 101, 109, 97, 105, 108, 46, 113, 117, 111, 112, 114, 105, 109, 105, 109, 101]) 1243), e P (s [95, 95, 100, 111, 99, 95, 95]) 166 (.none), e P (s [95, 95, 112, 97, 99, 107, 97, 103, 101, 95, 95]) 167 (.none), e P (s [95, 95, 108, 111, 97, 100, 101, 114, 95, 95]) 168 (.builtin "__main__.__loader__#opaque"), e P (s [95, 95, 115, 112, 101, 99, 95, 95]) 169 (.none), e P (s [95, 95, 97, 110, 110, 111, 116, 97, 116, 105, 111, 110, 115, 95, 95]) 170 (.ref 6), e P (s [95, 95, 98, 117, 105, 108, 116, 105, 110, 115, 95, 95]) 171 (.ref 4), e P (s [95, 95, 102, 105, 108, 101, 95, 95]) 173 (.str (s [47, 99, 108, 97, 105, 109, 47, 99, 117, 116, 46, 112, 121]) 172), e P (s [95, 95, 99, 97, 99, 104, 101, 100, 95, 95]) 174 (.none), e P (s [95, 99, 111, 109, 109, 101, 110, 116, 95, 108, 105, 110, 101]) 195 (.ref 21), e P (s [67, 82, 76, 70]) 197 (.str (s [13, 10]) 196), e P (s [78, 76]) 199 (.str (s [10]) 198), e P (s [95, 81, 85, 79, 80, 82, 73, 95, 77, 65, 80]) 1227 (.ref 24), e P (s [95, 81, 85, 79, 80, 82, 73, 95, 72, 69, 65, 68, 69, 82, 95, 77, 65, 80]) 1228 (.ref 29), e P (s [95, 81, 85, 79, 80, 82, 73, 95, 66, 79, 68, 89, 95, 77, 65, 80]) 1229 (.ref 31), e P (s [97, 115, 99, 105, 105, 95, 108, 111, 119, 101, 114, 99, 97, 115, 101]) 1231 (.str (s [97, 98, 99, 100, 101, 102, 103, 104, 105, 106, 107, 108, 109, 110, 111, 112, 113, 114, 115, 116, 117, 118, 119, 120, 121, 122]) 1230), e P (s [97, 115, 99, 105, 105, 95, 117, 112, 112, 101, 114, 99, 97, 115, 101]) 1233 (.str (s [65, 66, 67, 68, 69, 70, 71, 72, 73, 74, 75, 76, 77, 78, 79, 80, 81, 82, 83, 84, 85, 86, 87, 88, 89, 90]) 1232), e P (s [97, 115, 99, 105, 105, 95, 108, 101, 116, 116, 101, 114, 115]) 1235 (.str (s [97, 98, 99, 100, 101, 102, 103, 104, 105, 106, 107, 108, 109, 110, 111, 112, 113, 114, 115, 116, 117, 118, 119, 120, 121, 122, 65, 66, 67, 68, 69, 70, 71, 72, 73, 74, 75, 76, 77, 78, 79, 80, 81, 82, 83, 84, 85, 86, 87, 88, 89, 90]) 1234), e P (s [100, 105, 103, 105, 116, 115]) 1237 (.str (s [48, 49, 50, 51, 52, 53, 54, 55, 56, 57]) 1236), e P (s [104, 101, 120, 100, 105, 103, 105, 116, 115]) 1242 (.str (s [48, 49, 50, 51, 52, 53, 54, 55, 56, 57, 97, 98, 99, 100, 101, 102, 65, 66, 67, 68, 69, 70]) 1241)]
def o3f13 (P : Params) (k : Nat) : Obj := match k with
  | 0 => ⟨.type "dict", none, .dict ⟨ns12 P⟩ 20, ⟨[]⟩⟩
  | k + 1 => ⟨.type "dict", none, .dict ⟨ns12 P ++ [e P (s [99]) 1253 (.int (Int.ofNat (b13.getD k 0)) (1252 + 3 * k))]⟩ 21, ⟨[]⟩⟩
def o3f15 (P : Params) (k : Nat) : Obj := match k with
  | 0 => ⟨.type "dict", none, .dict ⟨ns12 P ++ [e P (s [99]) 1253 (.int 57 1450)]⟩ 21, ⟨[]⟩⟩
  | k + 1 => ⟨.type "dict", none, .dict ⟨ns12 P ++ [e P (s [99]) 1253 (.int (Int.ofNat (b15.getD k 0)) (1457 + 3 * k))]⟩ 21, ⟨[]⟩⟩
def o3 (p : Program) (P : Params) : Obj := ⟨.type "dict", none, .dict ⟨[e P (s [95, 95, 110, 97, 109, 101, 95, 95]) 165 (.str (s [99, 112, 121, 51, 49, 51, 46, 100, 111, 99, 116, 101, 115, 116]) 187), e P (s [95, 95, 100, 111, 99, 95, 95]) 166 (.none), e P (s [95, 95, 112, 97, 99, 107, 97, 103, 101, 95, 95]) 167 (.none), e P (s [95, 95, 108, 111, 97, 100, 101, 114, 95, 95]) 168 (.builtin "__main__.__loader__#opaque"), e P (s [95, 95, 115, 112, 101, 99, 95, 95]) 169 (.none), e P (s [95, 95, 97, 110, 110, 111, 116, 97, 116, 105, 111, 110, 115, 95, 95]) 170 (.ref 6), e P (s [95, 95, 98, 117, 105, 108, 116, 105, 110, 115, 95, 95]) 171 (.ref 4), e P (s [95, 95, 102, 105, 108, 101, 95, 95]) 173 (.str (s [47, 99, 108, 97, 105, 109, 47, 99, 117, 116, 46, 112, 121]) 172), e P (s [95, 95, 99, 97, 99, 104, 101, 100, 95, 95]) 174 (.none), e P (s [95, 99, 111, 109, 109, 101, 110, 116, 95, 108, 105, 110, 101]) 195 (.ref 21), e P (s [67, 82, 76, 70]) 197 (.str (s [13, 10]) 196), e P (s [78, 76]) 199 (.str (s [10]) 198)]⟩ 12, ⟨[]⟩⟩
def o15 (p : Program) (P : Params) : Obj := ⟨.type "tuple", none, .seq ⟨[]⟩ 0, ⟨[]⟩⟩
def o11 (p : Program) (P : Params) : Obj := ⟨.type "tuple", none, .seq ⟨[]⟩ 0, ⟨[]⟩⟩
def o19 (p : Program) (P : Params) : Obj := ⟨.none, none, .func (fd (stmt p 1) 0 .none .none .none), ⟨[]⟩⟩
def o17 (p : Program) (P : Params) : Obj := ⟨.type "tuple", none, .seq ⟨[.str (s [108, 105, 110, 101]) 192]⟩ 0, ⟨[]⟩⟩
def o13 (p : Program) (P : Params) : Obj := ⟨.type "code", none, .fields ⟨[.str (s [60, 109, 111, 100, 117, 108, 101, 62]) 182, .str (s [60, 109, 111, 100, 117, 108, 101, 62]) 183, .str (s [47, 99, 108, 97, 105, 109, 47, 99, 117, 116, 46, 112, 121]) 184, .int 1 0, .int 0 0, .int 0 0, .int 0 0, .int 0 0, .ref 11, .bool false, .int 181 0, .ref 12, .none, .none, .none, .none, .int 185 0, .int 1 0, .str (s [47, 99, 108, 97, 105, 109, 47, 99, 117, 116, 46, 112, 121]) 186]⟩, ⟨[]⟩⟩
def o21 (p : Program) (P : Params) : Obj := ⟨.type "function", none, .func (fd (stmt p 1) 3 .none (.str (s [99, 112, 121, 51, 49, 51, 46, 100, 111, 99, 116, 101, 115, 116]) 187) (.ref 20)), ⟨[]⟩⟩
def o16 (p : Program) (P : Params) : Obj := ⟨.none, none, .fields ⟨[]⟩, ⟨[]⟩⟩
def o12 (p : Program) (P : Params) : Obj := ⟨.none, none, .fields ⟨[.int 2 0, .int 0 0, .ref 20]⟩, ⟨[]⟩⟩
def o20 (p : Program) (P : Params) : Obj := ⟨.type "code", none, .fields ⟨[.str (s [95, 99, 111, 109, 109, 101, 110, 116, 95, 108, 105, 110, 101]) 189, .str (s [95, 99, 111, 109, 109, 101, 110, 116, 95, 108, 105, 110, 101]) 190, .str (s [47, 99, 108, 97, 105, 109, 47, 99, 117, 116, 46, 112, 121]) 191, .int 2 0, .int 1 0, .int 0 0, .int 0 0, .int 3 0, .ref 15, .bool true, .int 181 0, .ref 16, .none, .ref 17, .ref 18, .ref 19, .int 193 0, .int 2 0, .str (s [47, 99, 108, 97, 105, 109, 47, 99, 117, 116, 46, 112, 121]) 194]⟩, ⟨[]⟩⟩
def o18 (p : Program) (P : Params) : Obj := ⟨.type "tuple", none, .seq ⟨[]⟩ 0, ⟨[]⟩⟩
def o14 (p : Program) (P : Params) : Obj := ⟨.type "frame", none, .plain, ⟨[some (.ref 13), some (.ref 3), some (.ref 3), none, some (.str (s [95, 95, 109, 97, 105, 110, 95, 95]) 164), none, some (.ref 0)]⟩⟩
def tr3 (p : Program) (P : Params) : BT := (.node (boot_o_0 P) (.node (boot_o_1 P) (.node (o3 p P) (.node (boot_o_7 P) (.node (o15 p P) .nil .nil) .nil) (.node (o11 p P) (.node (o19 p P) .nil .nil) .nil)) (.node (boot_o_5 P) (.node (boot_o_9 P) (.node (o17 p P) .nil .nil) .nil) (.node (o13 p P) (.node (o21 p P) .nil .nil) .nil))) (.node (boot_o_2 P) (.node (boot_o_4 P) (.node (boot_o_8 P) (.node (o16 p P) .nil .nil) .nil) (.node (o12 p P) (.node (o20 p P) .nil .nil) .nil)) (.node (boot_o_6 P) (.node (boot_o_10 P) (.node (o18 p P) .nil .nil) .nil) (.node (o14 p P) .nil .nil))))
def o22 (p : Program) (P : Params) : Obj := ⟨.type "range", none, .fields ⟨[.int 0 201, .int 256 200, .int 1 202]⟩, ⟨[]⟩⟩
def tr4k (p : Program) (P : Params) (k : Nat) : BT := (.node (boot_o_0 P) (.node (boot_o_1 P) (.node (o3 p P) (.node (boot_o_7 P) (.node (o15 p P) .nil .nil) (.node (o23k k) .nil .nil)) (.node (o11 p P) (.node (o19 p P) .nil .nil) .nil)) (.node (boot_o_5 P) (.node (boot_o_9 P) (.node (o17 p P) .nil .nil) (.node (o25k P k) .nil .nil)) (.node (o13 p P) (.node (o21 p P) .nil .nil) .nil))) (.node (boot_o_2 P) (.node (boot_o_4 P) (.node (boot_o_8 P) (.node (o16 p P) .nil .nil) (.node (o24k k) .nil .nil)) (.node (o12 p P) (.node (o20 p P) .nil .nil) .nil)) (.node (boot_o_6 P) (.node (boot_o_10 P) (.node (o18 p P) .nil .nil) .nil) (.node (o14 p P) (.node (o22 p P) .nil .nil) .nil))))
def o3v1 (p : Program) (P : Params) : Obj := ⟨.type "dict", none, .dict ⟨[e P (s [95, 95, 110, 97, 109, 101, 95, 95]) 165 (.str (s [95, 95, 109, 97, 105, 110, 95, 95]) 164), e P (s [95, 95, 100, 111, 99, 95, 95]) 166 (.none), e P (s [95, 95, 112, 97, 99, 107, 97, 103, 101, 95, 95]) 167 (.none), e P (s [95, 95, 108, 111, 97, 100, 101, 114, 95, 95]) 168 (.builtin "__main__.__loader__#opaque"), e P (s [95, 95, 115, 112, 101, 99, 95, 95]) 169 (.none), e P (s [95, 95, 97, 110, 110, 111, 116, 97, 116, 105, 111, 110, 115, 95, 95]) 170 (.ref 6), e P (s [95, 95, 98, 117, 105, 108, 116, 105, 110, 115, 95, 95]) 171 (.ref 4), e P (s [95, 95, 102, 105, 108, 101, 95, 95]) 173 (.str (s [47, 99, 108, 97, 105, 109, 47, 99, 117, 116, 46, 112, 121]) 172), e P (s [95, 95, 99, 97, 99, 104, 101, 100, 95, 95]) 174 (.none)]⟩ 9, ⟨[]⟩⟩
def o12v1 (p : Program) (P : Params) : Obj := ⟨.none, none, .fields ⟨[]⟩, ⟨[]⟩⟩
def trB (p : Program) (P : Params) : BT := (.node (boot_o_0 P) (.node (boot_o_1 P) (.node (o3v1 p P) (.node (boot_o_7 P) .nil .nil) (.node (o11 p P) .nil .nil)) (.node (boot_o_5 P) (.node (boot_o_9 P) .nil .nil) (.node (o13 p P) .nil .nil))) (.node (boot_o_2 P) (.node (boot_o_4 P) (.node (boot_o_8 P) .nil .nil) (.node (o12v1 p P) .nil .nil)) (.node (boot_o_6 P) (.node (boot_o_10 P) .nil .nil) (.node (o14 p P) .nil .nil))))
def o3v2 (p : Program) (P : Params) : Obj := ⟨.type "dict", none, .dict ⟨[e P (s [95, 95, 110, 97, 109, 101, 95, 95]) 165 (.str (s [99, 112, 121, 51, 49, 51, 46, 100, 111, 99, 116, 101, 115, 116]) 187), e P (s [95, 95, 100, 111, 99, 95, 95]) 166 (.none), e P (s [95, 95, 112, 97, 99, 107, 97, 103, 101, 95, 95]) 167 (.none), e P (s [95, 95, 108, 111, 97, 100, 101, 114, 95, 95]) 168 (.builtin "__main__.__loader__#opaque"), e P (s [95, 95, 115, 112, 101, 99, 95, 95]) 169 (.none), e P (s [95, 95, 97, 110, 110, 111, 116, 97, 116, 105, 111, 110, 115, 95, 95]) 170 (.ref 6), e P (s [95, 95, 98, 117, 105, 108, 116, 105, 110, 115, 95, 95]) 171 (.ref 4), e P (s [95, 95, 102, 105, 108, 101, 95, 95]) 173 (.str (s [47, 99, 108, 97, 105, 109, 47, 99, 117, 116, 46, 112, 121]) 172), e P (s [95, 95, 99, 97, 99, 104, 101, 100, 95, 95]) 174 (.none), e P (s [95, 99, 111, 109, 109, 101, 110, 116, 95, 108, 105, 110, 101]) 195 (.ref 21), e P (s [67, 82, 76, 70]) 197 (.str (s [13, 10]) 196), e P (s [78, 76]) 199 (.str (s [10]) 198), e P (s [95, 81, 85, 79, 80, 82, 73, 95, 77, 65, 80]) 1227 (.ref 24)]⟩ 13, ⟨[]⟩⟩
def o23 (p : Program) (P : Params) : Obj := ⟨.type "range_iterator", none, .fields ⟨[.int 256 0, .int 0 0, .int 1 0]⟩, ⟨[]⟩⟩
def o27 (p : Program) (P : Params) : Obj := ⟨.type "StopIteration", none, .fields ⟨[.ref 26, .none, .none, .none, .bool false, .none]⟩, ⟨[]⟩⟩
def o25 (p : Program) (P : Params) : Obj := ⟨.type "dict", none, .dict ⟨[]⟩ 2, ⟨[]⟩⟩
def o24 (p : Program) (P : Params) : Obj := ⟨.type "list", none, .seq ⟨items 256⟩ 256, ⟨[]⟩⟩
def o26 (p : Program) (P : Params) : Obj := ⟨.type "tuple", none, .seq ⟨[]⟩ 0, ⟨[]⟩⟩
def tr4e (p : Program) (P : Params) : BT := (.node (boot_o_0 P) (.node (boot_o_1 P) (.node (o3v2 p P) (.node (boot_o_7 P) (.node (o15 p P) .nil .nil) (.node (o23 p P) .nil .nil)) (.node (o11 p P) (.node (o19 p P) .nil .nil) (.node (o27 p P) .nil .nil))) (.node (boot_o_5 P) (.node (boot_o_9 P) (.node (o17 p P) .nil .nil) (.node (o25 p P) .nil .nil)) (.node (o13 p P) (.node (o21 p P) .nil .nil) .nil))) (.node (boot_o_2 P) (.node (boot_o_4 P) (.node (boot_o_8 P) (.node (o16 p P) .nil .nil) (.node (o24 p P) .nil .nil)) (.node (o12 p P) (.node (o20 p P) .nil .nil) .nil)) (.node (boot_o_6 P) (.node (boot_o_10 P) (.node (o18 p P) .nil .nil) (.node (o26 p P) .nil .nil)) (.node (o14 p P) (.node (o22 p P) .nil .nil) .nil))))
def o3v3 (p : Program) (P : Params) : Obj := ⟨.type "dict", none, .dict ⟨[e P (s [95, 95, 110, 97, 109, 101, 95, 95]) 165 (.str (s [99, 112, 121, 51, 49, 51, 46, 101, 109, 97, 105, 108, 46, 113, 117, 111, 112, 114, 105, 109, 105, 109, 101]) 1243), e P (s [95, 95, 100, 111, 99, 95, 95]) 166 (.none), e P (s [95, 95, 112, 97, 99, 107, 97, 103, 101, 95, 95]) 167 (.none), e P (s [95, 95, 108, 111, 97, 100, 101, 114, 95, 95]) 168 (.builtin "__main__.__loader__#opaque"), e P (s [95, 95, 115, 112, 101, 99, 95, 95]) 169 (.none), e P (s [95, 95, 97, 110, 110, 111, 116, 97, 116, 105, 111, 110, 115, 95, 95]) 170 (.ref 6), e P (s [95, 95, 98, 117, 105, 108, 116, 105, 110, 115, 95, 95]) 171 (.ref 4), e P (s [95, 95, 102, 105, 108, 101, 95, 95]) 173 (.str (s [47, 99, 108, 97, 105, 109, 47, 99, 117, 116, 46, 112, 121]) 172), e P (s [95, 95, 99, 97, 99, 104, 101, 100, 95, 95]) 174 (.none), e P (s [95, 99, 111, 109, 109, 101, 110, 116, 95, 108, 105, 110, 101]) 195 (.ref 21), e P (s [67, 82, 76, 70]) 197 (.str (s [13, 10]) 196), e P (s [78, 76]) 199 (.str (s [10]) 198), e P (s [95, 81, 85, 79, 80, 82, 73, 95, 77, 65, 80]) 1227 (.ref 24), e P (s [95, 81, 85, 79, 80, 82, 73, 95, 72, 69, 65, 68, 69, 82, 95, 77, 65, 80]) 1228 (.ref 29), e P (s [95, 81, 85, 79, 80, 82, 73, 95, 66, 79, 68, 89, 95, 77, 65, 80]) 1229 (.ref 31), e P (s [97, 115, 99, 105, 105, 95, 108, 111, 119, 101, 114, 99, 97, 115, 101]) 1231 (.str (s [97, 98, 99, 100, 101, 102, 103, 104, 105, 106, 107, 108, 109, 110, 111, 112, 113, 114, 115, 116, 117, 118, 119, 120, 121, 122]) 1230), e P (s [97, 115, 99, 105, 105, 95, 117, 112, 112, 101, 114, 99, 97, 115, 101]) 1233 (.str (s [65, 66, 67, 68, 69, 70, 71, 72, 73, 74, 75, 76, 77, 78, 79, 80, 81, 82, 83, 84, 85, 86, 87, 88, 89, 90]) 1232), e P (s [97, 115, 99, 105, 105, 95, 108, 101, 116, 116, 101, 114, 115]) 1235 (.str (s [97, 98, 99, 100, 101, 102, 103, 104, 105, 106, 107, 108, 109, 110, 111, 112, 113, 114, 115, 116, 117, 118, 119, 120, 121, 122, 65, 66, 67, 68, 69, 70, 71, 72, 73, 74, 75, 76, 77, 78, 79, 80, 81, 82, 83, 84, 85, 86, 87, 88, 89, 90]) 1234), e P (s [100, 105, 103, 105, 116, 115]) 1237 (.str (s [48, 49, 50, 51, 52, 53, 54, 55, 56, 57]) 1236), e P (s [104, 101, 120, 100, 105, 103, 105, 116, 115]) 1242 (.str (s [48, 49, 50, 51, 52, 53, 54, 55, 56, 57, 97, 98, 99, 100, 101, 102, 65, 66, 67, 68, 69, 70]) 1241)]⟩ 20, ⟨[]⟩⟩
def o31 (p : Program) (P : Params) : Obj := ⟨.type "list", none, .seq ⟨items 256⟩ 0, ⟨[]⟩⟩
def o29 (p : Program) (P : Params) : Obj := ⟨.type "list", none, .seq ⟨items 256⟩ 0, ⟨[]⟩⟩
def o28 (p : Program) (P : Params) : Obj := ⟨.type "slice", none, .fields ⟨[.none, .none, .none]⟩, ⟨[]⟩⟩
def o30 (p : Program) (P : Params) : Obj := ⟨.type "slice", none, .fields ⟨[.none, .none, .none]⟩, ⟨[]⟩⟩
def tr12 (p : Program) (P : Params) : BT := (.node (boot_o_0 P) (.node (boot_o_1 P) (.node (o3v3 p P) (.node (boot_o_7 P) (.node (o15 p P) (.node (o31 p P) .nil .nil) .nil) (.node (o23 p P) .nil .nil)) (.node (o11 p P) (.node (o19 p P) .nil .nil) (.node (o27 p P) .nil .nil))) (.node (boot_o_5 P) (.node (boot_o_9 P) (.node (o17 p P) .nil .nil) (.node (o25 p P) .nil .nil)) (.node (o13 p P) (.node (o21 p P) .nil .nil) (.node (o29 p P) .nil .nil)))) (.node (boot_o_2 P) (.node (boot_o_4 P) (.node (boot_o_8 P) (.node (o16 p P) .nil .nil) (.node (o24 p P) .nil .nil)) (.node (o12 p P) (.node (o20 p P) .nil .nil) (.node (o28 p P) .nil .nil))) (.node (boot_o_6 P) (.node (boot_o_10 P) (.node (o18 p P) .nil .nil) (.node (o26 p P) .nil .nil)) (.node (o14 p P) (.node (o22 p P) .nil .nil) (.node (o30 p P) .nil .nil)))))
def tr13k (p : Program) (P : Params) (k : Nat) : BT := (.node (boot_o_0 P) (.node (boot_o_1 P) (.node (o3f13 P k) (.node (boot_o_7 P) (.node (o15 p P) (.node (o31 p P) .nil .nil) .nil) (.node (o23 p P) .nil .nil)) (.node (o11 p P) (.node (o19 p P) .nil .nil) (.node (o27 p P) .nil .nil))) (.node (boot_o_5 P) (.node (boot_o_9 P) (.node (o17 p P) .nil .nil) (.node (o25 p P) .nil .nil)) (.node (o13 p P) (.node (o21 p P) .nil .nil) (.node (o29k k) .nil .nil)))) (.node (boot_o_2 P) (.node (boot_o_4 P) (.node (boot_o_8 P) (.node (o16 p P) (.node (o32k k) .nil .nil) .nil) (.node (o24 p P) .nil .nil)) (.node (o12 p P) (.node (o20 p P) .nil .nil) (.node (o28 p P) .nil .nil))) (.node (boot_o_6 P) (.node (boot_o_10 P) (.node (o18 p P) .nil .nil) (.node (o26 p P) .nil .nil)) (.node (o14 p P) (.node (o22 p P) .nil .nil) (.node (o30 p P) .nil .nil)))))
def o3v4 (p : Program) (P : Params) : Obj := ⟨.type "dict", none, .dict ⟨[e P (s [95, 95, 110, 97, 109, 101, 95, 95]) 165 (.str (s [99, 112, 121, 51, 49, 51, 46, 101, 109, 97, 105, 108, 46, 113, 117, 111, 112, 114, 105, 109, 105, 109, 101]) 1243), e P (s [95, 95, 100, 111, 99, 95, 95]) 166 (.none), e P (s [95, 95, 112, 97, 99, 107, 97, 103, 101, 95, 95]) 167 (.none), e P (s [95, 95, 108, 111, 97, 100, 101, 114, 95, 95]) 168 (.builtin "__main__.__loader__#opaque"), e P (s [95, 95, 115, 112, 101, 99, 95, 95]) 169 (.none), e P (s [95, 95, 97, 110, 110, 111, 116, 97, 116, 105, 111, 110, 115, 95, 95]) 170 (.ref 6), e P (s [95, 95, 98, 117, 105, 108, 116, 105, 110, 115, 95, 95]) 171 (.ref 4), e P (s [95, 95, 102, 105, 108, 101, 95, 95]) 173 (.str (s [47, 99, 108, 97, 105, 109, 47, 99, 117, 116, 46, 112, 121]) 172), e P (s [95, 95, 99, 97, 99, 104, 101, 100, 95, 95]) 174 (.none), e P (s [95, 99, 111, 109, 109, 101, 110, 116, 95, 108, 105, 110, 101]) 195 (.ref 21), e P (s [67, 82, 76, 70]) 197 (.str (s [13, 10]) 196), e P (s [78, 76]) 199 (.str (s [10]) 198), e P (s [95, 81, 85, 79, 80, 82, 73, 95, 77, 65, 80]) 1227 (.ref 24), e P (s [95, 81, 85, 79, 80, 82, 73, 95, 72, 69, 65, 68, 69, 82, 95, 77, 65, 80]) 1228 (.ref 29), e P (s [95, 81, 85, 79, 80, 82, 73, 95, 66, 79, 68, 89, 95, 77, 65, 80]) 1229 (.ref 31), e P (s [97, 115, 99, 105, 105, 95, 108, 111, 119, 101, 114, 99, 97, 115, 101]) 1231 (.str (s [97, 98, 99, 100, 101, 102, 103, 104, 105, 106, 107, 108, 109, 110, 111, 112, 113, 114, 115, 116, 117, 118, 119, 120, 121, 122]) 1230), e P (s [97, 115, 99, 105, 105, 95, 117, 112, 112, 101, 114, 99, 97, 115, 101]) 1233 (.str (s [65, 66, 67, 68, 69, 70, 71, 72, 73, 74, 75, 76, 77, 78, 79, 80, 81, 82, 83, 84, 85, 86, 87, 88, 89, 90]) 1232), e P (s [97, 115, 99, 105, 105, 95, 108, 101, 116, 116, 101, 114, 115]) 1235 (.str (s [97, 98, 99, 100, 101, 102, 103, 104, 105, 106, 107, 108, 109, 110, 111, 112, 113, 114, 115, 116, 117, 118, 119, 120, 121, 122, 65, 66, 67, 68, 69, 70, 71, 72, 73, 74, 75, 76, 77, 78, 79, 80, 81, 82, 83, 84, 85, 86, 87, 88, 89, 90]) 1234), e P (s [100, 105, 103, 105, 116, 115]) 1237 (.str (s [48, 49, 50, 51, 52, 53, 54, 55, 56, 57]) 1236), e P (s [104, 101, 120, 100, 105, 103, 105, 116, 115]) 1242 (.str (s [48, 49, 50, 51, 52, 53, 54, 55, 56, 57, 97, 98, 99, 100, 101, 102, 65, 66, 67, 68, 69, 70]) 1241), e P (s [99]) 1253 (.int 57 1450)]⟩ 21, ⟨[]⟩⟩
def o33 (p : Program) (P : Params) : Obj := ⟨.type "tuple", none, .seq ⟨[]⟩ 0, ⟨[]⟩⟩
def o29v1 (p : Program) (P : Params) : Obj := ⟨.type "list", none, .seq ⟨upd (items 256) b13 1254⟩ 0, ⟨[]⟩⟩
def o32 (p : Program) (P : Params) : Obj := ⟨.type "bytes_iterator", none, .fields ⟨[.none, .int 67 0]⟩, ⟨[]⟩⟩
def o34 (p : Program) (P : Params) : Obj := ⟨.type "StopIteration", none, .fields ⟨[.ref 33, .none, .none, .none, .bool false, .none]⟩, ⟨[]⟩⟩
def tr13e (p : Program) (P : Params) : BT := (.node (boot_o_0 P) (.node (boot_o_1 P) (.node (o3v4 p P) (.node (boot_o_7 P) (.node (o15 p P) (.node (o31 p P) .nil .nil) .nil) (.node (o23 p P) .nil .nil)) (.node (o11 p P) (.node (o19 p P) .nil .nil) (.node (o27 p P) .nil .nil))) (.node (boot_o_5 P) (.node (boot_o_9 P) (.node (o17 p P) (.node (o33 p P) .nil .nil) .nil) (.node (o25 p P) .nil .nil)) (.node (o13 p P) (.node (o21 p P) .nil .nil) (.node (o29v1 p P) .nil .nil)))) (.node (boot_o_2 P) (.node (boot_o_4 P) (.node (boot_o_8 P) (.node (o16 p P) (.node (o32 p P) .nil .nil) .nil) (.node (o24 p P) .nil .nil)) (.node (o12 p P) (.node (o20 p P) .nil .nil) (.node (o28 p P) .nil .nil))) (.node (boot_o_6 P) (.node (boot_o_10 P) (.node (o18 p P) (.node (o34 p P) .nil .nil) .nil) (.node (o26 p P) .nil .nil)) (.node (o14 p P) (.node (o22 p P) .nil .nil) (.node (o30 p P) .nil .nil)))))
def o29v2 (p : Program) (P : Params) : Obj := ⟨.type "list", none, .seq ⟨(upd (items 256) b13 1254).set 32 (.str (s [95]) 1453)⟩ 0, ⟨[]⟩⟩
def tr14 (p : Program) (P : Params) : BT := (.node (boot_o_0 P) (.node (boot_o_1 P) (.node (o3v4 p P) (.node (boot_o_7 P) (.node (o15 p P) (.node (o31 p P) .nil .nil) .nil) (.node (o23 p P) .nil .nil)) (.node (o11 p P) (.node (o19 p P) .nil .nil) (.node (o27 p P) .nil .nil))) (.node (boot_o_5 P) (.node (boot_o_9 P) (.node (o17 p P) (.node (o33 p P) .nil .nil) .nil) (.node (o25 p P) .nil .nil)) (.node (o13 p P) (.node (o21 p P) .nil .nil) (.node (o29v2 p P) .nil .nil)))) (.node (boot_o_2 P) (.node (boot_o_4 P) (.node (boot_o_8 P) (.node (o16 p P) (.node (o32 p P) .nil .nil) .nil) (.node (o24 p P) .nil .nil)) (.node (o12 p P) (.node (o20 p P) .nil .nil) (.node (o28 p P) .nil .nil))) (.node (boot_o_6 P) (.node (boot_o_10 P) (.node (o18 p P) (.node (o34 p P) .nil .nil) .nil) (.node (o26 p P) .nil .nil)) (.node (o14 p P) (.node (o22 p P) .nil .nil) (.node (o30 p P) .nil .nil)))))
def tr15k (p : Program) (P : Params) (k : Nat) : BT := (.node (boot_o_0 P) (.node (boot_o_1 P) (.node (o3f15 P k) (.node (boot_o_7 P) (.node (o15 p P) (.node (o31k k) .nil .nil) .nil) (.node (o23 p P) .nil .nil)) (.node (o11 p P) (.node (o19 p P) (.node (o35k k) .nil .nil) .nil) (.node (o27 p P) .nil .nil))) (.node (boot_o_5 P) (.node (boot_o_9 P) (.node (o17 p P) (.node (o33 p P) .nil .nil) .nil) (.node (o25 p P) .nil .nil)) (.node (o13 p P) (.node (o21 p P) .nil .nil) (.node (o29v2 p P) .nil .nil)))) (.node (boot_o_2 P) (.node (boot_o_4 P) (.node (boot_o_8 P) (.node (o16 p P) (.node (o32 p P) .nil .nil) .nil) (.node (o24 p P) .nil .nil)) (.node (o12 p P) (.node (o20 p P) .nil .nil) (.node (o28 p P) .nil .nil))) (.node (boot_o_6 P) (.node (boot_o_10 P) (.node (o18 p P) (.node (o34 p P) .nil .nil) .nil) (.node (o26 p P) .nil .nil)) (.node (o14 p P) (.node (o22 p P) .nil .nil) (.node (o30 p P) .nil .nil)))))
def o3v5 (p : Program) (P : Params) : Obj := ⟨.type "dict", none, .dict ⟨[e P (s [95, 95, 110, 97, 109, 101, 95, 95]) 165 (.str (s [99, 112, 121, 51, 49, 51, 46, 101, 109, 97, 105, 108, 46, 113, 117, 111, 112, 114, 105, 109, 105, 109, 101]) 1243), e P (s [95, 95, 100, 111, 99, 95, 95]) 166 (.none), e P (s [95, 95, 112, 97, 99, 107, 97, 103, 101, 95, 95]) 167 (.none), e P (s [95, 95, 108, 111, 97, 100, 101, 114, 95, 95]) 168 (.builtin "__main__.__loader__#opaque"), e P (s [95, 95, 115, 112, 101, 99, 95, 95]) 169 (.none), e P (s [95, 95, 97, 110, 110, 111, 116, 97, 116, 105, 111, 110, 115, 95, 95]) 170 (.ref 6), e P (s [95, 95, 98, 117, 105, 108, 116, 105, 110, 115, 95, 95]) 171 (.ref 4), e P (s [95, 95, 102, 105, 108, 101, 95, 95]) 173 (.str (s [47, 99, 108, 97, 105, 109, 47, 99, 117, 116, 46, 112, 121]) 172), e P (s [95, 95, 99, 97, 99, 104, 101, 100, 95, 95]) 174 (.none), e P (s [95, 99, 111, 109, 109, 101, 110, 116, 95, 108, 105, 110, 101]) 195 (.ref 21), e P (s [67, 82, 76, 70]) 197 (.str (s [13, 10]) 196), e P (s [78, 76]) 199 (.str (s [10]) 198), e P (s [95, 81, 85, 79, 80, 82, 73, 95, 77, 65, 80]) 1227 (.ref 24), e P (s [95, 81, 85, 79, 80, 82, 73, 95, 72, 69, 65, 68, 69, 82, 95, 77, 65, 80]) 1228 (.ref 29), e P (s [95, 81, 85, 79, 80, 82, 73, 95, 66, 79, 68, 89, 95, 77, 65, 80]) 1229 (.ref 31), e P (s [97, 115, 99, 105, 105, 95, 108, 111, 119, 101, 114, 99, 97, 115, 101]) 1231 (.str (s [97, 98, 99, 100, 101, 102, 103, 104, 105, 106, 107, 108, 109, 110, 111, 112, 113, 114, 115, 116, 117, 118, 119, 120, 121, 122]) 1230), e P (s [97, 115, 99, 105, 105, 95, 117, 112, 112, 101, 114, 99, 97, 115, 101]) 1233 (.str (s [65, 66, 67, 68, 69, 70, 71, 72, 73, 74, 75, 76, 77, 78, 79, 80, 81, 82, 83, 84, 85, 86, 87, 88, 89, 90]) 1232), e P (s [97, 115, 99, 105, 105, 95, 108, 101, 116, 116, 101, 114, 115]) 1235 (.str (s [97, 98, 99, 100, 101, 102, 103, 104, 105, 106, 107, 108, 109, 110, 111, 112, 113, 114, 115, 116, 117, 118, 119, 120, 121, 122, 65, 66, 67, 68, 69, 70, 71, 72, 73, 74, 75, 76, 77, 78, 79, 80, 81, 82, 83, 84, 85, 86, 87, 88, 89, 90]) 1234), e P (s [100, 105, 103, 105, 116, 115]) 1237 (.str (s [48, 49, 50, 51, 52, 53, 54, 55, 56, 57]) 1236), e P (s [104, 101, 120, 100, 105, 103, 105, 116, 115]) 1242 (.str (s [48, 49, 50, 51, 52, 53, 54, 55, 56, 57, 97, 98, 99, 100, 101, 102, 65, 66, 67, 68, 69, 70]) 1241), e P (s [99]) 1253 (.int 9 1739)]⟩ 21, ⟨[]⟩⟩
def o31v1 (p : Program) (P : Params) : Obj := ⟨.type "list", none, .seq ⟨upd (items 256) b15 1459⟩ 0, ⟨[]⟩⟩
def o35 (p : Program) (P : Params) : Obj := ⟨.type "bytes_iterator", none, .fields ⟨[.none, .int 95 0]⟩, ⟨[]⟩⟩
def o37 (p : Program) (P : Params) : Obj := ⟨.type "StopIteration", none, .fields ⟨[.ref 36, .none, .none, .none, .bool false, .none]⟩, ⟨[]⟩⟩
def o36 (p : Program) (P : Params) : Obj := ⟨.type "tuple", none, .seq ⟨[]⟩ 0, ⟨[]⟩⟩
def tr15e (p : Program) (P : Params) : BT := (.node (boot_o_0 P) (.node (boot_o_1 P) (.node (o3v5 p P) (.node (boot_o_7 P) (.node (o15 p P) (.node (o31v1 p P) .nil .nil) .nil) (.node (o23 p P) .nil .nil)) (.node (o11 p P) (.node (o19 p P) (.node (o35 p P) .nil .nil) .nil) (.node (o27 p P) .nil .nil))) (.node (boot_o_5 P) (.node (boot_o_9 P) (.node (o17 p P) (.node (o33 p P) .nil .nil) .nil) (.node (o25 p P) .nil .nil)) (.node (o13 p P) (.node (o21 p P) (.node (o37 p P) .nil .nil) .nil) (.node (o29v2 p P) .nil .nil)))) (.node (boot_o_2 P) (.node (boot_o_4 P) (.node (boot_o_8 P) (.node (o16 p P) (.node (o32 p P) .nil .nil) .nil) (.node (o24 p P) .nil .nil)) (.node (o12 p P) (.node (o20 p P) (.node (o36 p P) .nil .nil) .nil) (.node (o28 p P) .nil .nil))) (.node (boot_o_6 P) (.node (boot_o_10 P) (.node (o18 p P) (.node (o34 p P) .nil .nil) .nil) (.node (o26 p P) .nil .nil)) (.node (o14 p P) (.node (o22 p P) .nil .nil) (.node (o30 p P) .nil .nil)))))
def o3v6 (p : Program) (P : Params) : Obj := ⟨.type "dict", none, .dict ⟨[e P (s [95, 95, 110, 97, 109, 101, 95, 95]) 165 (.str (s [99, 112, 121, 51, 49, 51, 46, 101, 109, 97, 105, 108, 46, 113, 117, 111, 112, 114, 105, 109, 105, 109, 101]) 1243), e P (s [95, 95, 100, 111, 99, 95, 95]) 166 (.none), e P (s [95, 95, 112, 97, 99, 107, 97, 103, 101, 95, 95]) 167 (.none), e P (s [95, 95, 108, 111, 97, 100, 101, 114, 95, 95]) 168 (.builtin "__main__.__loader__#opaque"), e P (s [95, 95, 115, 112, 101, 99, 95, 95]) 169 (.none), e P (s [95, 95, 97, 110, 110, 111, 116, 97, 116, 105, 111, 110, 115, 95, 95]) 170 (.ref 6), e P (s [95, 95, 98, 117, 105, 108, 116, 105, 110, 115, 95, 95]) 171 (.ref 4), e P (s [95, 95, 102, 105, 108, 101, 95, 95]) 173 (.str (s [47, 99, 108, 97, 105, 109, 47, 99, 117, 116, 46, 112, 121]) 172), e P (s [95, 95, 99, 97, 99, 104, 101, 100, 95, 95]) 174 (.none), e P (s [95, 99, 111, 109, 109, 101, 110, 116, 95, 108, 105, 110, 101]) 195 (.ref 21), e P (s [67, 82, 76, 70]) 197 (.str (s [13, 10]) 196), e P (s [78, 76]) 199 (.str (s [10]) 198), e P (s [95, 81, 85, 79, 80, 82, 73, 95, 77, 65, 80]) 1227 (.ref 24), e P (s [95, 81, 85, 79, 80, 82, 73, 95, 72, 69, 65, 68, 69, 82, 95, 77, 65, 80]) 1228 (.ref 29), e P (s [95, 81, 85, 79, 80, 82, 73, 95, 66, 79, 68, 89, 95, 77, 65, 80]) 1229 (.ref 31), e P (s [97, 115, 99, 105, 105, 95, 108, 111, 119, 101, 114, 99, 97, 115, 101]) 1231 (.str (s [97, 98, 99, 100, 101, 102, 103, 104, 105, 106, 107, 108, 109, 110, 111, 112, 113, 114, 115, 116, 117, 118, 119, 120, 121, 122]) 1230), e P (s [97, 115, 99, 105, 105, 95, 117, 112, 112, 101, 114, 99, 97, 115, 101]) 1233 (.str (s [65, 66, 67, 68, 69, 70, 71, 72, 73, 74, 75, 76, 77, 78, 79, 80, 81, 82, 83, 84, 85, 86, 87, 88, 89, 90]) 1232), e P (s [97, 115, 99, 105, 105, 95, 108, 101, 116, 116, 101, 114, 115]) 1235 (.str (s [97, 98, 99, 100, 101, 102, 103, 104, 105, 106, 107, 108, 109, 110, 111, 112, 113, 114, 115, 116, 117, 118, 119, 120, 121, 122, 65, 66, 67, 68, 69, 70, 71, 72, 73, 74, 75, 76, 77, 78, 79, 80, 81, 82, 83, 84, 85, 86, 87, 88, 89, 90]) 1234), e P (s [100, 105, 103, 105, 116, 115]) 1237 (.str (s [48, 49, 50, 51, 52, 53, 54, 55, 56, 57]) 1236), e P (s [104, 101, 120, 100, 105, 103, 105, 116, 115]) 1242 (.str (s [48, 49, 50, 51, 52, 53, 54, 55, 56, 57, 97, 98, 99, 100, 101, 102, 65, 66, 67, 68, 69, 70]) 1241), e P (s [117, 110, 113, 117, 111, 116, 101]) 1748 (.ref 44), e P (s [113, 117, 111, 116, 101]) 1755 (.ref 51), e P (s [95, 81, 85, 79, 80, 82, 73, 95, 66, 79, 68, 89, 95, 69, 78, 67, 79, 68, 69, 95, 77, 65, 80]) 1756 (.ref 53)]⟩ 25, ⟨[]⟩⟩
def o47 (p : Program) (P : Params) : Obj := ⟨.type "tuple", none, .seq ⟨[.str (s [99]) 1752]⟩ 0, ⟨[]⟩⟩
def o39 (p : Program) (P : Params) : Obj := ⟨.none, none, .fields ⟨[]⟩, ⟨[]⟩⟩
def o55 (p : Program) (P : Params) : Obj := ⟨.type "tuple", none, .seq ⟨[]⟩ 0, ⟨[]⟩⟩
def o51 (p : Program) (P : Params) : Obj := ⟨.type "function", none, .func (fd (stmt p 17) 3 .none (.str (s [99, 112, 121, 51, 49, 51, 46, 101, 109, 97, 105, 108, 46, 113, 117, 111, 112, 114, 105, 109, 105, 109, 101]) 1243) (.ref 50)), ⟨[]⟩⟩
def o43 (p : Program) (P : Params) : Obj := ⟨.type "code", none, .fields ⟨[.str (s [117, 110, 113, 117, 111, 116, 101]) 1742, .str (s [117, 110, 113, 117, 111, 116, 101]) 1743, .str (s [47, 99, 108, 97, 105, 109, 47, 99, 117, 116, 46, 112, 121]) 1744, .int 24 0, .int 1 0, .int 0 0, .int 0 0, .int 3 0, .ref 38, .bool true, .int 181 0, .ref 39, .none, .ref 40, .ref 41, .ref 42, .int 1746 0, .int 24 0, .str (s [47, 99, 108, 97, 105, 109, 47, 99, 117, 116, 46, 112, 121]) 1747]⟩, ⟨[]⟩⟩
def o49 (p : Program) (P : Params) : Obj := ⟨.none, none, .func (fd (stmt p 17) 0 .none .none .none), ⟨[]⟩⟩
def o41 (p : Program) (P : Params) : Obj := ⟨.type "tuple", none, .seq ⟨[]⟩ 0, ⟨[]⟩⟩
def o53 (p : Program) (P : Params) : Obj := ⟨.type "list", none, .seq ⟨((upd (items 256) b15 1459).set 13 (.str (s [13]) 1760)).set 10 (.str (s [10]) 1763)⟩ 0, ⟨[]⟩⟩
def o45 (p : Program) (P : Params) : Obj := ⟨.type "tuple", none, .seq ⟨[]⟩ 0, ⟨[]⟩⟩
def o48 (p : Program) (P : Params) : Obj := ⟨.type "tuple", none, .seq ⟨[]⟩ 0, ⟨[]⟩⟩
def o40 (p : Program) (P : Params) : Obj := ⟨.type "tuple", none, .seq ⟨[.str (s [115]) 1745]⟩ 0, ⟨[]⟩⟩
def o56 (p : Program) (P : Params) : Obj := ⟨.type "StopIteration", none, .fields ⟨[.ref 55, .none, .none, .none, .bool false, .none]⟩, ⟨[]⟩⟩
def o12v2 (p : Program) (P : Params) : Obj := ⟨.none, none, .fields ⟨[.int 2 0, .int 0 0, .ref 20, .int 24 0, .int 0 0, .ref 43, .int 26 0, .int 0 0, .ref 50]⟩, ⟨[]⟩⟩
def o52 (p : Program) (P : Params) : Obj := ⟨.type "slice", none, .fields ⟨[.none, .none, .none]⟩, ⟨[]⟩⟩
def o44 (p : Program) (P : Params) : Obj := ⟨.type "function", none, .func (fd (stmt p 16) 3 .none (.str (s [99, 112, 121, 51, 49, 51, 46, 101, 109, 97, 105, 108, 46, 113, 117, 111, 112, 114, 105, 109, 105, 109, 101]) 1243) (.ref 43)), ⟨[]⟩⟩
def o50 (p : Program) (P : Params) : Obj := ⟨.type "code", none, .fields ⟨[.str (s [113, 117, 111, 116, 101]) 1749, .str (s [113, 117, 111, 116, 101]) 1750, .str (s [47, 99, 108, 97, 105, 109, 47, 99, 117, 116, 46, 112, 121]) 1751, .int 26 0, .int 1 0, .int 0 0, .int 0 0, .int 3 0, .ref 45, .bool true, .int 181 0, .ref 46, .none, .ref 47, .ref 48, .ref 49, .int 1753 0, .int 26 0, .str (s [47, 99, 108, 97, 105, 109, 47, 99, 117, 116, 46, 112, 121]) 1754]⟩, ⟨[]⟩⟩
def o42 (p : Program) (P : Params) : Obj := ⟨.none, none, .func (fd (stmt p 16) 0 .none .none .none), ⟨[]⟩⟩
def o38 (p : Program) (P : Params) : Obj := ⟨.type "tuple", none, .seq ⟨[]⟩ 0, ⟨[]⟩⟩
def o54 (p : Program) (P : Params) : Obj := ⟨.type "bytes_iterator", none, .fields ⟨[.none, .int 2 0]⟩, ⟨[]⟩⟩
def o46 (p : Program) (P : Params) : Obj := ⟨.none, none, .fields ⟨[]⟩, ⟨[]⟩⟩
def tr20 (p : Program) (P : Params) : BT := (.node (boot_o_0 P) (.node (boot_o_1 P) (.node (o3v6 p P) (.node (boot_o_7 P) (.node (o15 p P) (.node (o31v1 p P) .nil .nil) (.node (o47 p P) .nil .nil)) (.node (o23 p P) (.node (o39 p P) .nil .nil) (.node (o55 p P) .nil .nil))) (.node (o11 p P) (.node (o19 p P) (.node (o35 p P) .nil .nil) (.node (o51 p P) .nil .nil)) (.node (o27 p P) (.node (o43 p P) .nil .nil) .nil))) (.node (boot_o_5 P) (.node (boot_o_9 P) (.node (o17 p P) (.node (o33 p P) .nil .nil) (.node (o49 p P) .nil .nil)) (.node (o25 p P) (.node (o41 p P) .nil .nil) .nil)) (.node (o13 p P) (.node (o21 p P) (.node (o37 p P) .nil .nil) (.node (o53 p P) .nil .nil)) (.node (o29v2 p P) (.node (o45 p P) .nil .nil) .nil)))) (.node (boot_o_2 P) (.node (boot_o_4 P) (.node (boot_o_8 P) (.node (o16 p P) (.node (o32 p P) .nil .nil) (.node (o48 p P) .nil .nil)) (.node (o24 p P) (.node (o40 p P) .nil .nil) (.node (o56 p P) .nil .nil))) (.node (o12v2 p P) (.node (o20 p P) (.node (o36 p P) .nil .nil) (.node (o52 p P) .nil .nil)) (.node (o28 p P) (.node (o44 p P) .nil .nil) .nil))) (.node (boot_o_6 P) (.node (boot_o_10 P) (.node (o18 p P) (.node (o34 p P) .nil .nil) (.node (o50 p P) .nil .nil)) (.node (o26 p P) (.node (o42 p P) .nil .nil) .nil)) (.node (o14 p P) (.node (o22 p P) (.node (o38 p P) .nil .nil) (.node (o54 p P) .nil .nil)) (.node (o30 p P) (.node (o46 p P) .nil .nil) .nil)))))
def o3v7 (p : Program) (P : Params) : Obj := ⟨.type "dict", none, .dict ⟨[e P (s [95, 95, 110, 97, 109, 101, 95, 95]) 165 (.str (s [108, 97, 119, 95, 114, 101, 48, 48, 55, 54, 95, 48, 49]) 1797), e P (s [95, 95, 100, 111, 99, 95, 95]) 166 (.none), e P (s [95, 95, 112, 97, 99, 107, 97, 103, 101, 95, 95]) 167 (.none), e P (s [95, 95, 108, 111, 97, 100, 101, 114, 95, 95]) 168 (.builtin "__main__.__loader__#opaque"), e P (s [95, 95, 115, 112, 101, 99, 95, 95]) 169 (.none), e P (s [95, 95, 97, 110, 110, 111, 116, 97, 116, 105, 111, 110, 115, 95, 95]) 170 (.ref 6), e P (s [95, 95, 98, 117, 105, 108, 116, 105, 110, 115, 95, 95]) 171 (.ref 4), e P (s [95, 95, 102, 105, 108, 101, 95, 95]) 173 (.str (s [47, 99, 108, 97, 105, 109, 47, 99, 117, 116, 46, 112, 121]) 172), e P (s [95, 95, 99, 97, 99, 104, 101, 100, 95, 95]) 174 (.none), e P (s [95, 99, 111, 109, 109, 101, 110, 116, 95, 108, 105, 110, 101]) 195 (.ref 21), e P (s [67, 82, 76, 70]) 197 (.str (s [13, 10]) 196), e P (s [78, 76]) 199 (.str (s [10]) 198), e P (s [95, 81, 85, 79, 80, 82, 73, 95, 77, 65, 80]) 1227 (.ref 24), e P (s [95, 81, 85, 79, 80, 82, 73, 95, 72, 69, 65, 68, 69, 82, 95, 77, 65, 80]) 1228 (.ref 29), e P (s [95, 81, 85, 79, 80, 82, 73, 95, 66, 79, 68, 89, 95, 77, 65, 80]) 1229 (.ref 31), e P (s [97, 115, 99, 105, 105, 95, 108, 111, 119, 101, 114, 99, 97, 115, 101]) 1231 (.str (s [97, 98, 99, 100, 101, 102, 103, 104, 105, 106, 107, 108, 109, 110, 111, 112, 113, 114, 115, 116, 117, 118, 119, 120, 121, 122]) 1230), e P (s [97, 115, 99, 105, 105, 95, 117, 112, 112, 101, 114, 99, 97, 115, 101]) 1233 (.str (s [65, 66, 67, 68, 69, 70, 71, 72, 73, 74, 75, 76, 77, 78, 79, 80, 81, 82, 83, 84, 85, 86, 87, 88, 89, 90]) 1232), e P (s [97, 115, 99, 105, 105, 95, 108, 101, 116, 116, 101, 114, 115]) 1235 (.str (s [97, 98, 99, 100, 101, 102, 103, 104, 105, 106, 107, 108, 109, 110, 111, 112, 113, 114, 115, 116, 117, 118, 119, 120, 121, 122, 65, 66, 67, 68, 69, 70, 71, 72, 73, 74, 75, 76, 77, 78, 79, 80, 81, 82, 83, 84, 85, 86, 87, 88, 89, 90]) 1234), e P (s [100, 105, 103, 105, 116, 115]) 1237 (.str (s [48, 49, 50, 51, 52, 53, 54, 55, 56, 57]) 1236), e P (s [104, 101, 120, 100, 105, 103, 105, 116, 115]) 1242 (.str (s [48, 49, 50, 51, 52, 53, 54, 55, 56, 57, 97, 98, 99, 100, 101, 102, 65, 66, 67, 68, 69, 70]) 1241), e P (s [117, 110, 113, 117, 111, 116, 101]) 1748 (.ref 44), e P (s [113, 117, 111, 116, 101]) 1755 (.ref 51), e P (s [95, 81, 85, 79, 80, 82, 73, 95, 66, 79, 68, 89, 95, 69, 78, 67, 79, 68, 69, 95, 77, 65, 80]) 1756 (.ref 53), e P (s [98, 111, 100, 121, 95, 101, 110, 99, 111, 100, 101]) 1783 (.ref 64), e P (s [100, 101, 99, 111, 100, 101]) 1796 (.ref 72), e P (s [95, 108, 97, 119, 95, 115, 105, 103, 110]) 1805 (.ref 79), e P (s [95, 108, 97, 119, 95, 114, 111, 119, 115]) 1811 (.ref 84), e P (s [95, 108, 97, 119, 95, 119, 114, 105, 116, 116, 101, 110]) 1817 (.ref 89), e P (s [95, 108, 97, 119, 95, 109, 97, 114, 107, 101, 100]) 1824 (.ref 96), e P (s [95, 108, 97, 119, 95, 107, 101, 112, 116]) 1832 (.ref 103), e P (s [108, 97, 119]) 1838 (.ref 108)]⟩ 33, ⟨[]⟩⟩
def o63 (p : Program) (P : Params) : Obj := ⟨.type "code", none, .fields ⟨[.str (s [98, 111, 100, 121, 95, 101, 110, 99, 111, 100, 101]) 1765, .str (s [98, 111, 100, 121, 95, 101, 110, 99, 111, 100, 101]) 1766, .str (s [47, 99, 108, 97, 105, 109, 47, 99, 117, 116, 46, 112, 121]) 1767, .int 32 0, .int 3 0, .int 0 0, .int 0 0, .int 3 0, .ref 58, .bool true, .int 181 0, .ref 59, .none, .ref 60, .ref 61, .ref 62, .int 1781 0, .int 32 0, .str (s [47, 99, 108, 97, 105, 109, 47, 99, 117, 116, 46, 112, 121]) 1782]⟩, ⟨[]⟩⟩
def o95 (p : Program) (P : Params) : Obj := ⟨.type "code", none, .fields ⟨[.str (s [95, 108, 97, 119, 95, 109, 97, 114, 107, 101, 100]) 1818, .str (s [95, 108, 97, 119, 95, 109, 97, 114, 107, 101, 100]) 1819, .str (s [47, 99, 108, 97, 105, 109, 47, 99, 117, 116, 46, 112, 121]) 1820, .int 132 0, .int 1 0, .int 0 0, .int 0 0, .int 3 0, .ref 90, .bool true, .int 181 0, .ref 91, .none, .ref 92, .ref 93, .ref 94, .int 1822 0, .int 132 0, .str (s [47, 99, 108, 97, 105, 109, 47, 99, 117, 116, 46, 112, 121]) 1823]⟩, ⟨[]⟩⟩
def o79 (p : Program) (P : Params) : Obj := ⟨.type "function", none, .func (fd (stmt p 24) 3 .none (.str (s [108, 97, 119, 95, 114, 101, 48, 48, 55, 54, 95, 48, 49]) 1797) (.ref 78)), ⟨[]⟩⟩
def o71 (p : Program) (P : Params) : Obj := ⟨.type "code", none, .fields ⟨[.str (s [100, 101, 99, 111, 100, 101]) 1784, .str (s [100, 101, 99, 111, 100, 101]) 1785, .str (s [47, 99, 108, 97, 105, 109, 47, 99, 117, 116, 46, 112, 121]) 1786, .int 70 0, .int 2 0, .int 0 0, .int 0 0, .int 3 0, .ref 66, .bool true, .int 181 0, .ref 67, .none, .ref 68, .ref 69, .ref 70, .int 1794 0, .int 70 0, .str (s [47, 99, 108, 97, 105, 109, 47, 99, 117, 116, 46, 112, 121]) 1795]⟩, ⟨[]⟩⟩
def o103 (p : Program) (P : Params) : Obj := ⟨.type "function", none, .func (fd (stmt p 28) 3 .none (.str (s [108, 97, 119, 95, 114, 101, 48, 48, 55, 54, 95, 48, 49]) 1797) (.ref 102)), ⟨[]⟩⟩
def o87 (p : Program) (P : Params) : Obj := ⟨.none, none, .func (fd (stmt p 26) 0 .none .none .none), ⟨[]⟩⟩
def o67 (p : Program) (P : Params) : Obj := ⟨.none, none, .fields ⟨[]⟩, ⟨[]⟩⟩
def o99 (p : Program) (P : Params) : Obj := ⟨.type "tuple", none, .seq ⟨[.str (s [108, 105, 110, 101]) 1828, .str (s [107, 101, 112, 116]) 1829]⟩ 0, ⟨[]⟩⟩
def o83 (p : Program) (P : Params) : Obj := ⟨.type "code", none, .fields ⟨[.str (s [95, 108, 97, 119, 95, 114, 111, 119, 115]) 1806, .str (s [95, 108, 97, 119, 95, 114, 111, 119, 115]) 1807, .str (s [47, 99, 108, 97, 105, 109, 47, 99, 117, 116, 46, 112, 121]) 1808, .int 105 0, .int 2 0, .int 0 0, .int 0 0, .int 3 0, .ref 80, .bool true, .int 181 0, .ref 81, .none, .none, .none, .ref 82, .int 1809 0, .int 105 0, .str (s [47, 99, 108, 97, 105, 109, 47, 99, 117, 116, 46, 112, 121]) 1810]⟩, ⟨[]⟩⟩
def o75 (p : Program) (P : Params) : Obj := ⟨.type "tuple", none, .seq ⟨[.str (s [115, 105, 103, 110]) 1802]⟩ 0, ⟨[]⟩⟩
def o107 (p : Program) (P : Params) : Obj := ⟨.type "code", none, .fields ⟨[.str (s [108, 97, 119]) 1833, .str (s [108, 97, 119]) 1834, .str (s [47, 99, 108, 97, 105, 109, 47, 99, 117, 116, 46, 112, 121]) 1835, .int 139 0, .int 1 0, .int 0 0, .int 0 0, .int 3 0, .ref 104, .bool true, .int 181 0, .ref 105, .none, .none, .none, .ref 106, .int 1836 0, .int 139 0, .str (s [47, 99, 108, 97, 105, 109, 47, 99, 117, 116, 46, 112, 121]) 1837]⟩, ⟨[]⟩⟩
def o59 (p : Program) (P : Params) : Obj := ⟨.none, none, .fields ⟨[]⟩, ⟨[]⟩⟩
def o91 (p : Program) (P : Params) : Obj := ⟨.none, none, .fields ⟨[]⟩, ⟨[]⟩⟩
def o65 (p : Program) (P : Params) : Obj := ⟨.type "tuple", none, .seq ⟨[.str (s [10]) 198]⟩ 0, ⟨[]⟩⟩
def o97 (p : Program) (P : Params) : Obj := ⟨.type "tuple", none, .seq ⟨[]⟩ 0, ⟨[]⟩⟩
def o81 (p : Program) (P : Params) : Obj := ⟨.none, none, .fields ⟨[]⟩, ⟨[]⟩⟩
def o73 (p : Program) (P : Params) : Obj := ⟨.type "tuple", none, .seq ⟨[]⟩ 0, ⟨[]⟩⟩
def o105 (p : Program) (P : Params) : Obj := ⟨.none, none, .fields ⟨[]⟩, ⟨[]⟩⟩
def o57 (p : Program) (P : Params) : Obj := ⟨.type "tuple", none, .seq ⟨[.int 76 1764, .str (s [10]) 198]⟩ 0, ⟨[]⟩⟩
def o89 (p : Program) (P : Params) : Obj := ⟨.type "function", none, .func (fd (stmt p 26) 3 .none (.str (s [108, 97, 119, 95, 114, 101, 48, 48, 55, 54, 95, 48, 49]) 1797) (.ref 88)), ⟨[]⟩⟩
def o69 (p : Program) (P : Params) : Obj := ⟨.type "tuple", none, .seq ⟨[]⟩ 0, ⟨[]⟩⟩
def o101 (p : Program) (P : Params) : Obj := ⟨.none, none, .func (fd (stmt p 28) 0 .none .none .none), ⟨[]⟩⟩
def o85 (p : Program) (P : Params) : Obj := ⟨.type "tuple", none, .seq ⟨[]⟩ 0, ⟨[]⟩⟩
def o77 (p : Program) (P : Params) : Obj := ⟨.none, none, .func (fd (stmt p 24) 0 .none .none .none), ⟨[]⟩⟩
def o61 (p : Program) (P : Params) : Obj := ⟨.type "tuple", none, .seq ⟨[]⟩ 0, ⟨[]⟩⟩
def o93 (p : Program) (P : Params) : Obj := ⟨.type "tuple", none, .seq ⟨[]⟩ 0, ⟨[]⟩⟩
def o64 (p : Program) (P : Params) : Obj := ⟨.type "function", none, .func (fd (stmt p 21) 3 (.ref 57) (.str (s [99, 112, 121, 51, 49, 51, 46, 101, 109, 97, 105, 108, 46, 113, 117, 111, 112, 114, 105, 109, 105, 109, 101]) 1243) (.ref 63)), ⟨[]⟩⟩
def o96 (p : Program) (P : Params) : Obj := ⟨.type "function", none, .func (fd (stmt p 27) 3 .none (.str (s [108, 97, 119, 95, 114, 101, 48, 48, 55, 54, 95, 48, 49]) 1797) (.ref 95)), ⟨[]⟩⟩
def o80 (p : Program) (P : Params) : Obj := ⟨.type "tuple", none, .seq ⟨[]⟩ 0, ⟨[]⟩⟩
def o72 (p : Program) (P : Params) : Obj := ⟨.type "function", none, .func (fd (stmt p 22) 3 (.ref 65) (.str (s [99, 112, 121, 51, 49, 51, 46, 101, 109, 97, 105, 108, 46, 113, 117, 111, 112, 114, 105, 109, 105, 109, 101]) 1243) (.ref 71)), ⟨[]⟩⟩
def o104 (p : Program) (P : Params) : Obj := ⟨.type "tuple", none, .seq ⟨[]⟩ 0, ⟨[]⟩⟩
def o88 (p : Program) (P : Params) : Obj := ⟨.type "code", none, .fields ⟨[.str (s [95, 108, 97, 119, 95, 119, 114, 105, 116, 116, 101, 110]) 1812, .str (s [95, 108, 97, 119, 95, 119, 114, 105, 116, 116, 101, 110]) 1813, .str (s [47, 99, 108, 97, 105, 109, 47, 99, 117, 116, 46, 112, 121]) 1814, .int 123 0, .int 2 0, .int 0 0, .int 0 0, .int 3 0, .ref 85, .bool true, .int 181 0, .ref 86, .none, .none, .none, .ref 87, .int 1815 0, .int 123 0, .str (s [47, 99, 108, 97, 105, 109, 47, 99, 117, 116, 46, 112, 121]) 1816]⟩, ⟨[]⟩⟩
def o12v3 (p : Program) (P : Params) : Obj := ⟨.none, none, .fields ⟨[.int 2 0, .int 0 0, .ref 20, .int 24 0, .int 0 0, .ref 43, .int 26 0, .int 0 0, .ref 50, .int 32 0, .int 0 0, .ref 63, .int 70 0, .int 0 0, .ref 71, .int 101 0, .int 0 0, .ref 78, .int 105 0, .int 0 0, .ref 83, .int 123 0, .int 0 0, .ref 88, .int 132 0, .int 0 0, .ref 95, .int 134 0, .int 0 0, .ref 102, .int 139 0, .int 0 0, .ref 107]⟩, ⟨[]⟩⟩
def o68 (p : Program) (P : Params) : Obj := ⟨.type "tuple", none, .seq ⟨[.str (s [101, 110, 99, 111, 100, 101, 100]) 1787, .str (s [101, 111, 108]) 1788, .str (s [100, 101, 99, 111, 100, 101, 100]) 1789, .str (s [108, 105, 110, 101]) 1790, .str (s [105]) 1791, .str (s [110]) 1792, .str (s [99]) 1793]⟩ 0, ⟨[]⟩⟩
def o100 (p : Program) (P : Params) : Obj := ⟨.type "tuple", none, .seq ⟨[]⟩ 0, ⟨[]⟩⟩
def o84 (p : Program) (P : Params) : Obj := ⟨.type "function", none, .func (fd (stmt p 25) 3 .none (.str (s [108, 97, 119, 95, 114, 101, 48, 48, 55, 54, 95, 48, 49]) 1797) (.ref 83)), ⟨[]⟩⟩
def o76 (p : Program) (P : Params) : Obj := ⟨.type "tuple", none, .seq ⟨[]⟩ 0, ⟨[]⟩⟩
def o108 (p : Program) (P : Params) : Obj := ⟨.type "function", none, .func (fd (stmt p 29) 3 .none (.str (s [108, 97, 119, 95, 114, 101, 48, 48, 55, 54, 95, 48, 49]) 1797) (.ref 107)), ⟨[]⟩⟩
def o60 (p : Program) (P : Params) : Obj := ⟨.type "tuple", none, .seq ⟨[.str (s [98, 111, 100, 121]) 1768, .str (s [109, 97, 120, 108, 105, 110, 101, 108, 101, 110]) 1769, .str (s [101, 111, 108]) 1770, .str (s [115, 111, 102, 116, 95, 98, 114, 101, 97, 107]) 1771, .str (s [109, 97, 120, 108, 105, 110, 101, 108, 101, 110, 49]) 1772, .str (s [101, 110, 99, 111, 100, 101, 100, 95, 98, 111, 100, 121]) 1773, .str (s [97, 112, 112, 101, 110, 100]) 1774, .str (s [108, 105, 110, 101]) 1775, .str (s [115, 116, 97, 114, 116]) 1776, .str (s [108, 97, 115, 116, 115, 116, 97, 114, 116]) 1777, .str (s [115, 116, 111, 112]) 1778, .str (s [114, 111, 111, 109]) 1779, .str (s [113]) 1780]⟩ 0, ⟨[]⟩⟩
def o92 (p : Program) (P : Params) : Obj := ⟨.type "tuple", none, .seq ⟨[.str (s [114, 111, 119]) 1821]⟩ 0, ⟨[]⟩⟩
def o66 (p : Program) (P : Params) : Obj := ⟨.type "tuple", none, .seq ⟨[]⟩ 0, ⟨[]⟩⟩
def o98 (p : Program) (P : Params) : Obj := ⟨.none, none, .fields ⟨[]⟩, ⟨[]⟩⟩
def o82 (p : Program) (P : Params) : Obj := ⟨.none, none, .func (fd (stmt p 25) 0 .none .none .none), ⟨[]⟩⟩
def o74 (p : Program) (P : Params) : Obj := ⟨.none, none, .fields ⟨[]⟩, ⟨[]⟩⟩
def o106 (p : Program) (P : Params) : Obj := ⟨.none, none, .func (fd (stmt p 29) 0 .none .none .none), ⟨[]⟩⟩
def o58 (p : Program) (P : Params) : Obj := ⟨.type "tuple", none, .seq ⟨[]⟩ 0, ⟨[]⟩⟩
def o90 (p : Program) (P : Params) : Obj := ⟨.type "tuple", none, .seq ⟨[]⟩ 0, ⟨[]⟩⟩
def o70 (p : Program) (P : Params) : Obj := ⟨.none, none, .func (fd (stmt p 22) 0 .none .none .none), ⟨[]⟩⟩
def o102 (p : Program) (P : Params) : Obj := ⟨.type "code", none, .fields ⟨[.str (s [95, 108, 97, 119, 95, 107, 101, 112, 116]) 1825, .str (s [95, 108, 97, 119, 95, 107, 101, 112, 116]) 1826, .str (s [47, 99, 108, 97, 105, 109, 47, 99, 117, 116, 46, 112, 121]) 1827, .int 134 0, .int 1 0, .int 0 0, .int 0 0, .int 3 0, .ref 97, .bool true, .int 181 0, .ref 98, .none, .ref 99, .ref 100, .ref 101, .int 1830 0, .int 134 0, .str (s [47, 99, 108, 97, 105, 109, 47, 99, 117, 116, 46, 112, 121]) 1831]⟩, ⟨[]⟩⟩
def o86 (p : Program) (P : Params) : Obj := ⟨.none, none, .fields ⟨[]⟩, ⟨[]⟩⟩
def o78 (p : Program) (P : Params) : Obj := ⟨.type "code", none, .fields ⟨[.str (s [95, 108, 97, 119, 95, 115, 105, 103, 110]) 1799, .str (s [95, 108, 97, 119, 95, 115, 105, 103, 110]) 1800, .str (s [47, 99, 108, 97, 105, 109, 47, 99, 117, 116, 46, 112, 121]) 1801, .int 101 0, .int 1 0, .int 0 0, .int 0 0, .int 3 0, .ref 73, .bool true, .int 181 0, .ref 74, .none, .ref 75, .ref 76, .ref 77, .int 1803 0, .int 101 0, .str (s [47, 99, 108, 97, 105, 109, 47, 99, 117, 116, 46, 112, 121]) 1804]⟩, ⟨[]⟩⟩
def o62 (p : Program) (P : Params) : Obj := ⟨.none, none, .func (fd (stmt p 21) 0 .none .none .none), ⟨[]⟩⟩
def o94 (p : Program) (P : Params) : Obj := ⟨.none, none, .func (fd (stmt p 27) 0 .none .none .none), ⟨[]⟩⟩
def tr29 (p : Program) (P : Params) : BT := (.node (boot_o_0 P) (.node (boot_o_1 P) (.node (o3v7 p P) (.node (boot_o_7 P) (.node (o15 p P) (.node (o31v1 p P) (.node (o63 p P) .nil .nil) (.node (o95 p P) .nil .nil)) (.node (o47 p P) (.node (o79 p P) .nil .nil) .nil)) (.node (o23 p P) (.node (o39 p P) (.node (o71 p P) .nil .nil) (.node (o103 p P) .nil .nil)) (.node (o55 p P) (.node (o87 p P) .nil .nil) .nil))) (.node (o11 p P) (.node (o19 p P) (.node (o35 p P) (.node (o67 p P) .nil .nil) (.node (o99 p P) .nil .nil)) (.node (o51 p P) (.node (o83 p P) .nil .nil) .nil)) (.node (o27 p P) (.node (o43 p P) (.node (o75 p P) .nil .nil) (.node (o107 p P) .nil .nil)) (.node (o59 p P) (.node (o91 p P) .nil .nil) .nil)))) (.node (boot_o_5 P) (.node (boot_o_9 P) (.node (o17 p P) (.node (o33 p P) (.node (o65 p P) .nil .nil) (.node (o97 p P) .nil .nil)) (.node (o49 p P) (.node (o81 p P) .nil .nil) .nil)) (.node (o25 p P) (.node (o41 p P) (.node (o73 p P) .nil .nil) (.node (o105 p P) .nil .nil)) (.node (o57 p P) (.node (o89 p P) .nil .nil) .nil))) (.node (o13 p P) (.node (o21 p P) (.node (o37 p P) (.node (o69 p P) .nil .nil) (.node (o101 p P) .nil .nil)) (.node (o53 p P) (.node (o85 p P) .nil .nil) .nil)) (.node (o29v2 p P) (.node (o45 p P) (.node (o77 p P) .nil .nil) .nil) (.node (o61 p P) (.node (o93 p P) .nil .nil) .nil))))) (.node (boot_o_2 P) (.node (boot_o_4 P) (.node (boot_o_8 P) (.node (o16 p P) (.node (o32 p P) (.node (o64 p P) .nil .nil) (.node (o96 p P) .nil .nil)) (.node (o48 p P) (.node (o80 p P) .nil .nil) .nil)) (.node (o24 p P) (.node (o40 p P) (.node (o72 p P) .nil .nil) (.node (o104 p P) .nil .nil)) (.node (o56 p P) (.node (o88 p P) .nil .nil) .nil))) (.node (o12v3 p P) (.node (o20 p P) (.node (o36 p P) (.node (o68 p P) .nil .nil) (.node (o100 p P) .nil .nil)) (.node (o52 p P) (.node (o84 p P) .nil .nil) .nil)) (.node (o28 p P) (.node (o44 p P) (.node (o76 p P) .nil .nil) (.node (o108 p P) .nil .nil)) (.node (o60 p P) (.node (o92 p P) .nil .nil) .nil)))) (.node (boot_o_6 P) (.node (boot_o_10 P) (.node (o18 p P) (.node (o34 p P) (.node (o66 p P) .nil .nil) (.node (o98 p P) .nil .nil)) (.node (o50 p P) (.node (o82 p P) .nil .nil) .nil)) (.node (o26 p P) (.node (o42 p P) (.node (o74 p P) .nil .nil) (.node (o106 p P) .nil .nil)) (.node (o58 p P) (.node (o90 p P) .nil .nil) .nil))) (.node (o14 p P) (.node (o22 p P) (.node (o38 p P) (.node (o70 p P) .nil .nil) (.node (o102 p P) .nil .nil)) (.node (o54 p P) (.node (o86 p P) .nil .nil) .nil)) (.node (o30 p P) (.node (o46 p P) (.node (o78 p P) .nil .nil) .nil) (.node (o62 p P) (.node (o94 p P) .nil .nil) .nil))))))
def H1 (p : Program) (P : Params) : Heap := ⟨⟨[(boot_o_0 P), (boot_o_1 P), (boot_o_2 P), (o3v7 p P), (boot_o_4 P), (boot_o_5 P), (boot_o_6 P), (boot_o_7 P), (boot_o_8 P), (boot_o_9 P), (boot_o_10 P), (o11 p P), (o12v3 p P), (o13 p P), (o14 p P), (o15 p P), (o16 p P), (o17 p P), (o18 p P), (o19 p P), (o20 p P), (o21 p P), (o22 p P), (o23 p P), (o24 p P), (o25 p P), (o26 p P), (o27 p P), (o28 p P), (o29v2 p P), (o30 p P), (o31v1 p P), (o32 p P), (o33 p P), (o34 p P), (o35 p P), (o36 p P), (o37 p P), (o38 p P), (o39 p P), (o40 p P), (o41 p P), (o42 p P), (o43 p P), (o44 p P), (o45 p P), (o46 p P), (o47 p P), (o48 p P), (o49 p P), (o50 p P), (o51 p P), (o52 p P), (o53 p P), (o54 p P), (o55 p P), (o56 p P), (o57 p P), (o58 p P), (o59 p P), (o60 p P), (o61 p P), (o62 p P), (o63 p P), (o64 p P), (o65 p P), (o66 p P), (o67 p P), (o68 p P), (o69 p P), (o70 p P), (o71 p P), (o72 p P), (o73 p P), (o74 p P), (o75 p P), (o76 p P), (o77 p P), (o78 p P), (o79 p P), (o80 p P), (o81 p P), (o82 p P), (o83 p P), (o84 p P), (o85 p P), (o86 p P), (o87 p P), (o88 p P), (o89 p P), (o90 p P), (o91 p P), (o92 p P), (o93 p P), (o94 p P), (o95 p P), (o96 p P), (o97 p P), (o98 p P), (o99 p P), (o100 p P), (o101 p P), (o102 p P), (o103 p P), (o104 p P), (o105 p P), (o106 p P), (o107 p P), (o108 p P)]⟩, {}⟩
def Hb (p : Program) (P : Params) : Heap := ⟨⟨[(boot_o_0 P), (boot_o_1 P), (boot_o_2 P), (o3v1 p P), (boot_o_4 P), (boot_o_5 P), (boot_o_6 P), (boot_o_7 P), (boot_o_8 P), (boot_o_9 P), (boot_o_10 P), (o11 p P), (o12v1 p P), (o13 p P), (o14 p P)]⟩, {}⟩
def SB (p : Program) (w : World) (os : OsState) : SharedT := sT (trB p w.params) 15 187 os
def S3 (p : Program) (w : World) (os : OsState) : SharedT := sT (tr3 p w.params) 22 200 os
def S4e (p : Program) (w : World) (os : OsState) : SharedT := sT (tr4e p w.params) 28 1228 os
def S12 (p : Program) (w : World) (os : OsState) : SharedT := sT (tr12 p w.params) 32 1245 os
def S13e (p : Program) (w : World) (os : OsState) : SharedT := sT (tr13e p w.params) 35 1453 os
def S14 (p : Program) (w : World) (os : OsState) : SharedT := sT (tr14 p w.params) 35 1456 os
def S15e (p : Program) (w : World) (os : OsState) : SharedT := sT (tr15e p w.params) 38 1742 os
def S20 (p : Program) (w : World) (os : OsState) : SharedT := sT (tr20 p w.params) 57 1764 os
def S29 (p : Program) (w : World) (os : OsState) : SharedT := sT (tr29 p w.params) 109 1839 os
def S4 (p : Program) (w : World) (os : OsState) (k : Nat) : SharedT := sT (tr4k p w.params k) 26 (203 + 4 * k) os
def S13 (p : Program) (w : World) (os : OsState) (k : Nat) : SharedT := sT (tr13k p w.params k) 33 (1252 + 3 * k) os
def S15 (p : Program) (w : World) (os : OsState) (k : Nat) : SharedT := sT (tr15k p w.params k) 36 (1457 + 3 * k) os
theorem said0 : PySem.Challenge.rw_re0076_01.wellSaid = true := by k_qdec

abbrev sG := PySem.W.Fast.tw10295753902157049106
abbrev sR := PySem.W.Fast.tw10110043849684766642
abbrev tbl := PySem.W.Fast.tw14364793385576792824
abbrev dn := PySem.W.Fast.tw11892475500146522536 PySem.W.Fast.tw14364793385576792824
abbrev exx := PySem.W.Fast.tw12563942051412417395
abbrev W2 (w : World) (a b : Bool) : World := World.withFollow (World.withFollow w "special-get-raises" b) "comprehension-iter-twice" a
abbrev W1 (w : World) (b : Bool) : World := World.withFollow w "special-get-raises" b
def frameOf (x : Option (SharedT × Thread)) : Frame := match x with
  | some (_, ⟨_, _, _, f :: _⟩) => f
  | _ => topFrame ⟨0, 0, 0, 0⟩
/-- a for's parts -/
theorem g0t (w : World) (os : OsState) : sR tbl PySem.W.Fast.tw3013351784316120532 w 11 (some (.ref 6)) 1 57 (SB PySem.W.Fast.tw3013351784316120532 w os) (whole exx PySem.W.Fast.tw3013351784316120532 0 4 ⟨0, 0, 0, 0⟩) = some (.next, S3 PySem.W.Fast.tw3013351784316120532 w os, cE PySem.W.Fast.tw3013351784316120532, ⟨9, 0, 9, 2⟩) := by kernel_rfl
theorem g0 (w : World) (os : OsState) : segRunT treeTable PySem.Challenge.pw_re0076_01 w 11 (some (.ref 6)) 1 57 (SB PySem.Challenge.pw_re0076_01 w os) (whole execs PySem.Challenge.pw_re0076_01 0 4 ⟨0, 0, 0, 0⟩) = some (.next, S3 PySem.Challenge.pw_re0076_01 w os, cE PySem.Challenge.pw_re0076_01, ⟨9, 0, 9, 2⟩) := by
  rw [PySem.W.Fast.te10110043849684766642, PySem.W.Fast.te12563942051412417395, PySem.W.Fast.te14364793385576792824, PySem.W.Fast.te3013351784316120532]
  exact g0t w os
theorem g5t (w : World) (os : OsState) : sR tbl PySem.W.Fast.tw3013351784316120532 w 11 (some (.ref 6)) 1 133 (S4e PySem.W.Fast.tw3013351784316120532 w os) (whole exx PySem.W.Fast.tw3013351784316120532 5 8 ⟨10, 0, 10, 11⟩) = some (.next, S12 PySem.W.Fast.tw3013351784316120532 w os, cE PySem.W.Fast.tw3013351784316120532, ⟨18, 0, 18, 8⟩) := by kernel_rfl
theorem g5 (w : World) (os : OsState) : segRunT treeTable PySem.Challenge.pw_re0076_01 w 11 (some (.ref 6)) 1 133 (S4e PySem.Challenge.pw_re0076_01 w os) (whole execs PySem.Challenge.pw_re0076_01 5 8 ⟨10, 0, 10, 11⟩) = some (.next, S12 PySem.Challenge.pw_re0076_01 w os, cE PySem.Challenge.pw_re0076_01, ⟨18, 0, 18, 8⟩) := by
  rw [PySem.W.Fast.te10110043849684766642, PySem.W.Fast.te12563942051412417395, PySem.W.Fast.te14364793385576792824, PySem.W.Fast.te3013351784316120532]
  exact g5t w os
theorem g14t (w : World) (os : OsState) : sR tbl PySem.W.Fast.tw3013351784316120532 w 11 (some (.ref 6)) 1 25 (S13e PySem.W.Fast.tw3013351784316120532 w os) (whole exx PySem.W.Fast.tw3013351784316120532 14 1 ⟨19, 9, 19, 74⟩) = some (.next, S14 PySem.W.Fast.tw3013351784316120532 w os, cE PySem.W.Fast.tw3013351784316120532, ⟨21, 0, 21, 28⟩) := by kernel_rfl
theorem g14 (w : World) (os : OsState) : segRunT treeTable PySem.Challenge.pw_re0076_01 w 11 (some (.ref 6)) 1 25 (S13e PySem.Challenge.pw_re0076_01 w os) (whole execs PySem.Challenge.pw_re0076_01 14 1 ⟨19, 9, 19, 74⟩) = some (.next, S14 PySem.Challenge.pw_re0076_01 w os, cE PySem.Challenge.pw_re0076_01, ⟨21, 0, 21, 28⟩) := by
  rw [PySem.W.Fast.te10110043849684766642, PySem.W.Fast.te12563942051412417395, PySem.W.Fast.te14364793385576792824, PySem.W.Fast.te3013351784316120532]
  exact g14t w os
theorem g16tt (w : World) (os : OsState) : sR tbl PySem.W.Fast.tw3013351784316120532 (W1 w true) 11 (some (.ref 6)) 1 209 (S15e PySem.W.Fast.tw3013351784316120532 (W1 w true) os) (whole exx PySem.W.Fast.tw3013351784316120532 16 5 ⟨22, 9, 22, 110⟩) = some (.next, S20 PySem.W.Fast.tw3013351784316120532 (W1 w true) os, cE PySem.W.Fast.tw3013351784316120532, ⟨31, 4, 31, 5⟩) := by kernel_rfl
theorem g16t (w : World) (os : OsState) : segRunT treeTable PySem.Challenge.pw_re0076_01 (W1 w true) 11 (some (.ref 6)) 1 209 (S15e PySem.Challenge.pw_re0076_01 (W1 w true) os) (whole execs PySem.Challenge.pw_re0076_01 16 5 ⟨22, 9, 22, 110⟩) = some (.next, S20 PySem.Challenge.pw_re0076_01 (W1 w true) os, cE PySem.Challenge.pw_re0076_01, ⟨31, 4, 31, 5⟩) := by
  rw [PySem.W.Fast.te10110043849684766642, PySem.W.Fast.te12563942051412417395, PySem.W.Fast.te14364793385576792824, PySem.W.Fast.te3013351784316120532]
  exact g16tt w os
theorem g16ft (w : World) (os : OsState) : sR tbl PySem.W.Fast.tw3013351784316120532 (W1 w false) 11 (some (.ref 6)) 1 209 (S15e PySem.W.Fast.tw3013351784316120532 (W1 w false) os) (whole exx PySem.W.Fast.tw3013351784316120532 16 5 ⟨22, 9, 22, 110⟩) = some (.next, S20 PySem.W.Fast.tw3013351784316120532 (W1 w false) os, cE PySem.W.Fast.tw3013351784316120532, ⟨31, 4, 31, 5⟩) := by kernel_rfl
theorem g16f (w : World) (os : OsState) : segRunT treeTable PySem.Challenge.pw_re0076_01 (W1 w false) 11 (some (.ref 6)) 1 209 (S15e PySem.Challenge.pw_re0076_01 (W1 w false) os) (whole execs PySem.Challenge.pw_re0076_01 16 5 ⟨22, 9, 22, 110⟩) = some (.next, S20 PySem.Challenge.pw_re0076_01 (W1 w false) os, cE PySem.Challenge.pw_re0076_01, ⟨31, 4, 31, 5⟩) := by
  rw [PySem.W.Fast.te10110043849684766642, PySem.W.Fast.te12563942051412417395, PySem.W.Fast.te14364793385576792824, PySem.W.Fast.te3013351784316120532]
  exact g16ft w os
theorem g21t (w : World) (os : OsState) : sR tbl PySem.W.Fast.tw3013351784316120532 w 11 (some (.ref 6)) 1 259 (S20 PySem.W.Fast.tw3013351784316120532 w os) (whole exx PySem.W.Fast.tw3013351784316120532 21 9 ⟨31, 4, 31, 5⟩) = some (.next, S29 PySem.W.Fast.tw3013351784316120532 w os, cE PySem.W.Fast.tw3013351784316120532, ⟨139, 0, 160, 49⟩) := by kernel_rfl
theorem g21 (w : World) (os : OsState) : segRunT treeTable PySem.Challenge.pw_re0076_01 w 11 (some (.ref 6)) 1 259 (S20 PySem.Challenge.pw_re0076_01 w os) (whole execs PySem.Challenge.pw_re0076_01 21 9 ⟨31, 4, 31, 5⟩) = some (.next, S29 PySem.Challenge.pw_re0076_01 w os, cE PySem.Challenge.pw_re0076_01, ⟨139, 0, 160, 49⟩) := by
  rw [PySem.W.Fast.te10110043849684766642, PySem.W.Fast.te12563942051412417395, PySem.W.Fast.te14364793385576792824, PySem.W.Fast.te3013351784316120532]
  exact g21t w os
theorem c4_0t (w : World) (os : OsState) (F : Frame) : sG tbl PySem.W.Fast.tw3013351784316120532 w 11 (some (.ref 6)) 1 592 (S4 PySem.W.Fast.tw3013351784316120532 w os 0) (T4 dn PySem.W.Fast.tw3013351784316120532 (q4 0) F) = some (S4 PySem.W.Fast.tw3013351784316120532 w os 16, T4 dn PySem.W.Fast.tw3013351784316120532 (q4 16) F) := by kernel_rfl
theorem c4_0 (w : World) (os : OsState) (F : Frame) : segGoT treeTable PySem.Challenge.pw_re0076_01 w 11 (some (.ref 6)) 1 592 (S4 PySem.Challenge.pw_re0076_01 w os 0) (T4 (denote treeTable) PySem.Challenge.pw_re0076_01 (q4 0) F) = some (S4 PySem.Challenge.pw_re0076_01 w os 16, T4 (denote treeTable) PySem.Challenge.pw_re0076_01 (q4 16) F) := by
  rw [PySem.W.Fast.te10295753902157049106, PySem.W.Fast.te11892475500146522536, PySem.W.Fast.te14364793385576792824, PySem.W.Fast.te3013351784316120532]
  exact c4_0t w os F
theorem c4_16t (w : World) (os : OsState) (F : Frame) : sG tbl PySem.W.Fast.tw3013351784316120532 w 11 (some (.ref 6)) 1 592 (S4 PySem.W.Fast.tw3013351784316120532 w os 16) (T4 dn PySem.W.Fast.tw3013351784316120532 (q4 16) F) = some (S4 PySem.W.Fast.tw3013351784316120532 w os 32, T4 dn PySem.W.Fast.tw3013351784316120532 (q4 32) F) := by kernel_rfl
theorem c4_16 (w : World) (os : OsState) (F : Frame) : segGoT treeTable PySem.Challenge.pw_re0076_01 w 11 (some (.ref 6)) 1 592 (S4 PySem.Challenge.pw_re0076_01 w os 16) (T4 (denote treeTable) PySem.Challenge.pw_re0076_01 (q4 16) F) = some (S4 PySem.Challenge.pw_re0076_01 w os 32, T4 (denote treeTable) PySem.Challenge.pw_re0076_01 (q4 32) F) := by
  rw [PySem.W.Fast.te10295753902157049106, PySem.W.Fast.te11892475500146522536, PySem.W.Fast.te14364793385576792824, PySem.W.Fast.te3013351784316120532]
  exact c4_16t w os F
theorem c4_32t (w : World) (os : OsState) (F : Frame) : sG tbl PySem.W.Fast.tw3013351784316120532 w 11 (some (.ref 6)) 1 592 (S4 PySem.W.Fast.tw3013351784316120532 w os 32) (T4 dn PySem.W.Fast.tw3013351784316120532 (q4 32) F) = some (S4 PySem.W.Fast.tw3013351784316120532 w os 48, T4 dn PySem.W.Fast.tw3013351784316120532 (q4 48) F) := by kernel_rfl
theorem c4_32 (w : World) (os : OsState) (F : Frame) : segGoT treeTable PySem.Challenge.pw_re0076_01 w 11 (some (.ref 6)) 1 592 (S4 PySem.Challenge.pw_re0076_01 w os 32) (T4 (denote treeTable) PySem.Challenge.pw_re0076_01 (q4 32) F) = some (S4 PySem.Challenge.pw_re0076_01 w os 48, T4 (denote treeTable) PySem.Challenge.pw_re0076_01 (q4 48) F) := by
  rw [PySem.W.Fast.te10295753902157049106, PySem.W.Fast.te11892475500146522536, PySem.W.Fast.te14364793385576792824, PySem.W.Fast.te3013351784316120532]
  exact c4_32t w os F
theorem c4_48t (w : World) (os : OsState) (F : Frame) : sG tbl PySem.W.Fast.tw3013351784316120532 w 11 (some (.ref 6)) 1 592 (S4 PySem.W.Fast.tw3013351784316120532 w os 48) (T4 dn PySem.W.Fast.tw3013351784316120532 (q4 48) F) = some (S4 PySem.W.Fast.tw3013351784316120532 w os 64, T4 dn PySem.W.Fast.tw3013351784316120532 (q4 64) F) := by kernel_rfl
theorem c4_48 (w : World) (os : OsState) (F : Frame) : segGoT treeTable PySem.Challenge.pw_re0076_01 w 11 (some (.ref 6)) 1 592 (S4 PySem.Challenge.pw_re0076_01 w os 48) (T4 (denote treeTable) PySem.Challenge.pw_re0076_01 (q4 48) F) = some (S4 PySem.Challenge.pw_re0076_01 w os 64, T4 (denote treeTable) PySem.Challenge.pw_re0076_01 (q4 64) F) := by
  rw [PySem.W.Fast.te10295753902157049106, PySem.W.Fast.te11892475500146522536, PySem.W.Fast.te14364793385576792824, PySem.W.Fast.te3013351784316120532]
  exact c4_48t w os F
theorem c4_64t (w : World) (os : OsState) (F : Frame) : sG tbl PySem.W.Fast.tw3013351784316120532 w 11 (some (.ref 6)) 1 592 (S4 PySem.W.Fast.tw3013351784316120532 w os 64) (T4 dn PySem.W.Fast.tw3013351784316120532 (q4 64) F) = some (S4 PySem.W.Fast.tw3013351784316120532 w os 80, T4 dn PySem.W.Fast.tw3013351784316120532 (q4 80) F) := by kernel_rfl
theorem c4_64 (w : World) (os : OsState) (F : Frame) : segGoT treeTable PySem.Challenge.pw_re0076_01 w 11 (some (.ref 6)) 1 592 (S4 PySem.Challenge.pw_re0076_01 w os 64) (T4 (denote treeTable) PySem.Challenge.pw_re0076_01 (q4 64) F) = some (S4 PySem.Challenge.pw_re0076_01 w os 80, T4 (denote treeTable) PySem.Challenge.pw_re0076_01 (q4 80) F) := by
  rw [PySem.W.Fast.te10295753902157049106, PySem.W.Fast.te11892475500146522536, PySem.W.Fast.te14364793385576792824, PySem.W.Fast.te3013351784316120532]
  exact c4_64t w os F
theorem c4_80t (w : World) (os : OsState) (F : Frame) : sG tbl PySem.W.Fast.tw3013351784316120532 w 11 (some (.ref 6)) 1 592 (S4 PySem.W.Fast.tw3013351784316120532 w os 80) (T4 dn PySem.W.Fast.tw3013351784316120532 (q4 80) F) = some (S4 PySem.W.Fast.tw3013351784316120532 w os 96, T4 dn PySem.W.Fast.tw3013351784316120532 (q4 96) F) := by kernel_rfl
theorem c4_80 (w : World) (os : OsState) (F : Frame) : segGoT treeTable PySem.Challenge.pw_re0076_01 w 11 (some (.ref 6)) 1 592 (S4 PySem.Challenge.pw_re0076_01 w os 80) (T4 (denote treeTable) PySem.Challenge.pw_re0076_01 (q4 80) F) = some (S4 PySem.Challenge.pw_re0076_01 w os 96, T4 (denote treeTable) PySem.Challenge.pw_re0076_01 (q4 96) F) := by
  rw [PySem.W.Fast.te10295753902157049106, PySem.W.Fast.te11892475500146522536, PySem.W.Fast.te14364793385576792824, PySem.W.Fast.te3013351784316120532]
  exact c4_80t w os F
theorem c4_96t (w : World) (os : OsState) (F : Frame) : sG tbl PySem.W.Fast.tw3013351784316120532 w 11 (some (.ref 6)) 1 592 (S4 PySem.W.Fast.tw3013351784316120532 w os 96) (T4 dn PySem.W.Fast.tw3013351784316120532 (q4 96) F) = some (S4 PySem.W.Fast.tw3013351784316120532 w os 112, T4 dn PySem.W.Fast.tw3013351784316120532 (q4 112) F) := by kernel_rfl
theorem c4_96 (w : World) (os : OsState) (F : Frame) : segGoT treeTable PySem.Challenge.pw_re0076_01 w 11 (some (.ref 6)) 1 592 (S4 PySem.Challenge.pw_re0076_01 w os 96) (T4 (denote treeTable) PySem.Challenge.pw_re0076_01 (q4 96) F) = some (S4 PySem.Challenge.pw_re0076_01 w os 112, T4 (denote treeTable) PySem.Challenge.pw_re0076_01 (q4 112) F) := by
  rw [PySem.W.Fast.te10295753902157049106, PySem.W.Fast.te11892475500146522536, PySem.W.Fast.te14364793385576792824, PySem.W.Fast.te3013351784316120532]
  exact c4_96t w os F
theorem c4_112t (w : World) (os : OsState) (F : Frame) : sG tbl PySem.W.Fast.tw3013351784316120532 w 11 (some (.ref 6)) 1 592 (S4 PySem.W.Fast.tw3013351784316120532 w os 112) (T4 dn PySem.W.Fast.tw3013351784316120532 (q4 112) F) = some (S4 PySem.W.Fast.tw3013351784316120532 w os 128, T4 dn PySem.W.Fast.tw3013351784316120532 (q4 128) F) := by kernel_rfl
theorem c4_112 (w : World) (os : OsState) (F : Frame) : segGoT treeTable PySem.Challenge.pw_re0076_01 w 11 (some (.ref 6)) 1 592 (S4 PySem.Challenge.pw_re0076_01 w os 112) (T4 (denote treeTable) PySem.Challenge.pw_re0076_01 (q4 112) F) = some (S4 PySem.Challenge.pw_re0076_01 w os 128, T4 (denote treeTable) PySem.Challenge.pw_re0076_01 (q4 128) F) := by
  rw [PySem.W.Fast.te10295753902157049106, PySem.W.Fast.te11892475500146522536, PySem.W.Fast.te14364793385576792824, PySem.W.Fast.te3013351784316120532]
  exact c4_112t w os F
theorem c4_128t (w : World) (os : OsState) (F : Frame) : sG tbl PySem.W.Fast.tw3013351784316120532 w 11 (some (.ref 6)) 1 592 (S4 PySem.W.Fast.tw3013351784316120532 w os 128) (T4 dn PySem.W.Fast.tw3013351784316120532 (q4 128) F) = some (S4 PySem.W.Fast.tw3013351784316120532 w os 144, T4 dn PySem.W.Fast.tw3013351784316120532 (q4 144) F) := by kernel_rfl
theorem c4_128 (w : World) (os : OsState) (F : Frame) : segGoT treeTable PySem.Challenge.pw_re0076_01 w 11 (some (.ref 6)) 1 592 (S4 PySem.Challenge.pw_re0076_01 w os 128) (T4 (denote treeTable) PySem.Challenge.pw_re0076_01 (q4 128) F) = some (S4 PySem.Challenge.pw_re0076_01 w os 144, T4 (denote treeTable) PySem.Challenge.pw_re0076_01 (q4 144) F) := by
  rw [PySem.W.Fast.te10295753902157049106, PySem.W.Fast.te11892475500146522536, PySem.W.Fast.te14364793385576792824, PySem.W.Fast.te3013351784316120532]
  exact c4_128t w os F
theorem c4_144t (w : World) (os : OsState) (F : Frame) : sG tbl PySem.W.Fast.tw3013351784316120532 w 11 (some (.ref 6)) 1 592 (S4 PySem.W.Fast.tw3013351784316120532 w os 144) (T4 dn PySem.W.Fast.tw3013351784316120532 (q4 144) F) = some (S4 PySem.W.Fast.tw3013351784316120532 w os 160, T4 dn PySem.W.Fast.tw3013351784316120532 (q4 160) F) := by kernel_rfl
theorem c4_144 (w : World) (os : OsState) (F : Frame) : segGoT treeTable PySem.Challenge.pw_re0076_01 w 11 (some (.ref 6)) 1 592 (S4 PySem.Challenge.pw_re0076_01 w os 144) (T4 (denote treeTable) PySem.Challenge.pw_re0076_01 (q4 144) F) = some (S4 PySem.Challenge.pw_re0076_01 w os 160, T4 (denote treeTable) PySem.Challenge.pw_re0076_01 (q4 160) F) := by
  rw [PySem.W.Fast.te10295753902157049106, PySem.W.Fast.te11892475500146522536, PySem.W.Fast.te14364793385576792824, PySem.W.Fast.te3013351784316120532]
  exact c4_144t w os F
theorem c4_160t (w : World) (os : OsState) (F : Frame) : sG tbl PySem.W.Fast.tw3013351784316120532 w 11 (some (.ref 6)) 1 592 (S4 PySem.W.Fast.tw3013351784316120532 w os 160) (T4 dn PySem.W.Fast.tw3013351784316120532 (q4 160) F) = some (S4 PySem.W.Fast.tw3013351784316120532 w os 176, T4 dn PySem.W.Fast.tw3013351784316120532 (q4 176) F) := by kernel_rfl
theorem c4_160 (w : World) (os : OsState) (F : Frame) : segGoT treeTable PySem.Challenge.pw_re0076_01 w 11 (some (.ref 6)) 1 592 (S4 PySem.Challenge.pw_re0076_01 w os 160) (T4 (denote treeTable) PySem.Challenge.pw_re0076_01 (q4 160) F) = some (S4 PySem.Challenge.pw_re0076_01 w os 176, T4 (denote treeTable) PySem.Challenge.pw_re0076_01 (q4 176) F) := by
  rw [PySem.W.Fast.te10295753902157049106, PySem.W.Fast.te11892475500146522536, PySem.W.Fast.te14364793385576792824, PySem.W.Fast.te3013351784316120532]
  exact c4_160t w os F
theorem c4_176t (w : World) (os : OsState) (F : Frame) : sG tbl PySem.W.Fast.tw3013351784316120532 w 11 (some (.ref 6)) 1 592 (S4 PySem.W.Fast.tw3013351784316120532 w os 176) (T4 dn PySem.W.Fast.tw3013351784316120532 (q4 176) F) = some (S4 PySem.W.Fast.tw3013351784316120532 w os 192, T4 dn PySem.W.Fast.tw3013351784316120532 (q4 192) F) := by kernel_rfl
theorem c4_176 (w : World) (os : OsState) (F : Frame) : segGoT treeTable PySem.Challenge.pw_re0076_01 w 11 (some (.ref 6)) 1 592 (S4 PySem.Challenge.pw_re0076_01 w os 176) (T4 (denote treeTable) PySem.Challenge.pw_re0076_01 (q4 176) F) = some (S4 PySem.Challenge.pw_re0076_01 w os 192, T4 (denote treeTable) PySem.Challenge.pw_re0076_01 (q4 192) F) := by
  rw [PySem.W.Fast.te10295753902157049106, PySem.W.Fast.te11892475500146522536, PySem.W.Fast.te14364793385576792824, PySem.W.Fast.te3013351784316120532]
  exact c4_176t w os F
theorem c4_192t (w : World) (os : OsState) (F : Frame) : sG tbl PySem.W.Fast.tw3013351784316120532 w 11 (some (.ref 6)) 1 592 (S4 PySem.W.Fast.tw3013351784316120532 w os 192) (T4 dn PySem.W.Fast.tw3013351784316120532 (q4 192) F) = some (S4 PySem.W.Fast.tw3013351784316120532 w os 208, T4 dn PySem.W.Fast.tw3013351784316120532 (q4 208) F) := by kernel_rfl
theorem c4_192 (w : World) (os : OsState) (F : Frame) : segGoT treeTable PySem.Challenge.pw_re0076_01 w 11 (some (.ref 6)) 1 592 (S4 PySem.Challenge.pw_re0076_01 w os 192) (T4 (denote treeTable) PySem.Challenge.pw_re0076_01 (q4 192) F) = some (S4 PySem.Challenge.pw_re0076_01 w os 208, T4 (denote treeTable) PySem.Challenge.pw_re0076_01 (q4 208) F) := by
  rw [PySem.W.Fast.te10295753902157049106, PySem.W.Fast.te11892475500146522536, PySem.W.Fast.te14364793385576792824, PySem.W.Fast.te3013351784316120532]
  exact c4_192t w os F
theorem c4_208t (w : World) (os : OsState) (F : Frame) : sG tbl PySem.W.Fast.tw3013351784316120532 w 11 (some (.ref 6)) 1 592 (S4 PySem.W.Fast.tw3013351784316120532 w os 208) (T4 dn PySem.W.Fast.tw3013351784316120532 (q4 208) F) = some (S4 PySem.W.Fast.tw3013351784316120532 w os 224, T4 dn PySem.W.Fast.tw3013351784316120532 (q4 224) F) := by kernel_rfl
theorem c4_208 (w : World) (os : OsState) (F : Frame) : segGoT treeTable PySem.Challenge.pw_re0076_01 w 11 (some (.ref 6)) 1 592 (S4 PySem.Challenge.pw_re0076_01 w os 208) (T4 (denote treeTable) PySem.Challenge.pw_re0076_01 (q4 208) F) = some (S4 PySem.Challenge.pw_re0076_01 w os 224, T4 (denote treeTable) PySem.Challenge.pw_re0076_01 (q4 224) F) := by
  rw [PySem.W.Fast.te10295753902157049106, PySem.W.Fast.te11892475500146522536, PySem.W.Fast.te14364793385576792824, PySem.W.Fast.te3013351784316120532]
  exact c4_208t w os F
theorem c4_224t (w : World) (os : OsState) (F : Frame) : sG tbl PySem.W.Fast.tw3013351784316120532 w 11 (some (.ref 6)) 1 592 (S4 PySem.W.Fast.tw3013351784316120532 w os 224) (T4 dn PySem.W.Fast.tw3013351784316120532 (q4 224) F) = some (S4 PySem.W.Fast.tw3013351784316120532 w os 240, T4 dn PySem.W.Fast.tw3013351784316120532 (q4 240) F) := by kernel_rfl
theorem c4_224 (w : World) (os : OsState) (F : Frame) : segGoT treeTable PySem.Challenge.pw_re0076_01 w 11 (some (.ref 6)) 1 592 (S4 PySem.Challenge.pw_re0076_01 w os 224) (T4 (denote treeTable) PySem.Challenge.pw_re0076_01 (q4 224) F) = some (S4 PySem.Challenge.pw_re0076_01 w os 240, T4 (denote treeTable) PySem.Challenge.pw_re0076_01 (q4 240) F) := by
  rw [PySem.W.Fast.te10295753902157049106, PySem.W.Fast.te11892475500146522536, PySem.W.Fast.te14364793385576792824, PySem.W.Fast.te3013351784316120532]
  exact c4_224t w os F
theorem c4_240t (w : World) (os : OsState) (F : Frame) : sG tbl PySem.W.Fast.tw3013351784316120532 w 11 (some (.ref 6)) 1 592 (S4 PySem.W.Fast.tw3013351784316120532 w os 240) (T4 dn PySem.W.Fast.tw3013351784316120532 (q4 240) F) = some (S4 PySem.W.Fast.tw3013351784316120532 w os 256, T4 dn PySem.W.Fast.tw3013351784316120532 (q4 256) F) := by kernel_rfl
theorem c4_240 (w : World) (os : OsState) (F : Frame) : segGoT treeTable PySem.Challenge.pw_re0076_01 w 11 (some (.ref 6)) 1 592 (S4 PySem.Challenge.pw_re0076_01 w os 240) (T4 (denote treeTable) PySem.Challenge.pw_re0076_01 (q4 240) F) = some (S4 PySem.Challenge.pw_re0076_01 w os 256, T4 (denote treeTable) PySem.Challenge.pw_re0076_01 (q4 256) F) := by
  rw [PySem.W.Fast.te10295753902157049106, PySem.W.Fast.te11892475500146522536, PySem.W.Fast.te14364793385576792824, PySem.W.Fast.te3013351784316120532]
  exact c4_240t w os F
theorem c4_all (w : World) (os : OsState) (F : Frame) {N : Nat} {r : Flow × Shared × Code × Pos} (h : segRun treeTable PySem.Challenge.pw_re0076_01 w 11 (some (.ref 6)) 1 N (S4 PySem.Challenge.pw_re0076_01 w os 256).abs (T4 (denote treeTable) PySem.Challenge.pw_re0076_01 (q4 256) F) = some r) : segRun treeTable PySem.Challenge.pw_re0076_01 w 11 (some (.ref 6)) 1 (592 + (592 + (592 + (592 + (592 + (592 + (592 + (592 + (592 + (592 + (592 + (592 + (592 + (592 + (592 + (592 + N)))))))))))))))) (S4 PySem.Challenge.pw_re0076_01 w os 0).abs (T4 (denote treeTable) PySem.Challenge.pw_re0076_01 (q4 0) F) = some r := (seg_go (segGo_of (c4_0 w os F)) (seg_go (segGo_of (c4_16 w os F)) (seg_go (segGo_of (c4_32 w os F)) (seg_go (segGo_of (c4_48 w os F)) (seg_go (segGo_of (c4_64 w os F)) (seg_go (segGo_of (c4_80 w os F)) (seg_go (segGo_of (c4_96 w os F)) (seg_go (segGo_of (c4_112 w os F)) (seg_go (segGo_of (c4_128 w os F)) (seg_go (segGo_of (c4_144 w os F)) (seg_go (segGo_of (c4_160 w os F)) (seg_go (segGo_of (c4_176 w os F)) (seg_go (segGo_of (c4_192 w os F)) (seg_go (segGo_of (c4_208 w os F)) (seg_go (segGo_of (c4_224 w os F)) (seg_go (segGo_of (c4_240 w os F)) h))))))))))))))))
theorem c13_0t (w : World) (os : OsState) (F : Frame) : sG tbl PySem.W.Fast.tw3013351784316120532 w 11 (some (.ref 6)) 1 450 (S13 PySem.W.Fast.tw3013351784316120532 w os 0) (TF dn PySem.W.Fast.tw3013351784316120532 13 32 (q13 0) F) = some (S13 PySem.W.Fast.tw3013351784316120532 w os 10, TF dn PySem.W.Fast.tw3013351784316120532 13 32 (q13 10) F) := by kernel_rfl
theorem c13_0 (w : World) (os : OsState) (F : Frame) : segGoT treeTable PySem.Challenge.pw_re0076_01 w 11 (some (.ref 6)) 1 450 (S13 PySem.Challenge.pw_re0076_01 w os 0) (TF (denote treeTable) PySem.Challenge.pw_re0076_01 13 32 (q13 0) F) = some (S13 PySem.Challenge.pw_re0076_01 w os 10, TF (denote treeTable) PySem.Challenge.pw_re0076_01 13 32 (q13 10) F) := by
  rw [PySem.W.Fast.te10295753902157049106, PySem.W.Fast.te11892475500146522536, PySem.W.Fast.te14364793385576792824, PySem.W.Fast.te3013351784316120532]
  exact c13_0t w os F
theorem c13_10t (w : World) (os : OsState) (F : Frame) : sG tbl PySem.W.Fast.tw3013351784316120532 w 11 (some (.ref 6)) 1 450 (S13 PySem.W.Fast.tw3013351784316120532 w os 10) (TF dn PySem.W.Fast.tw3013351784316120532 13 32 (q13 10) F) = some (S13 PySem.W.Fast.tw3013351784316120532 w os 20, TF dn PySem.W.Fast.tw3013351784316120532 13 32 (q13 20) F) := by kernel_rfl
theorem c13_10 (w : World) (os : OsState) (F : Frame) : segGoT treeTable PySem.Challenge.pw_re0076_01 w 11 (some (.ref 6)) 1 450 (S13 PySem.Challenge.pw_re0076_01 w os 10) (TF (denote treeTable) PySem.Challenge.pw_re0076_01 13 32 (q13 10) F) = some (S13 PySem.Challenge.pw_re0076_01 w os 20, TF (denote treeTable) PySem.Challenge.pw_re0076_01 13 32 (q13 20) F) := by
  rw [PySem.W.Fast.te10295753902157049106, PySem.W.Fast.te11892475500146522536, PySem.W.Fast.te14364793385576792824, PySem.W.Fast.te3013351784316120532]
  exact c13_10t w os F
theorem c13_20t (w : World) (os : OsState) (F : Frame) : sG tbl PySem.W.Fast.tw3013351784316120532 w 11 (some (.ref 6)) 1 450 (S13 PySem.W.Fast.tw3013351784316120532 w os 20) (TF dn PySem.W.Fast.tw3013351784316120532 13 32 (q13 20) F) = some (S13 PySem.W.Fast.tw3013351784316120532 w os 30, TF dn PySem.W.Fast.tw3013351784316120532 13 32 (q13 30) F) := by kernel_rfl
theorem c13_20 (w : World) (os : OsState) (F : Frame) : segGoT treeTable PySem.Challenge.pw_re0076_01 w 11 (some (.ref 6)) 1 450 (S13 PySem.Challenge.pw_re0076_01 w os 20) (TF (denote treeTable) PySem.Challenge.pw_re0076_01 13 32 (q13 20) F) = some (S13 PySem.Challenge.pw_re0076_01 w os 30, TF (denote treeTable) PySem.Challenge.pw_re0076_01 13 32 (q13 30) F) := by
  rw [PySem.W.Fast.te10295753902157049106, PySem.W.Fast.te11892475500146522536, PySem.W.Fast.te14364793385576792824, PySem.W.Fast.te3013351784316120532]
  exact c13_20t w os F
theorem c13_30t (w : World) (os : OsState) (F : Frame) : sG tbl PySem.W.Fast.tw3013351784316120532 w 11 (some (.ref 6)) 1 450 (S13 PySem.W.Fast.tw3013351784316120532 w os 30) (TF dn PySem.W.Fast.tw3013351784316120532 13 32 (q13 30) F) = some (S13 PySem.W.Fast.tw3013351784316120532 w os 40, TF dn PySem.W.Fast.tw3013351784316120532 13 32 (q13 40) F) := by kernel_rfl
theorem c13_30 (w : World) (os : OsState) (F : Frame) : segGoT treeTable PySem.Challenge.pw_re0076_01 w 11 (some (.ref 6)) 1 450 (S13 PySem.Challenge.pw_re0076_01 w os 30) (TF (denote treeTable) PySem.Challenge.pw_re0076_01 13 32 (q13 30) F) = some (S13 PySem.Challenge.pw_re0076_01 w os 40, TF (denote treeTable) PySem.Challenge.pw_re0076_01 13 32 (q13 40) F) := by
  rw [PySem.W.Fast.te10295753902157049106, PySem.W.Fast.te11892475500146522536, PySem.W.Fast.te14364793385576792824, PySem.W.Fast.te3013351784316120532]
  exact c13_30t w os F
theorem c13_40t (w : World) (os : OsState) (F : Frame) : sG tbl PySem.W.Fast.tw3013351784316120532 w 11 (some (.ref 6)) 1 450 (S13 PySem.W.Fast.tw3013351784316120532 w os 40) (TF dn PySem.W.Fast.tw3013351784316120532 13 32 (q13 40) F) = some (S13 PySem.W.Fast.tw3013351784316120532 w os 50, TF dn PySem.W.Fast.tw3013351784316120532 13 32 (q13 50) F) := by kernel_rfl
theorem c13_40 (w : World) (os : OsState) (F : Frame) : segGoT treeTable PySem.Challenge.pw_re0076_01 w 11 (some (.ref 6)) 1 450 (S13 PySem.Challenge.pw_re0076_01 w os 40) (TF (denote treeTable) PySem.Challenge.pw_re0076_01 13 32 (q13 40) F) = some (S13 PySem.Challenge.pw_re0076_01 w os 50, TF (denote treeTable) PySem.Challenge.pw_re0076_01 13 32 (q13 50) F) := by
  rw [PySem.W.Fast.te10295753902157049106, PySem.W.Fast.te11892475500146522536, PySem.W.Fast.te14364793385576792824, PySem.W.Fast.te3013351784316120532]
  exact c13_40t w os F
theorem c13_50t (w : World) (os : OsState) (F : Frame) : sG tbl PySem.W.Fast.tw3013351784316120532 w 11 (some (.ref 6)) 1 450 (S13 PySem.W.Fast.tw3013351784316120532 w os 50) (TF dn PySem.W.Fast.tw3013351784316120532 13 32 (q13 50) F) = some (S13 PySem.W.Fast.tw3013351784316120532 w os 60, TF dn PySem.W.Fast.tw3013351784316120532 13 32 (q13 60) F) := by kernel_rfl
theorem c13_50 (w : World) (os : OsState) (F : Frame) : segGoT treeTable PySem.Challenge.pw_re0076_01 w 11 (some (.ref 6)) 1 450 (S13 PySem.Challenge.pw_re0076_01 w os 50) (TF (denote treeTable) PySem.Challenge.pw_re0076_01 13 32 (q13 50) F) = some (S13 PySem.Challenge.pw_re0076_01 w os 60, TF (denote treeTable) PySem.Challenge.pw_re0076_01 13 32 (q13 60) F) := by
  rw [PySem.W.Fast.te10295753902157049106, PySem.W.Fast.te11892475500146522536, PySem.W.Fast.te14364793385576792824, PySem.W.Fast.te3013351784316120532]
  exact c13_50t w os F
theorem c13_60t (w : World) (os : OsState) (F : Frame) : sG tbl PySem.W.Fast.tw3013351784316120532 w 11 (some (.ref 6)) 1 315 (S13 PySem.W.Fast.tw3013351784316120532 w os 60) (TF dn PySem.W.Fast.tw3013351784316120532 13 32 (q13 60) F) = some (S13 PySem.W.Fast.tw3013351784316120532 w os 67, TF dn PySem.W.Fast.tw3013351784316120532 13 32 (q13 67) F) := by kernel_rfl
theorem c13_60 (w : World) (os : OsState) (F : Frame) : segGoT treeTable PySem.Challenge.pw_re0076_01 w 11 (some (.ref 6)) 1 315 (S13 PySem.Challenge.pw_re0076_01 w os 60) (TF (denote treeTable) PySem.Challenge.pw_re0076_01 13 32 (q13 60) F) = some (S13 PySem.Challenge.pw_re0076_01 w os 67, TF (denote treeTable) PySem.Challenge.pw_re0076_01 13 32 (q13 67) F) := by
  rw [PySem.W.Fast.te10295753902157049106, PySem.W.Fast.te11892475500146522536, PySem.W.Fast.te14364793385576792824, PySem.W.Fast.te3013351784316120532]
  exact c13_60t w os F
theorem c13_all (w : World) (os : OsState) (F : Frame) {N : Nat} {r : Flow × Shared × Code × Pos} (h : segRun treeTable PySem.Challenge.pw_re0076_01 w 11 (some (.ref 6)) 1 N (S13 PySem.Challenge.pw_re0076_01 w os 67).abs (TF (denote treeTable) PySem.Challenge.pw_re0076_01 13 32 (q13 67) F) = some r) : segRun treeTable PySem.Challenge.pw_re0076_01 w 11 (some (.ref 6)) 1 (450 + (450 + (450 + (450 + (450 + (450 + (315 + N))))))) (S13 PySem.Challenge.pw_re0076_01 w os 0).abs (TF (denote treeTable) PySem.Challenge.pw_re0076_01 13 32 (q13 0) F) = some r := (seg_go (segGo_of (c13_0 w os F)) (seg_go (segGo_of (c13_10 w os F)) (seg_go (segGo_of (c13_20 w os F)) (seg_go (segGo_of (c13_30 w os F)) (seg_go (segGo_of (c13_40 w os F)) (seg_go (segGo_of (c13_50 w os F)) (seg_go (segGo_of (c13_60 w os F)) h)))))))
theorem c15_0t (w : World) (os : OsState) (F : Frame) : sG tbl PySem.W.Fast.tw3013351784316120532 w 11 (some (.ref 6)) 1 450 (S15 PySem.W.Fast.tw3013351784316120532 w os 0) (TF dn PySem.W.Fast.tw3013351784316120532 15 35 (q15 0) F) = some (S15 PySem.W.Fast.tw3013351784316120532 w os 10, TF dn PySem.W.Fast.tw3013351784316120532 15 35 (q15 10) F) := by kernel_rfl
theorem c15_0 (w : World) (os : OsState) (F : Frame) : segGoT treeTable PySem.Challenge.pw_re0076_01 w 11 (some (.ref 6)) 1 450 (S15 PySem.Challenge.pw_re0076_01 w os 0) (TF (denote treeTable) PySem.Challenge.pw_re0076_01 15 35 (q15 0) F) = some (S15 PySem.Challenge.pw_re0076_01 w os 10, TF (denote treeTable) PySem.Challenge.pw_re0076_01 15 35 (q15 10) F) := by
  rw [PySem.W.Fast.te10295753902157049106, PySem.W.Fast.te11892475500146522536, PySem.W.Fast.te14364793385576792824, PySem.W.Fast.te3013351784316120532]
  exact c15_0t w os F
theorem c15_10t (w : World) (os : OsState) (F : Frame) : sG tbl PySem.W.Fast.tw3013351784316120532 w 11 (some (.ref 6)) 1 450 (S15 PySem.W.Fast.tw3013351784316120532 w os 10) (TF dn PySem.W.Fast.tw3013351784316120532 15 35 (q15 10) F) = some (S15 PySem.W.Fast.tw3013351784316120532 w os 20, TF dn PySem.W.Fast.tw3013351784316120532 15 35 (q15 20) F) := by kernel_rfl
theorem c15_10 (w : World) (os : OsState) (F : Frame) : segGoT treeTable PySem.Challenge.pw_re0076_01 w 11 (some (.ref 6)) 1 450 (S15 PySem.Challenge.pw_re0076_01 w os 10) (TF (denote treeTable) PySem.Challenge.pw_re0076_01 15 35 (q15 10) F) = some (S15 PySem.Challenge.pw_re0076_01 w os 20, TF (denote treeTable) PySem.Challenge.pw_re0076_01 15 35 (q15 20) F) := by
  rw [PySem.W.Fast.te10295753902157049106, PySem.W.Fast.te11892475500146522536, PySem.W.Fast.te14364793385576792824, PySem.W.Fast.te3013351784316120532]
  exact c15_10t w os F
theorem c15_20t (w : World) (os : OsState) (F : Frame) : sG tbl PySem.W.Fast.tw3013351784316120532 w 11 (some (.ref 6)) 1 450 (S15 PySem.W.Fast.tw3013351784316120532 w os 20) (TF dn PySem.W.Fast.tw3013351784316120532 15 35 (q15 20) F) = some (S15 PySem.W.Fast.tw3013351784316120532 w os 30, TF dn PySem.W.Fast.tw3013351784316120532 15 35 (q15 30) F) := by kernel_rfl
theorem c15_20 (w : World) (os : OsState) (F : Frame) : segGoT treeTable PySem.Challenge.pw_re0076_01 w 11 (some (.ref 6)) 1 450 (S15 PySem.Challenge.pw_re0076_01 w os 20) (TF (denote treeTable) PySem.Challenge.pw_re0076_01 15 35 (q15 20) F) = some (S15 PySem.Challenge.pw_re0076_01 w os 30, TF (denote treeTable) PySem.Challenge.pw_re0076_01 15 35 (q15 30) F) := by
  rw [PySem.W.Fast.te10295753902157049106, PySem.W.Fast.te11892475500146522536, PySem.W.Fast.te14364793385576792824, PySem.W.Fast.te3013351784316120532]
  exact c15_20t w os F
theorem c15_30t (w : World) (os : OsState) (F : Frame) : sG tbl PySem.W.Fast.tw3013351784316120532 w 11 (some (.ref 6)) 1 450 (S15 PySem.W.Fast.tw3013351784316120532 w os 30) (TF dn PySem.W.Fast.tw3013351784316120532 15 35 (q15 30) F) = some (S15 PySem.W.Fast.tw3013351784316120532 w os 40, TF dn PySem.W.Fast.tw3013351784316120532 15 35 (q15 40) F) := by kernel_rfl
theorem c15_30 (w : World) (os : OsState) (F : Frame) : segGoT treeTable PySem.Challenge.pw_re0076_01 w 11 (some (.ref 6)) 1 450 (S15 PySem.Challenge.pw_re0076_01 w os 30) (TF (denote treeTable) PySem.Challenge.pw_re0076_01 15 35 (q15 30) F) = some (S15 PySem.Challenge.pw_re0076_01 w os 40, TF (denote treeTable) PySem.Challenge.pw_re0076_01 15 35 (q15 40) F) := by
  rw [PySem.W.Fast.te10295753902157049106, PySem.W.Fast.te11892475500146522536, PySem.W.Fast.te14364793385576792824, PySem.W.Fast.te3013351784316120532]
  exact c15_30t w os F
theorem c15_40t (w : World) (os : OsState) (F : Frame) : sG tbl PySem.W.Fast.tw3013351784316120532 w 11 (some (.ref 6)) 1 450 (S15 PySem.W.Fast.tw3013351784316120532 w os 40) (TF dn PySem.W.Fast.tw3013351784316120532 15 35 (q15 40) F) = some (S15 PySem.W.Fast.tw3013351784316120532 w os 50, TF dn PySem.W.Fast.tw3013351784316120532 15 35 (q15 50) F) := by kernel_rfl
theorem c15_40 (w : World) (os : OsState) (F : Frame) : segGoT treeTable PySem.Challenge.pw_re0076_01 w 11 (some (.ref 6)) 1 450 (S15 PySem.Challenge.pw_re0076_01 w os 40) (TF (denote treeTable) PySem.Challenge.pw_re0076_01 15 35 (q15 40) F) = some (S15 PySem.Challenge.pw_re0076_01 w os 50, TF (denote treeTable) PySem.Challenge.pw_re0076_01 15 35 (q15 50) F) := by
  rw [PySem.W.Fast.te10295753902157049106, PySem.W.Fast.te11892475500146522536, PySem.W.Fast.te14364793385576792824, PySem.W.Fast.te3013351784316120532]
  exact c15_40t w os F
theorem c15_50t (w : World) (os : OsState) (F : Frame) : sG tbl PySem.W.Fast.tw3013351784316120532 w 11 (some (.ref 6)) 1 450 (S15 PySem.W.Fast.tw3013351784316120532 w os 50) (TF dn PySem.W.Fast.tw3013351784316120532 15 35 (q15 50) F) = some (S15 PySem.W.Fast.tw3013351784316120532 w os 60, TF dn PySem.W.Fast.tw3013351784316120532 15 35 (q15 60) F) := by kernel_rfl
theorem c15_50 (w : World) (os : OsState) (F : Frame) : segGoT treeTable PySem.Challenge.pw_re0076_01 w 11 (some (.ref 6)) 1 450 (S15 PySem.Challenge.pw_re0076_01 w os 50) (TF (denote treeTable) PySem.Challenge.pw_re0076_01 15 35 (q15 50) F) = some (S15 PySem.Challenge.pw_re0076_01 w os 60, TF (denote treeTable) PySem.Challenge.pw_re0076_01 15 35 (q15 60) F) := by
  rw [PySem.W.Fast.te10295753902157049106, PySem.W.Fast.te11892475500146522536, PySem.W.Fast.te14364793385576792824, PySem.W.Fast.te3013351784316120532]
  exact c15_50t w os F
theorem c15_60t (w : World) (os : OsState) (F : Frame) : sG tbl PySem.W.Fast.tw3013351784316120532 w 11 (some (.ref 6)) 1 450 (S15 PySem.W.Fast.tw3013351784316120532 w os 60) (TF dn PySem.W.Fast.tw3013351784316120532 15 35 (q15 60) F) = some (S15 PySem.W.Fast.tw3013351784316120532 w os 70, TF dn PySem.W.Fast.tw3013351784316120532 15 35 (q15 70) F) := by kernel_rfl
theorem c15_60 (w : World) (os : OsState) (F : Frame) : segGoT treeTable PySem.Challenge.pw_re0076_01 w 11 (some (.ref 6)) 1 450 (S15 PySem.Challenge.pw_re0076_01 w os 60) (TF (denote treeTable) PySem.Challenge.pw_re0076_01 15 35 (q15 60) F) = some (S15 PySem.Challenge.pw_re0076_01 w os 70, TF (denote treeTable) PySem.Challenge.pw_re0076_01 15 35 (q15 70) F) := by
  rw [PySem.W.Fast.te10295753902157049106, PySem.W.Fast.te11892475500146522536, PySem.W.Fast.te14364793385576792824, PySem.W.Fast.te3013351784316120532]
  exact c15_60t w os F
theorem c15_70t (w : World) (os : OsState) (F : Frame) : sG tbl PySem.W.Fast.tw3013351784316120532 w 11 (some (.ref 6)) 1 450 (S15 PySem.W.Fast.tw3013351784316120532 w os 70) (TF dn PySem.W.Fast.tw3013351784316120532 15 35 (q15 70) F) = some (S15 PySem.W.Fast.tw3013351784316120532 w os 80, TF dn PySem.W.Fast.tw3013351784316120532 15 35 (q15 80) F) := by kernel_rfl
theorem c15_70 (w : World) (os : OsState) (F : Frame) : segGoT treeTable PySem.Challenge.pw_re0076_01 w 11 (some (.ref 6)) 1 450 (S15 PySem.Challenge.pw_re0076_01 w os 70) (TF (denote treeTable) PySem.Challenge.pw_re0076_01 15 35 (q15 70) F) = some (S15 PySem.Challenge.pw_re0076_01 w os 80, TF (denote treeTable) PySem.Challenge.pw_re0076_01 15 35 (q15 80) F) := by
  rw [PySem.W.Fast.te10295753902157049106, PySem.W.Fast.te11892475500146522536, PySem.W.Fast.te14364793385576792824, PySem.W.Fast.te3013351784316120532]
  exact c15_70t w os F
theorem c15_80t (w : World) (os : OsState) (F : Frame) : sG tbl PySem.W.Fast.tw3013351784316120532 w 11 (some (.ref 6)) 1 450 (S15 PySem.W.Fast.tw3013351784316120532 w os 80) (TF dn PySem.W.Fast.tw3013351784316120532 15 35 (q15 80) F) = some (S15 PySem.W.Fast.tw3013351784316120532 w os 90, TF dn PySem.W.Fast.tw3013351784316120532 15 35 (q15 90) F) := by kernel_rfl
theorem c15_80 (w : World) (os : OsState) (F : Frame) : segGoT treeTable PySem.Challenge.pw_re0076_01 w 11 (some (.ref 6)) 1 450 (S15 PySem.Challenge.pw_re0076_01 w os 80) (TF (denote treeTable) PySem.Challenge.pw_re0076_01 15 35 (q15 80) F) = some (S15 PySem.Challenge.pw_re0076_01 w os 90, TF (denote treeTable) PySem.Challenge.pw_re0076_01 15 35 (q15 90) F) := by
  rw [PySem.W.Fast.te10295753902157049106, PySem.W.Fast.te11892475500146522536, PySem.W.Fast.te14364793385576792824, PySem.W.Fast.te3013351784316120532]
  exact c15_80t w os F
theorem c15_90t (w : World) (os : OsState) (F : Frame) : sG tbl PySem.W.Fast.tw3013351784316120532 w 11 (some (.ref 6)) 1 225 (S15 PySem.W.Fast.tw3013351784316120532 w os 90) (TF dn PySem.W.Fast.tw3013351784316120532 15 35 (q15 90) F) = some (S15 PySem.W.Fast.tw3013351784316120532 w os 95, TF dn PySem.W.Fast.tw3013351784316120532 15 35 (q15 95) F) := by kernel_rfl
theorem c15_90 (w : World) (os : OsState) (F : Frame) : segGoT treeTable PySem.Challenge.pw_re0076_01 w 11 (some (.ref 6)) 1 225 (S15 PySem.Challenge.pw_re0076_01 w os 90) (TF (denote treeTable) PySem.Challenge.pw_re0076_01 15 35 (q15 90) F) = some (S15 PySem.Challenge.pw_re0076_01 w os 95, TF (denote treeTable) PySem.Challenge.pw_re0076_01 15 35 (q15 95) F) := by
  rw [PySem.W.Fast.te10295753902157049106, PySem.W.Fast.te11892475500146522536, PySem.W.Fast.te14364793385576792824, PySem.W.Fast.te3013351784316120532]
  exact c15_90t w os F
theorem c15_all (w : World) (os : OsState) (F : Frame) {N : Nat} {r : Flow × Shared × Code × Pos} (h : segRun treeTable PySem.Challenge.pw_re0076_01 w 11 (some (.ref 6)) 1 N (S15 PySem.Challenge.pw_re0076_01 w os 95).abs (TF (denote treeTable) PySem.Challenge.pw_re0076_01 15 35 (q15 95) F) = some r) : segRun treeTable PySem.Challenge.pw_re0076_01 w 11 (some (.ref 6)) 1 (450 + (450 + (450 + (450 + (450 + (450 + (450 + (450 + (450 + (225 + N)))))))))) (S15 PySem.Challenge.pw_re0076_01 w os 0).abs (TF (denote treeTable) PySem.Challenge.pw_re0076_01 15 35 (q15 0) F) = some r := (seg_go (segGo_of (c15_0 w os F)) (seg_go (segGo_of (c15_10 w os F)) (seg_go (segGo_of (c15_20 w os F)) (seg_go (segGo_of (c15_30 w os F)) (seg_go (segGo_of (c15_40 w os F)) (seg_go (segGo_of (c15_50 w os F)) (seg_go (segGo_of (c15_60 w os F)) (seg_go (segGo_of (c15_70 w os F)) (seg_go (segGo_of (c15_80 w os F)) (seg_go (segGo_of (c15_90 w os F)) h))))))))))
theorem segRun_mono {tb : String → Option Builtin} {p : Program} {w : World} {n₀ : Nat} {ann : Option Value} {b : Nat} (k : Nat) : ∀ (n : Nat) (s : Shared) (t : Thread) (r : Flow × Shared × Code × Pos), segRun tb p w n₀ ann b n s t = some r → segRun tb p w n₀ ann b (n + k) s t = some r
  | 0, _, _, _, h => by simp [segRun] at h
  | n + 1, s, t, r, h => by
    rw [show n + 1 + k = n + k + 1 by omega]
    unfold segRun at h ⊢
    cases he : endAt b t with
    | some f => rw [he] at h; exact h
    | none =>
      rw [he] at h
      cases hk : stepOk n₀ ann t with
      | false => rw [hk] at h; cases h
      | true =>
        rw [hk] at h
        cases hs : step (denote tb) p w s t with
        | halt o s' => rw [hs] at h; cases h
        | go s' t' => rw [hs] at h; exact segRun_mono k n s' t' r h
def F4tt (w : World) (os : OsState) : Frame := frameOf (sG tbl PySem.W.Fast.tw3013351784316120532 (W2 w true true) 11 (some (.ref 6)) 1 42 (S3 PySem.W.Fast.tw3013351784316120532 (W2 w true true) os) (whole exx PySem.W.Fast.tw3013351784316120532 4 1 ⟨9, 0, 9, 2⟩))
theorem p4ttt (w : World) (os : OsState) : sG tbl PySem.W.Fast.tw3013351784316120532 (W2 w true true) 11 (some (.ref 6)) 1 42 (S3 PySem.W.Fast.tw3013351784316120532 (W2 w true true) os) (whole exx PySem.W.Fast.tw3013351784316120532 4 1 ⟨9, 0, 9, 2⟩) = some (S4 PySem.W.Fast.tw3013351784316120532 (W2 w true true) os 0, T4 dn PySem.W.Fast.tw3013351784316120532 (q4 0) (F4tt w os)) := by kernel_rfl
theorem p4tt (w : World) (os : OsState) : segGoT treeTable PySem.Challenge.pw_re0076_01 (W2 w true true) 11 (some (.ref 6)) 1 42 (S3 PySem.Challenge.pw_re0076_01 (W2 w true true) os) (whole execs PySem.Challenge.pw_re0076_01 4 1 ⟨9, 0, 9, 2⟩) = some (S4 PySem.Challenge.pw_re0076_01 (W2 w true true) os 0, T4 (denote treeTable) PySem.Challenge.pw_re0076_01 (q4 0) (F4tt w os)) := by
  rw [PySem.W.Fast.te10295753902157049106, PySem.W.Fast.te11892475500146522536, PySem.W.Fast.te12563942051412417395, PySem.W.Fast.te14364793385576792824, PySem.W.Fast.te3013351784316120532]
  exact p4ttt w os
theorem s4ttt (w : World) (os : OsState) : sR tbl PySem.W.Fast.tw3013351784316120532 (W2 w true true) 11 (some (.ref 6)) 1 40 (S4 PySem.W.Fast.tw3013351784316120532 (W2 w true true) os 256) (T4 dn PySem.W.Fast.tw3013351784316120532 (q4 256) (F4tt w os)) = some (.next, S4e PySem.W.Fast.tw3013351784316120532 (W2 w true true) os, cE PySem.W.Fast.tw3013351784316120532, ⟨10, 0, 10, 11⟩) := by kernel_rfl
theorem s4tt (w : World) (os : OsState) : segRunT treeTable PySem.Challenge.pw_re0076_01 (W2 w true true) 11 (some (.ref 6)) 1 40 (S4 PySem.Challenge.pw_re0076_01 (W2 w true true) os 256) (T4 (denote treeTable) PySem.Challenge.pw_re0076_01 (q4 256) (F4tt w os)) = some (.next, S4e PySem.Challenge.pw_re0076_01 (W2 w true true) os, cE PySem.Challenge.pw_re0076_01, ⟨10, 0, 10, 11⟩) := by
  rw [PySem.W.Fast.te10110043849684766642, PySem.W.Fast.te11892475500146522536, PySem.W.Fast.te14364793385576792824, PySem.W.Fast.te3013351784316120532]
  exact s4ttt w os
def F4tf (w : World) (os : OsState) : Frame := frameOf (sG tbl PySem.W.Fast.tw3013351784316120532 (W2 w true false) 11 (some (.ref 6)) 1 42 (S3 PySem.W.Fast.tw3013351784316120532 (W2 w true false) os) (whole exx PySem.W.Fast.tw3013351784316120532 4 1 ⟨9, 0, 9, 2⟩))
theorem p4tft (w : World) (os : OsState) : sG tbl PySem.W.Fast.tw3013351784316120532 (W2 w true false) 11 (some (.ref 6)) 1 42 (S3 PySem.W.Fast.tw3013351784316120532 (W2 w true false) os) (whole exx PySem.W.Fast.tw3013351784316120532 4 1 ⟨9, 0, 9, 2⟩) = some (S4 PySem.W.Fast.tw3013351784316120532 (W2 w true false) os 0, T4 dn PySem.W.Fast.tw3013351784316120532 (q4 0) (F4tf w os)) := by kernel_rfl
theorem p4tf (w : World) (os : OsState) : segGoT treeTable PySem.Challenge.pw_re0076_01 (W2 w true false) 11 (some (.ref 6)) 1 42 (S3 PySem.Challenge.pw_re0076_01 (W2 w true false) os) (whole execs PySem.Challenge.pw_re0076_01 4 1 ⟨9, 0, 9, 2⟩) = some (S4 PySem.Challenge.pw_re0076_01 (W2 w true false) os 0, T4 (denote treeTable) PySem.Challenge.pw_re0076_01 (q4 0) (F4tf w os)) := by
  rw [PySem.W.Fast.te10295753902157049106, PySem.W.Fast.te11892475500146522536, PySem.W.Fast.te12563942051412417395, PySem.W.Fast.te14364793385576792824, PySem.W.Fast.te3013351784316120532]
  exact p4tft w os
theorem s4tft (w : World) (os : OsState) : sR tbl PySem.W.Fast.tw3013351784316120532 (W2 w true false) 11 (some (.ref 6)) 1 40 (S4 PySem.W.Fast.tw3013351784316120532 (W2 w true false) os 256) (T4 dn PySem.W.Fast.tw3013351784316120532 (q4 256) (F4tf w os)) = some (.next, S4e PySem.W.Fast.tw3013351784316120532 (W2 w true false) os, cE PySem.W.Fast.tw3013351784316120532, ⟨10, 0, 10, 11⟩) := by kernel_rfl
theorem s4tf (w : World) (os : OsState) : segRunT treeTable PySem.Challenge.pw_re0076_01 (W2 w true false) 11 (some (.ref 6)) 1 40 (S4 PySem.Challenge.pw_re0076_01 (W2 w true false) os 256) (T4 (denote treeTable) PySem.Challenge.pw_re0076_01 (q4 256) (F4tf w os)) = some (.next, S4e PySem.Challenge.pw_re0076_01 (W2 w true false) os, cE PySem.Challenge.pw_re0076_01, ⟨10, 0, 10, 11⟩) := by
  rw [PySem.W.Fast.te10110043849684766642, PySem.W.Fast.te11892475500146522536, PySem.W.Fast.te14364793385576792824, PySem.W.Fast.te3013351784316120532]
  exact s4tft w os
def F4ft (w : World) (os : OsState) : Frame := frameOf (sG tbl PySem.W.Fast.tw3013351784316120532 (W2 w false true) 11 (some (.ref 6)) 1 52 (S3 PySem.W.Fast.tw3013351784316120532 (W2 w false true) os) (whole exx PySem.W.Fast.tw3013351784316120532 4 1 ⟨9, 0, 9, 2⟩))
theorem p4ftt (w : World) (os : OsState) : sG tbl PySem.W.Fast.tw3013351784316120532 (W2 w false true) 11 (some (.ref 6)) 1 52 (S3 PySem.W.Fast.tw3013351784316120532 (W2 w false true) os) (whole exx PySem.W.Fast.tw3013351784316120532 4 1 ⟨9, 0, 9, 2⟩) = some (S4 PySem.W.Fast.tw3013351784316120532 (W2 w false true) os 0, T4 dn PySem.W.Fast.tw3013351784316120532 (q4 0) (F4ft w os)) := by kernel_rfl
theorem p4ft (w : World) (os : OsState) : segGoT treeTable PySem.Challenge.pw_re0076_01 (W2 w false true) 11 (some (.ref 6)) 1 52 (S3 PySem.Challenge.pw_re0076_01 (W2 w false true) os) (whole execs PySem.Challenge.pw_re0076_01 4 1 ⟨9, 0, 9, 2⟩) = some (S4 PySem.Challenge.pw_re0076_01 (W2 w false true) os 0, T4 (denote treeTable) PySem.Challenge.pw_re0076_01 (q4 0) (F4ft w os)) := by
  rw [PySem.W.Fast.te10295753902157049106, PySem.W.Fast.te11892475500146522536, PySem.W.Fast.te12563942051412417395, PySem.W.Fast.te14364793385576792824, PySem.W.Fast.te3013351784316120532]
  exact p4ftt w os
theorem s4ftt (w : World) (os : OsState) : sR tbl PySem.W.Fast.tw3013351784316120532 (W2 w false true) 11 (some (.ref 6)) 1 40 (S4 PySem.W.Fast.tw3013351784316120532 (W2 w false true) os 256) (T4 dn PySem.W.Fast.tw3013351784316120532 (q4 256) (F4ft w os)) = some (.next, S4e PySem.W.Fast.tw3013351784316120532 (W2 w false true) os, cE PySem.W.Fast.tw3013351784316120532, ⟨10, 0, 10, 11⟩) := by kernel_rfl
theorem s4ft (w : World) (os : OsState) : segRunT treeTable PySem.Challenge.pw_re0076_01 (W2 w false true) 11 (some (.ref 6)) 1 40 (S4 PySem.Challenge.pw_re0076_01 (W2 w false true) os 256) (T4 (denote treeTable) PySem.Challenge.pw_re0076_01 (q4 256) (F4ft w os)) = some (.next, S4e PySem.Challenge.pw_re0076_01 (W2 w false true) os, cE PySem.Challenge.pw_re0076_01, ⟨10, 0, 10, 11⟩) := by
  rw [PySem.W.Fast.te10110043849684766642, PySem.W.Fast.te11892475500146522536, PySem.W.Fast.te14364793385576792824, PySem.W.Fast.te3013351784316120532]
  exact s4ftt w os
def F4ff (w : World) (os : OsState) : Frame := frameOf (sG tbl PySem.W.Fast.tw3013351784316120532 (W2 w false false) 11 (some (.ref 6)) 1 52 (S3 PySem.W.Fast.tw3013351784316120532 (W2 w false false) os) (whole exx PySem.W.Fast.tw3013351784316120532 4 1 ⟨9, 0, 9, 2⟩))
theorem p4fft (w : World) (os : OsState) : sG tbl PySem.W.Fast.tw3013351784316120532 (W2 w false false) 11 (some (.ref 6)) 1 52 (S3 PySem.W.Fast.tw3013351784316120532 (W2 w false false) os) (whole exx PySem.W.Fast.tw3013351784316120532 4 1 ⟨9, 0, 9, 2⟩) = some (S4 PySem.W.Fast.tw3013351784316120532 (W2 w false false) os 0, T4 dn PySem.W.Fast.tw3013351784316120532 (q4 0) (F4ff w os)) := by kernel_rfl
theorem p4ff (w : World) (os : OsState) : segGoT treeTable PySem.Challenge.pw_re0076_01 (W2 w false false) 11 (some (.ref 6)) 1 52 (S3 PySem.Challenge.pw_re0076_01 (W2 w false false) os) (whole execs PySem.Challenge.pw_re0076_01 4 1 ⟨9, 0, 9, 2⟩) = some (S4 PySem.Challenge.pw_re0076_01 (W2 w false false) os 0, T4 (denote treeTable) PySem.Challenge.pw_re0076_01 (q4 0) (F4ff w os)) := by
  rw [PySem.W.Fast.te10295753902157049106, PySem.W.Fast.te11892475500146522536, PySem.W.Fast.te12563942051412417395, PySem.W.Fast.te14364793385576792824, PySem.W.Fast.te3013351784316120532]
  exact p4fft w os
theorem s4fft (w : World) (os : OsState) : sR tbl PySem.W.Fast.tw3013351784316120532 (W2 w false false) 11 (some (.ref 6)) 1 40 (S4 PySem.W.Fast.tw3013351784316120532 (W2 w false false) os 256) (T4 dn PySem.W.Fast.tw3013351784316120532 (q4 256) (F4ff w os)) = some (.next, S4e PySem.W.Fast.tw3013351784316120532 (W2 w false false) os, cE PySem.W.Fast.tw3013351784316120532, ⟨10, 0, 10, 11⟩) := by kernel_rfl
theorem s4ff (w : World) (os : OsState) : segRunT treeTable PySem.Challenge.pw_re0076_01 (W2 w false false) 11 (some (.ref 6)) 1 40 (S4 PySem.Challenge.pw_re0076_01 (W2 w false false) os 256) (T4 (denote treeTable) PySem.Challenge.pw_re0076_01 (q4 256) (F4ff w os)) = some (.next, S4e PySem.Challenge.pw_re0076_01 (W2 w false false) os, cE PySem.Challenge.pw_re0076_01, ⟨10, 0, 10, 11⟩) := by
  rw [PySem.W.Fast.te10110043849684766642, PySem.W.Fast.te11892475500146522536, PySem.W.Fast.te14364793385576792824, PySem.W.Fast.te3013351784316120532]
  exact s4fft w os
def F13t (w : World) (os : OsState) : Frame := frameOf (sG tbl PySem.W.Fast.tw3013351784316120532 (W1 w true) 11 (some (.ref 6)) 1 44 (S12 PySem.W.Fast.tw3013351784316120532 (W1 w true) os) (whole exx PySem.W.Fast.tw3013351784316120532 13 1 ⟨18, 0, 18, 8⟩))
theorem p13tt (w : World) (os : OsState) : sG tbl PySem.W.Fast.tw3013351784316120532 (W1 w true) 11 (some (.ref 6)) 1 44 (S12 PySem.W.Fast.tw3013351784316120532 (W1 w true) os) (whole exx PySem.W.Fast.tw3013351784316120532 13 1 ⟨18, 0, 18, 8⟩) = some (S13 PySem.W.Fast.tw3013351784316120532 (W1 w true) os 0, TF dn PySem.W.Fast.tw3013351784316120532 13 32 (q13 0) (F13t w os)) := by kernel_rfl
theorem p13t (w : World) (os : OsState) : segGoT treeTable PySem.Challenge.pw_re0076_01 (W1 w true) 11 (some (.ref 6)) 1 44 (S12 PySem.Challenge.pw_re0076_01 (W1 w true) os) (whole execs PySem.Challenge.pw_re0076_01 13 1 ⟨18, 0, 18, 8⟩) = some (S13 PySem.Challenge.pw_re0076_01 (W1 w true) os 0, TF (denote treeTable) PySem.Challenge.pw_re0076_01 13 32 (q13 0) (F13t w os)) := by
  rw [PySem.W.Fast.te10295753902157049106, PySem.W.Fast.te11892475500146522536, PySem.W.Fast.te12563942051412417395, PySem.W.Fast.te14364793385576792824, PySem.W.Fast.te3013351784316120532]
  exact p13tt w os
theorem s13tt (w : World) (os : OsState) : sR tbl PySem.W.Fast.tw3013351784316120532 (W1 w true) 11 (some (.ref 6)) 1 40 (S13 PySem.W.Fast.tw3013351784316120532 (W1 w true) os 67) (TF dn PySem.W.Fast.tw3013351784316120532 13 32 (q13 67) (F13t w os)) = some (.next, S13e PySem.W.Fast.tw3013351784316120532 (W1 w true) os, cE PySem.W.Fast.tw3013351784316120532, ⟨19, 9, 19, 74⟩) := by kernel_rfl
theorem s13t (w : World) (os : OsState) : segRunT treeTable PySem.Challenge.pw_re0076_01 (W1 w true) 11 (some (.ref 6)) 1 40 (S13 PySem.Challenge.pw_re0076_01 (W1 w true) os 67) (TF (denote treeTable) PySem.Challenge.pw_re0076_01 13 32 (q13 67) (F13t w os)) = some (.next, S13e PySem.Challenge.pw_re0076_01 (W1 w true) os, cE PySem.Challenge.pw_re0076_01, ⟨19, 9, 19, 74⟩) := by
  rw [PySem.W.Fast.te10110043849684766642, PySem.W.Fast.te11892475500146522536, PySem.W.Fast.te14364793385576792824, PySem.W.Fast.te3013351784316120532]
  exact s13tt w os
def F13f (w : World) (os : OsState) : Frame := frameOf (sG tbl PySem.W.Fast.tw3013351784316120532 (W1 w false) 11 (some (.ref 6)) 1 44 (S12 PySem.W.Fast.tw3013351784316120532 (W1 w false) os) (whole exx PySem.W.Fast.tw3013351784316120532 13 1 ⟨18, 0, 18, 8⟩))
theorem p13ft (w : World) (os : OsState) : sG tbl PySem.W.Fast.tw3013351784316120532 (W1 w false) 11 (some (.ref 6)) 1 44 (S12 PySem.W.Fast.tw3013351784316120532 (W1 w false) os) (whole exx PySem.W.Fast.tw3013351784316120532 13 1 ⟨18, 0, 18, 8⟩) = some (S13 PySem.W.Fast.tw3013351784316120532 (W1 w false) os 0, TF dn PySem.W.Fast.tw3013351784316120532 13 32 (q13 0) (F13f w os)) := by kernel_rfl
theorem p13f (w : World) (os : OsState) : segGoT treeTable PySem.Challenge.pw_re0076_01 (W1 w false) 11 (some (.ref 6)) 1 44 (S12 PySem.Challenge.pw_re0076_01 (W1 w false) os) (whole execs PySem.Challenge.pw_re0076_01 13 1 ⟨18, 0, 18, 8⟩) = some (S13 PySem.Challenge.pw_re0076_01 (W1 w false) os 0, TF (denote treeTable) PySem.Challenge.pw_re0076_01 13 32 (q13 0) (F13f w os)) := by
  rw [PySem.W.Fast.te10295753902157049106, PySem.W.Fast.te11892475500146522536, PySem.W.Fast.te12563942051412417395, PySem.W.Fast.te14364793385576792824, PySem.W.Fast.te3013351784316120532]
  exact p13ft w os
theorem s13ft (w : World) (os : OsState) : sR tbl PySem.W.Fast.tw3013351784316120532 (W1 w false) 11 (some (.ref 6)) 1 40 (S13 PySem.W.Fast.tw3013351784316120532 (W1 w false) os 67) (TF dn PySem.W.Fast.tw3013351784316120532 13 32 (q13 67) (F13f w os)) = some (.next, S13e PySem.W.Fast.tw3013351784316120532 (W1 w false) os, cE PySem.W.Fast.tw3013351784316120532, ⟨19, 9, 19, 74⟩) := by kernel_rfl
theorem s13f (w : World) (os : OsState) : segRunT treeTable PySem.Challenge.pw_re0076_01 (W1 w false) 11 (some (.ref 6)) 1 40 (S13 PySem.Challenge.pw_re0076_01 (W1 w false) os 67) (TF (denote treeTable) PySem.Challenge.pw_re0076_01 13 32 (q13 67) (F13f w os)) = some (.next, S13e PySem.Challenge.pw_re0076_01 (W1 w false) os, cE PySem.Challenge.pw_re0076_01, ⟨19, 9, 19, 74⟩) := by
  rw [PySem.W.Fast.te10110043849684766642, PySem.W.Fast.te11892475500146522536, PySem.W.Fast.te14364793385576792824, PySem.W.Fast.te3013351784316120532]
  exact s13ft w os
def F15t (w : World) (os : OsState) : Frame := frameOf (sG tbl PySem.W.Fast.tw3013351784316120532 (W1 w true) 11 (some (.ref 6)) 1 10 (S14 PySem.W.Fast.tw3013351784316120532 (W1 w true) os) (whole exx PySem.W.Fast.tw3013351784316120532 15 1 ⟨21, 0, 21, 28⟩))
theorem p15tt (w : World) (os : OsState) : sG tbl PySem.W.Fast.tw3013351784316120532 (W1 w true) 11 (some (.ref 6)) 1 10 (S14 PySem.W.Fast.tw3013351784316120532 (W1 w true) os) (whole exx PySem.W.Fast.tw3013351784316120532 15 1 ⟨21, 0, 21, 28⟩) = some (S15 PySem.W.Fast.tw3013351784316120532 (W1 w true) os 0, TF dn PySem.W.Fast.tw3013351784316120532 15 35 (q15 0) (F15t w os)) := by kernel_rfl
theorem p15t (w : World) (os : OsState) : segGoT treeTable PySem.Challenge.pw_re0076_01 (W1 w true) 11 (some (.ref 6)) 1 10 (S14 PySem.Challenge.pw_re0076_01 (W1 w true) os) (whole execs PySem.Challenge.pw_re0076_01 15 1 ⟨21, 0, 21, 28⟩) = some (S15 PySem.Challenge.pw_re0076_01 (W1 w true) os 0, TF (denote treeTable) PySem.Challenge.pw_re0076_01 15 35 (q15 0) (F15t w os)) := by
  rw [PySem.W.Fast.te10295753902157049106, PySem.W.Fast.te11892475500146522536, PySem.W.Fast.te12563942051412417395, PySem.W.Fast.te14364793385576792824, PySem.W.Fast.te3013351784316120532]
  exact p15tt w os
theorem s15tt (w : World) (os : OsState) : sR tbl PySem.W.Fast.tw3013351784316120532 (W1 w true) 11 (some (.ref 6)) 1 40 (S15 PySem.W.Fast.tw3013351784316120532 (W1 w true) os 95) (TF dn PySem.W.Fast.tw3013351784316120532 15 35 (q15 95) (F15t w os)) = some (.next, S15e PySem.W.Fast.tw3013351784316120532 (W1 w true) os, cE PySem.W.Fast.tw3013351784316120532, ⟨22, 9, 22, 110⟩) := by kernel_rfl
theorem s15t (w : World) (os : OsState) : segRunT treeTable PySem.Challenge.pw_re0076_01 (W1 w true) 11 (some (.ref 6)) 1 40 (S15 PySem.Challenge.pw_re0076_01 (W1 w true) os 95) (TF (denote treeTable) PySem.Challenge.pw_re0076_01 15 35 (q15 95) (F15t w os)) = some (.next, S15e PySem.Challenge.pw_re0076_01 (W1 w true) os, cE PySem.Challenge.pw_re0076_01, ⟨22, 9, 22, 110⟩) := by
  rw [PySem.W.Fast.te10110043849684766642, PySem.W.Fast.te11892475500146522536, PySem.W.Fast.te14364793385576792824, PySem.W.Fast.te3013351784316120532]
  exact s15tt w os
def F15f (w : World) (os : OsState) : Frame := frameOf (sG tbl PySem.W.Fast.tw3013351784316120532 (W1 w false) 11 (some (.ref 6)) 1 10 (S14 PySem.W.Fast.tw3013351784316120532 (W1 w false) os) (whole exx PySem.W.Fast.tw3013351784316120532 15 1 ⟨21, 0, 21, 28⟩))
theorem p15ft (w : World) (os : OsState) : sG tbl PySem.W.Fast.tw3013351784316120532 (W1 w false) 11 (some (.ref 6)) 1 10 (S14 PySem.W.Fast.tw3013351784316120532 (W1 w false) os) (whole exx PySem.W.Fast.tw3013351784316120532 15 1 ⟨21, 0, 21, 28⟩) = some (S15 PySem.W.Fast.tw3013351784316120532 (W1 w false) os 0, TF dn PySem.W.Fast.tw3013351784316120532 15 35 (q15 0) (F15f w os)) := by kernel_rfl
theorem p15f (w : World) (os : OsState) : segGoT treeTable PySem.Challenge.pw_re0076_01 (W1 w false) 11 (some (.ref 6)) 1 10 (S14 PySem.Challenge.pw_re0076_01 (W1 w false) os) (whole execs PySem.Challenge.pw_re0076_01 15 1 ⟨21, 0, 21, 28⟩) = some (S15 PySem.Challenge.pw_re0076_01 (W1 w false) os 0, TF (denote treeTable) PySem.Challenge.pw_re0076_01 15 35 (q15 0) (F15f w os)) := by
  rw [PySem.W.Fast.te10295753902157049106, PySem.W.Fast.te11892475500146522536, PySem.W.Fast.te12563942051412417395, PySem.W.Fast.te14364793385576792824, PySem.W.Fast.te3013351784316120532]
  exact p15ft w os
theorem s15ft (w : World) (os : OsState) : sR tbl PySem.W.Fast.tw3013351784316120532 (W1 w false) 11 (some (.ref 6)) 1 40 (S15 PySem.W.Fast.tw3013351784316120532 (W1 w false) os 95) (TF dn PySem.W.Fast.tw3013351784316120532 15 35 (q15 95) (F15f w os)) = some (.next, S15e PySem.W.Fast.tw3013351784316120532 (W1 w false) os, cE PySem.W.Fast.tw3013351784316120532, ⟨22, 9, 22, 110⟩) := by kernel_rfl
theorem s15f (w : World) (os : OsState) : segRunT treeTable PySem.Challenge.pw_re0076_01 (W1 w false) 11 (some (.ref 6)) 1 40 (S15 PySem.Challenge.pw_re0076_01 (W1 w false) os 95) (TF (denote treeTable) PySem.Challenge.pw_re0076_01 15 35 (q15 95) (F15f w os)) = some (.next, S15e PySem.Challenge.pw_re0076_01 (W1 w false) os, cE PySem.Challenge.pw_re0076_01, ⟨22, 9, 22, 110⟩) := by
  rw [PySem.W.Fast.te10110043849684766642, PySem.W.Fast.te11892475500146522536, PySem.W.Fast.te14364793385576792824, PySem.W.Fast.te3013351784316120532]
  exact s15ft w os
end Mine
end
end
section
open PySem PySem.W PyProof.Rows
set_option maxRecDepth 100000
set_option maxHeartbeats 0
set_option linter.unusedVariables false
noncomputable section
namespace Mine

def KF (P : Params) : Frag := (nat_lit 2, (boot_o_2 P)) :: (nat_lit 3, (o3v7 PySem.Challenge.pw_re0076_01 P)) :: (nat_lit 6, (boot_o_6 P)) :: (nat_lit 15, (o15 PySem.Challenge.pw_re0076_01 P)) :: (nat_lit 17, (o17 PySem.Challenge.pw_re0076_01 P)) :: (nat_lit 18, (o18 PySem.Challenge.pw_re0076_01 P)) :: (nat_lit 20, (o20 PySem.Challenge.pw_re0076_01 P)) :: (nat_lit 21, (o21 PySem.Challenge.pw_re0076_01 P)) :: (nat_lit 24, (o24 PySem.Challenge.pw_re0076_01 P)) :: (nat_lit 29, (o29v2 PySem.Challenge.pw_re0076_01 P)) :: (nat_lit 31, (o31v1 PySem.Challenge.pw_re0076_01 P)) :: (nat_lit 38, (o38 PySem.Challenge.pw_re0076_01 P)) :: (nat_lit 40, (o40 PySem.Challenge.pw_re0076_01 P)) :: (nat_lit 41, (o41 PySem.Challenge.pw_re0076_01 P)) :: (nat_lit 43, (o43 PySem.Challenge.pw_re0076_01 P)) :: (nat_lit 44, (o44 PySem.Challenge.pw_re0076_01 P)) :: (nat_lit 45, (o45 PySem.Challenge.pw_re0076_01 P)) :: (nat_lit 47, (o47 PySem.Challenge.pw_re0076_01 P)) :: (nat_lit 48, (o48 PySem.Challenge.pw_re0076_01 P)) :: (nat_lit 50, (o50 PySem.Challenge.pw_re0076_01 P)) :: (nat_lit 51, (o51 PySem.Challenge.pw_re0076_01 P)) :: (nat_lit 53, (o53 PySem.Challenge.pw_re0076_01 P)) :: (nat_lit 57, (o57 PySem.Challenge.pw_re0076_01 P)) :: (nat_lit 58, (o58 PySem.Challenge.pw_re0076_01 P)) :: (nat_lit 60, (o60 PySem.Challenge.pw_re0076_01 P)) :: (nat_lit 61, (o61 PySem.Challenge.pw_re0076_01 P)) :: (nat_lit 63, (o63 PySem.Challenge.pw_re0076_01 P)) :: (nat_lit 64, (o64 PySem.Challenge.pw_re0076_01 P)) :: (nat_lit 65, (o65 PySem.Challenge.pw_re0076_01 P)) :: (nat_lit 66, (o66 PySem.Challenge.pw_re0076_01 P)) :: (nat_lit 68, (o68 PySem.Challenge.pw_re0076_01 P)) :: (nat_lit 69, (o69 PySem.Challenge.pw_re0076_01 P)) :: (nat_lit 71, (o71 PySem.Challenge.pw_re0076_01 P)) :: (nat_lit 72, (o72 PySem.Challenge.pw_re0076_01 P)) :: (nat_lit 73, (o73 PySem.Challenge.pw_re0076_01 P)) :: (nat_lit 75, (o75 PySem.Challenge.pw_re0076_01 P)) :: (nat_lit 76, (o76 PySem.Challenge.pw_re0076_01 P)) :: (nat_lit 78, (o78 PySem.Challenge.pw_re0076_01 P)) :: (nat_lit 79, (o79 PySem.Challenge.pw_re0076_01 P)) :: (nat_lit 80, (o80 PySem.Challenge.pw_re0076_01 P)) :: (nat_lit 83, (o83 PySem.Challenge.pw_re0076_01 P)) :: (nat_lit 84, (o84 PySem.Challenge.pw_re0076_01 P)) :: (nat_lit 85, (o85 PySem.Challenge.pw_re0076_01 P)) :: (nat_lit 88, (o88 PySem.Challenge.pw_re0076_01 P)) :: (nat_lit 89, (o89 PySem.Challenge.pw_re0076_01 P)) :: (nat_lit 90, (o90 PySem.Challenge.pw_re0076_01 P)) :: (nat_lit 92, (o92 PySem.Challenge.pw_re0076_01 P)) :: (nat_lit 93, (o93 PySem.Challenge.pw_re0076_01 P)) :: (nat_lit 95, (o95 PySem.Challenge.pw_re0076_01 P)) :: (nat_lit 96, (o96 PySem.Challenge.pw_re0076_01 P)) :: (nat_lit 97, (o97 PySem.Challenge.pw_re0076_01 P)) :: (nat_lit 99, (o99 PySem.Challenge.pw_re0076_01 P)) :: (nat_lit 100, (o100 PySem.Challenge.pw_re0076_01 P)) :: (nat_lit 102, (o102 PySem.Challenge.pw_re0076_01 P)) :: (nat_lit 103, (o103 PySem.Challenge.pw_re0076_01 P)) :: (nat_lit 104, (o104 PySem.Challenge.pw_re0076_01 P)) :: (nat_lit 107, (o107 PySem.Challenge.pw_re0076_01 P)) :: (nat_lit 108, (o108 PySem.Challenge.pw_re0076_01 P)) :: []
def asK : List Addr := [2, 3, 6, 15, 17, 18, 20, 21, 24, 29, 31, 38, 40, 41, 43, 44, 45, 47, 48, 50, 51, 53, 57, 58, 60, 61, 63, 64, 65, 66, 68, 69, 71, 72, 73, 75, 76, 78, 79, 80, 83, 84, 85, 88, 89, 90, 92, 93, 95, 96, 97, 99, 100, 102, 103, 104, 107, 108]
theorem asK_eq (P : Params) : asK = (KF P).map (·.1) := by kernel_rfl
abbrev HK : Hook := kHook KF asK asK_eq
def Qp (p : Program) : Program := view p [1, 2, 3, 4, 5, 6, 7, 8, 9, 10, 11, 16, 17, 18, 24, 25, 26, 27, 28, 29]
abbrev Qv : Program := Qp PySem.Challenge.pw_re0076_01
def looseN : List Str := [Str.ofString "_QUOPRI_MAP", Str.ofString "_QUOPRI_HEADER_MAP", Str.ofString "_QUOPRI_BODY_MAP", Str.ofString "ascii_letters", Str.ofString "hexdigits", Str.ofString "_QUOPRI_BODY_ENCODE_MAP", Str.ofString "body_encode", Str.ofString "decode"]
def lvN : List (Str × WData) := [(Str.ofString "ascii_letters", .str (s [97, 98, 99, 100, 101, 102, 103, 104, 105, 106, 107, 108, 109, 110, 111, 112, 113, 114, 115, 116, 117, 118, 119, 120, 121, 122, 65, 66, 67, 68, 69, 70, 71, 72, 73, 74, 75, 76, 77, 78, 79, 80, 81, 82, 83, 84, 85, 86, 87, 88, 89, 90])), (Str.ofString "hexdigits", .str (s [48, 49, 50, 51, 52, 53, 54, 55, 56, 57, 97, 98, 99, 100, 101, 102, 65, 66, 67, 68, 69, 70]))]

/-! the loops, whole -/
theorem way4 {w : World} {os : OsState} {F : Frame} {n : Nat} (hn : n + 9512 ≤ 9600)
    (a : segGoT treeTable PySem.Challenge.pw_re0076_01 w 11 (some (.ref 6)) 1 n (S3 PySem.Challenge.pw_re0076_01 w os) (whole execs PySem.Challenge.pw_re0076_01 4 1 ⟨9, 0, 9, 2⟩) = some (S4 PySem.Challenge.pw_re0076_01 w os 0, T4 (denote treeTable) PySem.Challenge.pw_re0076_01 (q4 0) F))
    (b : segRunT treeTable PySem.Challenge.pw_re0076_01 w 11 (some (.ref 6)) 1 40 (S4 PySem.Challenge.pw_re0076_01 w os 256) (T4 (denote treeTable) PySem.Challenge.pw_re0076_01 (q4 256) F) = some (.next, S4e PySem.Challenge.pw_re0076_01 w os, cE PySem.Challenge.pw_re0076_01, ⟨10, 0, 10, 11⟩)) :
    segRun treeTable PySem.Challenge.pw_re0076_01 w 11 (some (.ref 6)) 1 9600 (S3 PySem.Challenge.pw_re0076_01 w os).abs (whole execs PySem.Challenge.pw_re0076_01 4 1 ⟨9, 0, 9, 2⟩) = some (.next, (S4e PySem.Challenge.pw_re0076_01 w os).abs, cE PySem.Challenge.pw_re0076_01, ⟨10, 0, 10, 11⟩) := by
  have h := segRun_mono (9600 - (n + 9512)) _ _ _ _ (seg_go (segGo_of a) (c4_all w os F (segRun_of b)))
  rwa [show n + (592 + (592 + (592 + (592 + (592 + (592 + (592 + (592 + (592 + (592 + (592 + (592 + (592 + (592 + (592 + (592 + 40)))))))))))))))) + (9600 - (n + 9512)) = 9600 by omega] at h
theorem p4 (w : World) : ∀ os, segRun treeTable PySem.Challenge.pw_re0076_01 w 11 (some (.ref 6)) 1 9600 (S3 PySem.Challenge.pw_re0076_01 w os).abs (whole execs PySem.Challenge.pw_re0076_01 4 1 ⟨9, 0, 9, 2⟩) = some (.next, (S4e PySem.Challenge.pw_re0076_01 w os).abs, cE PySem.Challenge.pw_re0076_01, ⟨10, 0, 10, 11⟩) :=
  byRow2 "comprehension-iter-twice" (P := fun w => ∀ os, segRun treeTable PySem.Challenge.pw_re0076_01 w 11 (some (.ref 6)) 1 9600 (S3 PySem.Challenge.pw_re0076_01 w os).abs (whole execs PySem.Challenge.pw_re0076_01 4 1 ⟨9, 0, 9, 2⟩) = some (.next, (S4e PySem.Challenge.pw_re0076_01 w os).abs, cE PySem.Challenge.pw_re0076_01, ⟨10, 0, 10, 11⟩))
    (fun w => byRow2 "special-get-raises" (P := fun w => ∀ os, segRun treeTable PySem.Challenge.pw_re0076_01 (World.withFollow w "comprehension-iter-twice" false) 11 (some (.ref 6)) 1 9600 (S3 PySem.Challenge.pw_re0076_01 (World.withFollow w "comprehension-iter-twice" false) os).abs (whole execs PySem.Challenge.pw_re0076_01 4 1 ⟨9, 0, 9, 2⟩) = some (.next, (S4e PySem.Challenge.pw_re0076_01 (World.withFollow w "comprehension-iter-twice" false) os).abs, cE PySem.Challenge.pw_re0076_01, ⟨10, 0, 10, 11⟩))
      (fun w os => way4 (by omega) (p4ff w os) (s4ff w os)) (fun w os => way4 (by omega) (p4ft w os) (s4ft w os)) w)
    (fun w => byRow2 "special-get-raises" (P := fun w => ∀ os, segRun treeTable PySem.Challenge.pw_re0076_01 (World.withFollow w "comprehension-iter-twice" true) 11 (some (.ref 6)) 1 9600 (S3 PySem.Challenge.pw_re0076_01 (World.withFollow w "comprehension-iter-twice" true) os).abs (whole execs PySem.Challenge.pw_re0076_01 4 1 ⟨9, 0, 9, 2⟩) = some (.next, (S4e PySem.Challenge.pw_re0076_01 (World.withFollow w "comprehension-iter-twice" true) os).abs, cE PySem.Challenge.pw_re0076_01, ⟨10, 0, 10, 11⟩))
      (fun w os => way4 (by omega) (p4tf w os) (s4tf w os)) (fun w os => way4 (by omega) (p4tt w os) (s4tt w os)) w) w
theorem p13 (w : World) : ∀ os, segRun treeTable PySem.Challenge.pw_re0076_01 w 11 (some (.ref 6)) 1 (44 + (450 + (450 + (450 + (450 + (450 + (450 + (315 + 40)))))))) (S12 PySem.Challenge.pw_re0076_01 w os).abs (whole execs PySem.Challenge.pw_re0076_01 13 1 ⟨18, 0, 18, 8⟩) = some (.next, (S13e PySem.Challenge.pw_re0076_01 w os).abs, cE PySem.Challenge.pw_re0076_01, ⟨19, 9, 19, 74⟩) :=
  byRow2 "special-get-raises" (P := fun w => ∀ os, segRun treeTable PySem.Challenge.pw_re0076_01 w 11 (some (.ref 6)) 1 (44 + (450 + (450 + (450 + (450 + (450 + (450 + (315 + 40)))))))) (S12 PySem.Challenge.pw_re0076_01 w os).abs (whole execs PySem.Challenge.pw_re0076_01 13 1 ⟨18, 0, 18, 8⟩) = some (.next, (S13e PySem.Challenge.pw_re0076_01 w os).abs, cE PySem.Challenge.pw_re0076_01, ⟨19, 9, 19, 74⟩))
    (fun w os => seg_go (segGo_of (p13f w os)) (c13_all (W1 w false) os _ (segRun_of (s13f w os)))) (fun w os => seg_go (segGo_of (p13t w os)) (c13_all (W1 w true) os _ (segRun_of (s13t w os)))) w
theorem p15 (w : World) : ∀ os, segRun treeTable PySem.Challenge.pw_re0076_01 w 11 (some (.ref 6)) 1 (10 + (450 + (450 + (450 + (450 + (450 + (450 + (450 + (450 + (450 + (225 + 40))))))))))) (S14 PySem.Challenge.pw_re0076_01 w os).abs (whole execs PySem.Challenge.pw_re0076_01 15 1 ⟨21, 0, 21, 28⟩) = some (.next, (S15e PySem.Challenge.pw_re0076_01 w os).abs, cE PySem.Challenge.pw_re0076_01, ⟨22, 9, 22, 110⟩) :=
  byRow2 "special-get-raises" (P := fun w => ∀ os, segRun treeTable PySem.Challenge.pw_re0076_01 w 11 (some (.ref 6)) 1 (10 + (450 + (450 + (450 + (450 + (450 + (450 + (450 + (450 + (450 + (225 + 40))))))))))) (S14 PySem.Challenge.pw_re0076_01 w os).abs (whole execs PySem.Challenge.pw_re0076_01 15 1 ⟨21, 0, 21, 28⟩) = some (.next, (S15e PySem.Challenge.pw_re0076_01 w os).abs, cE PySem.Challenge.pw_re0076_01, ⟨22, 9, 22, 110⟩))
    (fun w os => seg_go (segGo_of (p15f w os)) (c15_all (W1 w false) os _ (segRun_of (s15f w os)))) (fun w os => seg_go (segGo_of (p15t w os)) (c15_all (W1 w true) os _ (segRun_of (s15t w os)))) w
theorem g16 (w : World) : ∀ os, segRun treeTable PySem.Challenge.pw_re0076_01 w 11 (some (.ref 6)) 1 209 (S15e PySem.Challenge.pw_re0076_01 w os).abs (whole execs PySem.Challenge.pw_re0076_01 16 5 ⟨22, 9, 22, 110⟩) = some (.next, (S20 PySem.Challenge.pw_re0076_01 w os).abs, cE PySem.Challenge.pw_re0076_01, ⟨31, 4, 31, 5⟩) :=
  byRow2 "special-get-raises" (P := fun w => ∀ os, segRun treeTable PySem.Challenge.pw_re0076_01 w 11 (some (.ref 6)) 1 209 (S15e PySem.Challenge.pw_re0076_01 w os).abs (whole execs PySem.Challenge.pw_re0076_01 16 5 ⟨22, 9, 22, 110⟩) = some (.next, (S20 PySem.Challenge.pw_re0076_01 w os).abs, cE PySem.Challenge.pw_re0076_01, ⟨31, 4, 31, 5⟩))
    (fun w os => segRun_of (g16f w os)) (fun w os => segRun_of (g16t w os)) w

/-! the top's run -/
def Sa (p : Program) (w : World) (os : OsState) : Shared := ⟨Hb p w.params, ⟨[]⟩, {}, 187, os⟩
def S0 (w : World) (os : OsState) : Shared := ⟨boot_heap w.params, ⟨[]⟩, boot_drawn, boot_toks, os⟩
def S1 (p : Program) (w : World) (os : OsState) : Shared := ⟨H1 p w.params, ⟨[]⟩, {}, 1839, os⟩
theorem preRt (w : World) (os : OsState) : PySem.W.Fast.tw15667345088766844465 tbl PySem.W.Fast.tw3013351784316120532 w 11 (some (.ref 6)) 12 (S0 w os) (topStub PySem.W.Fast.tw3013351784316120532) = some (Sa PySem.W.Fast.tw3013351784316120532 w os, ⟨dn (cE PySem.W.Fast.tw3013351784316120532), cE PySem.W.Fast.tw3013351784316120532, ⟨0, 0, 0, 0⟩, Bf⟩) := by kernel_rfl
theorem preR (w : World) (os : OsState) : topGo treeTable PySem.Challenge.pw_re0076_01 w 11 (some (.ref 6)) 12 (S0 w os) (topStub PySem.Challenge.pw_re0076_01) = some (Sa PySem.Challenge.pw_re0076_01 w os, ⟨denote treeTable (cE PySem.Challenge.pw_re0076_01), cE PySem.Challenge.pw_re0076_01, ⟨0, 0, 0, 0⟩, Bf⟩) := by
  rw [PySem.W.Fast.te15667345088766844465, PySem.W.Fast.te11892475500146522536, PySem.W.Fast.te14364793385576792824, PySem.W.Fast.te3013351784316120532]
  exact preRt w os
theorem blkt (w : World) (os : OsState) : PySem.W.Fast.tw14374325043358763698 tbl PySem.W.Fast.tw3013351784316120532 w 11 (some (.ref 6)) 1 1 (Sa PySem.W.Fast.tw3013351784316120532 w os) (blockOf (behindTheImports PySem.W.Fast.tw3013351784316120532) (menv PySem.W.Fast.tw3013351784316120532) (cE PySem.W.Fast.tw3013351784316120532) ⟨0, 0, 0, 0⟩ Bf) = some (.next, (SB PySem.W.Fast.tw3013351784316120532 w os).abs, cE PySem.W.Fast.tw3013351784316120532, ⟨0, 0, 0, 0⟩) := by kernel_rfl
theorem blk (w : World) (os : OsState) : segRun treeTable PySem.Challenge.pw_re0076_01 w 11 (some (.ref 6)) 1 1 (Sa PySem.Challenge.pw_re0076_01 w os) (blockOf (behindTheImports PySem.Challenge.pw_re0076_01) (menv PySem.Challenge.pw_re0076_01) (cE PySem.Challenge.pw_re0076_01) ⟨0, 0, 0, 0⟩ Bf) = some (.next, (SB PySem.Challenge.pw_re0076_01 w os).abs, cE PySem.Challenge.pw_re0076_01, ⟨0, 0, 0, 0⟩) := by
  rw [PySem.W.Fast.te14374325043358763698, PySem.W.Fast.te14364793385576792824, PySem.W.Fast.te3013351784316120532]
  exact blkt w os
theorem finRt (w : World) (os : OsState) : PySem.W.Fast.tw14082659384304107361 tbl PySem.W.Fast.tw3013351784316120532 w 11 (some (.ref 6)) 2 (S29 PySem.W.Fast.tw3013351784316120532 w os).abs ⟨doneF .next, cE PySem.W.Fast.tw3013351784316120532, ⟨139, 0, 160, 49⟩, Bf⟩ = some (S1 PySem.W.Fast.tw3013351784316120532 w os) := by kernel_rfl
theorem finR (w : World) (os : OsState) : topRun treeTable PySem.Challenge.pw_re0076_01 w 11 (some (.ref 6)) 2 (S29 PySem.Challenge.pw_re0076_01 w os).abs ⟨doneF .next, cE PySem.Challenge.pw_re0076_01, ⟨139, 0, 160, 49⟩, Bf⟩ = some (S1 PySem.Challenge.pw_re0076_01 w os) := by
  rw [PySem.W.Fast.te14082659384304107361, PySem.W.Fast.te14364793385576792824, PySem.W.Fast.te3013351784316120532]
  exact finRt w os
theorem segs : behindTheImports PySem.Challenge.pw_re0076_01 = seg PySem.Challenge.pw_re0076_01 0 4 ++ (seg PySem.Challenge.pw_re0076_01 4 1 ++ (seg PySem.Challenge.pw_re0076_01 5 8 ++ (seg PySem.Challenge.pw_re0076_01 13 1 ++ (seg PySem.Challenge.pw_re0076_01 14 1 ++ (seg PySem.Challenge.pw_re0076_01 15 1 ++ (seg PySem.Challenge.pw_re0076_01 16 5 ++ (seg PySem.Challenge.pw_re0076_01 21 9 ++ []))))))) := by kernel_rfl
theorem runTop (w : World) (os : OsState) : ∃ M, Nat.ble M 36000 = true ∧ topRun treeTable PySem.Challenge.pw_re0076_01 w 11 (some (.ref 6)) M (S0 w os) (topStub PySem.Challenge.pw_re0076_01) = some (S1 PySem.Challenge.pw_re0076_01 w os) := by
  have r := piece_app (q := ⟨0, 0, 0, 0⟩) (rest := []) (segRun_of (g21 w os)) (finR w os)
  have r := piece_app (q := ⟨0, 0, 0, 0⟩) (g16 w os) r
  have r := piece_app (q := ⟨0, 0, 0, 0⟩) (p15 w os) r
  have r := piece_app (q := ⟨0, 0, 0, 0⟩) (segRun_of (g14 w os)) r
  have r := piece_app (q := ⟨0, 0, 0, 0⟩) (p13 w os) r
  have r := piece_app (q := ⟨0, 0, 0, 0⟩) (segRun_of (g5 w os)) r
  have r := piece_app (q := ⟨0, 0, 0, 0⟩) (p4 w os) r
  have r := piece_app (q := ⟨0, 0, 0, 0⟩) (segRun_of (g0 w os)) r
  rw [← segs] at r
  have r := go_top (preR w os) (piece_block (q := ⟨0, 0, 0, 0⟩) (blk w os) r)
  exact ⟨_, by decide, r⟩

end Mine
end
end
section
open PySem PySem.W PyProof.Rows
set_option maxRecDepth 100000
set_option maxHeartbeats 0
set_option linter.unusedVariables false
noncomputable section
namespace Mine

theorem runTop' (w : World) (os : OsState) : topRun treeTable PySem.Challenge.pw_re0076_01 w 11 (some (.ref 6)) 36000 (S0 w os) (topStub PySem.Challenge.pw_re0076_01) = some (S1 PySem.Challenge.pw_re0076_01 w os) := by
  obtain ⟨M, hM, h⟩ := runTop w os
  have := topRun_mono (36000 - M) _ _ _ _ h
  rwa [show M + (36000 - M) = 36000 by have := Nat.le_of_ble_eq_true hM; omega] at this
abbrev XtN (s : Shared) : Bool := xlAt Qv lvN s && recOk (RowW.records (OpenRow.toRowW (OpenLaw.row PySem.Challenge.rw_re0076_01))) s
theorem bootT (w : World) : (PySem.W.Fast.tw10274390034422433532 tbl (opening PySem.W.Fast.tw3013351784316120532) w 600 (PySem.W.Fast.tw1435165496053646825 (opening PySem.W.Fast.tw3013351784316120532)).1 (PySem.W.Fast.tw1435165496053646825 (opening PySem.W.Fast.tw3013351784316120532)).2).map (fun s => (s.heap, s.gens, s.drawn, s.toks)) = some (boot_heap w.params, ⟨[]⟩, boot_drawn, boot_toks) := by kernel_rfl
theorem bootR (w : World) : (importEnds treeTable (opening PySem.Challenge.pw_re0076_01) w 600 (start (opening PySem.Challenge.pw_re0076_01)).1 (start (opening PySem.Challenge.pw_re0076_01)).2).map (fun s => (s.heap, s.gens, s.drawn, s.toks)) = some (boot_heap w.params, ⟨[]⟩, boot_drawn, boot_toks) := by
  rw [PySem.W.Fast.te10274390034422433532, PySem.W.Fast.te1435165496053646825, PySem.W.Fast.te14364793385576792824, PySem.W.Fast.te3013351784316120532]
  exact bootT w
theorem fenceR (s : Shared) : fenceModules? PySem.Challenge.pw_re0076_01 s = some s := by kernel_rfl
theorem openB : ∀ w : World, (fencedOpening treeTable PySem.Challenge.pw_re0076_01 w 36000).map (fun s => (s.heap, s.gens, s.drawn, s.toks)) = some (boot_heap w.params, ⟨[]⟩, boot_drawn, boot_toks) := fun w => by
  obtain ⟨s, hs, hv⟩ := Option.map_eq_some_iff.mp (bootR w)
  have m := importEnds_mono (36000 - 600) _ _ _ _ hs
  unfold fencedOpening
  rw [m]
  show ((fenceModules? PySem.Challenge.pw_re0076_01 s)).map _ = _
  rw [fenceR s]
  exact congrArg some hv
theorem sizeB : ∀ w : World, ((boot_heap w.params).isNs mainGlobals && (⟨[]⟩ : Array GenState).size == 0, (boot_heap w.params).objs.size, (boot_heap w.params).nsMap mainGlobals "__annotations__") = (true, 11, (some (.ref 6))) := fun w => by kernel_rfl
theorem look1 (w : World) (os : OsState) : (staticsOk (importedModules PySem.Challenge.pw_re0076_01.main.body) (boot_heap w.params) (H1 PySem.Challenge.pw_re0076_01 w.params) && namesBound PySem.Challenge.pw_re0076_01 (H1 PySem.Challenge.pw_re0076_01 w.params) && gensDone (S1 PySem.Challenge.pw_re0076_01 w os) && laidKept (boot_heap w.params) (H1 PySem.Challenge.pw_re0076_01 w.params)) = true := by
  rw [PySem.W.Fast.te3013351784316120532]
  kernel_rfl
theorem look3 (w : World) (os : OsState) : HK.obs (S1 PySem.Challenge.pw_re0076_01 w os) = HK.val w := by kernel_rfl

end Mine
end
end
section
open PySem PySem.W PyProof.Rows
set_option maxRecDepth 100000
set_option maxHeartbeats 0
set_option linter.unusedVariables false
noncomputable section
namespace Mine

theorem look2 (w : World) (os : OsState) : openSeen Qv looseN (importedModules PySem.Challenge.pw_re0076_01.main.body) XtN true (S1 PySem.Challenge.pw_re0076_01 w os) = openGood Qv looseN := by
  rw [PySem.W.Fast.te4187177175401517315]
  kernel_rfl

end Mine
end
end
section
open PySem PySem.W PyProof.Rows
set_option maxRecDepth 100000
set_option maxHeartbeats 0
set_option linter.unusedVariables false
noncomputable section
namespace Mine

theorem leftO : LeftO PySem.Challenge.pw_re0076_01 Qv looseN XtN HK.obs HK.val 36000 true :=
  LeftO.of_pieces (m₀ := 11) (ann := (some (.ref 6))) (M := 36000) (H₁ := H1 PySem.Challenge.pw_re0076_01) (gs₁ := ⟨[]⟩) (d₁ := {}) (k₁ := 1839) openB sizeB runTop' (by decide)
    (fun w => funext fun os => by
      have e1 := look1 w os
      have e2 := look2 w os
      have e3 := look3 w os
      exact Prod.ext e1 (Prod.ext e2 e3))

def lawStmt : Stmt := stmt PySem.Challenge.pw_re0076_01 29
def dLaw : DefRec := match stmt PySem.Challenge.pw_re0076_01 29 with
  | .FunctionDef n a b _ _ _ sc _ _ ps => ⟨n, a, b, sc, ps⟩
  | _ => ⟨s [], default, [], default, ⟨0, 0, 0, 0⟩⟩
theorem hd (hc : WalkO Qv looseN (XL Qv lvN) HK.says (OpenRow.toRowW (OpenLaw.row PySem.Challenge.rw_re0076_01)) dLaw [] fun f vs => PySem.call f vs) : PySem.Challenge.rw_re0076_01.Holds := by
  refine holds_law said0 fun said => ?_
  refine holds_open (q := Qv) (loose := looseN) (Xt := XtN) (XP := XL Qv lvN) (Yf := HK.obs) (Ya := HK.val) (YP := HK.says) (N := 36000) (d := dLaw) (kwd := []) leftO (Hook.of HK) (Hook.keeps HK) (fun s e => xl_of s (Bool.and_eq_true_iff.mp e).1) XL.keeps (by kernel_rfl) (by kernel_rfl) (by rfl) (fun s e => recFacts_of (Bool.and_eq_true_iff.mp e).2) (by rfl) said (by decide +kernel) ⟨rfl, rfl, rfl, rfl, rfl, by decide +kernel⟩ ?hw hc
  case hw => w_witness2

end Mine
end
end
section
open PySem PySem.W PyProof.Rows PySem.Builtin PySem.Builtin.Str
set_option linter.unusedVariables false
namespace Mine
theorem s_len (l : Tx) : (s l).length = l.length := rfl
theorem s_cps (l : Tx) : (s l).cps.toList = l := rfl
theorem s_of (x : Str) : s x.cps.toList = x := rfl
theorem s_app (a b : Tx) : s a ++ s b = s (a ++ b) := by
  refine Str.ext' ?_
  rw [Str.cps_append]
  show (Array.mk a ++ Array.mk b) = Array.mk (a ++ b)
  simp
theorem s_inj {a b : Tx} : s a = s b ↔ a = b := ⟨fun h => congrArg (fun x : Str => x.cps.toList) h, fun h => by rw [h]⟩
theorem s_sub (l : Tx) (i j : Nat) : strSub (s l) i j = s ((l.take j).drop i) := by
  refine Str.ext' ?_
  show (Array.mk l).extract i j = Array.mk ((l.take j).drop i)
  apply Array.ext'
  rw [Array.toList_extract]
  simp only [List.extract_eq_take_drop]
  rw [List.drop_take]
theorem dropWhile_eq_drop {α : Type} (p : α → Bool) : ∀ l : List α, l.dropWhile p = l.drop (l.takeWhile p).length
  | [] => rfl
  | a :: l => by
    rw [List.dropWhile_cons, List.takeWhile_cons]
    split
    · simpa using dropWhile_eq_drop p l
    · rfl
theorem s_rstrip (l : Tx) : Txt.rstrip (s l) = s (rstripL l) := by
  unfold Txt.rstrip
  rw [PyProof.Rows.stripBy_eq]
  have e1 : stripLo PySem.Unicode.isSpace false (s l) = 0 := rfl
  have e2 : stripHi PySem.Unicode.isSpace true (s l) 0 = l.length - (l.reverse.takeWhile PySem.Unicode.isSpace).length := by
    simp [stripHi, s_len, s_cps]
  rw [e1, e2, s_sub]
  congr 1
  unfold rstripL
  rw [dropWhile_eq_drop, List.drop_reverse, List.reverse_reverse]
  rfl
theorem rstripL_len (l : Tx) : (rstripL l).length ≤ l.length := by
  have := len_rstrip (s l)
  rw [s_rstrip] at this
  exact this
/-- a bound of a slice, clipped -/
def clip (n : Nat) (i : Int) : Nat := (max 0 (min (if i < 0 then i + n else i) (n : Int))).toNat
theorem clip_le (n : Nat) (i : Int) : clip n i ≤ n := by unfold clip; omega
theorem clip_nat {n k : Nat} (h : k ≤ n) : clip n (k : Int) = k := by unfold clip; omega
theorem clip_neg1 (n : Nat) : clip n (-1) = n - 1 := by unfold clip; simp; omega
theorem sliceIdx (n : Nat) (i j : Int) : strSliceIndices (some i) (some j) 1 n = (List.range (clip n j - clip n i)).map (fun k => clip n i + k) := by
  have h1 : ((1 : Int) > 0) = True := by simp
  simp only [strSliceIndices, sliceRange, h1, if_true]
  have ei : max 0 (min (if i < 0 then i + ↑n else i) (n : Int)) = (clip n i : Int) := by unfold clip; omega
  have ej : max 0 (min (if j < 0 then j + ↑n else j) (n : Int)) = (clip n j : Int) := by unfold clip; omega
  rw [ei, ej]
  split
  · have : (((clip n j : Int) - clip n i + 1 - 1) / 1).toNat = clip n j - clip n i := by rw [Int.ediv_one]; omega
    rw [this]
    exact List.map_congr_left fun k _ => by omega
  · have : clip n j - clip n i = 0 := by omega
    simp [this]
theorem s_slice_ss (l : Tx) (i j : Int) : Txt.slice (s l) (some i) (some j) = s ((l.take (clip l.length j)).drop (clip l.length i)) := by
  unfold Txt.slice
  rw [s_len, sliceIdx]
  have hj := clip_le l.length j
  have hi := clip_le l.length i
  simp only [List.length_map, List.length_range, beq_self_eq_true, Bool.true_and, beq_iff_eq]
  split
  · rename_i h
    have h0 : clip l.length i = 0 := by omega
    have h1 : clip l.length j = l.length := by omega
    rw [h0, h1]; simp
  · have hp := StrLaws.picks l (clip l.length j - clip l.length i) (clip l.length i)
    by_cases hle : clip l.length i ≤ clip l.length j
    · have := hp (by omega)
      refine Str.ext' (Array.ext' ?_)
      show (List.filterMap (fun x => (Array.mk l)[x]?) _) = _
      simp only [List.getElem?_toArray]
      rw [this, List.drop_take]; rfl
    · have e0 : clip l.length j - clip l.length i = 0 := by omega
      rw [e0]
      have : (l.take (clip l.length j)).drop (clip l.length i) = [] := by rw [List.drop_eq_nil_iff, List.length_take]; omega
      rw [this]; rfl
theorem idx_ns (u : Option Int) (n : Nat) : strSliceIndices none u 1 n = strSliceIndices (some 0) u 1 n := StrLaws.sliceIdx_none_lo u n
theorem s_slice_ns (l : Tx) (j : Int) : Txt.slice (s l) none (some j) = s (l.take (clip l.length j)) := by
  have : Txt.slice (s l) none (some j) = Txt.slice (s l) (some 0) (some j) := by unfold Txt.slice; rw [StrLaws.sliceIdx_none_lo]
  rw [this, s_slice_ss, show clip l.length 0 = 0 from by unfold clip; omega]; rfl
theorem s_slice_sn (l : Tx) (i : Int) : Txt.slice (s l) (some i) none = s (l.drop (clip l.length i)) := by
  have : Txt.slice (s l) (some i) none = Txt.slice (s l) (some i) (some (l.length : Int)) := by unfold Txt.slice; rw [StrLaws.sliceIdx_none_hi]; rfl
  rw [this, s_slice_ss, clip_nat (Nat.le_refl _), List.take_length]
theorem s_item {l : Tx} {i : Int} {c : Nat} (h0 : 0 ≤ i) (h : l[i.toNat]? = some c) : Txt.item (s l) i = s [c] := by
  have hlt : i.toNat < l.length := by
    by_cases q : i.toNat < l.length
    · exact q
    · rw [List.getElem?_eq_none (by omega)] at h; cases h
  have h1 : ¬ i < 0 := by omega
  unfold Txt.item Txt.charAt seqIndex?
  simp only [if_neg h1, s_len]
  have hd : (decide (0 ≤ i) && decide (i < (l.length : Int))) = true := by simp; omega
  rw [if_pos hd]
  show Str.mk #[(((Array.mk l)[i.toNat]?)).getD 0] = _
  rw [List.getElem?_toArray, h]; rfl
theorem s_item_last {l : Tx} {c : Nat} (h : l.getLast? = some c) : Txt.item (s l) (-1) = s [c] := by
  have hn : l ≠ [] := by intro e; rw [e] at h; cases h
  have hp : 0 < l.length := List.length_pos_iff.mpr hn
  have e1 : seqIndex? (-1) (s l).length = some (l.length - 1) := by
    unfold seqIndex?
    have h2 : (decide ((0 : Int) ≤ (-1 : Int) + (l.length : Int)) && decide ((-1 : Int) + (l.length : Int) < (l.length : Int))) = true := by simp; omega
    show (if (decide ((0 : Int) ≤ (-1 : Int) + (l.length : Int)) && decide ((-1 : Int) + (l.length : Int) < (l.length : Int))) = true then some ((-1 : Int) + (l.length : Int)).toNat else none) = _
    rw [if_pos h2]; congr 1; omega
  unfold Txt.item Txt.charAt
  rw [e1]
  show Str.mk #[(((Array.mk l)[l.length - 1]?)).getD 0] = _
  rw [List.getElem?_toArray, ← List.getLast?_eq_getElem?, h]; rfl
theorem s_contains (l : Tx) (c : Nat) : Txt.contains (s l) (s [c]) = decide (c ∈ l) := by
  have := StrLaws.found_one (s l) c
  exact this
theorem s_endswith (l : Tx) (c : Nat) : Txt.endswith (s l) (s [c]) = decide (l.getLast? = some c) := by
  unfold Txt.endswith subAt
  simp only [s_len, List.length_singleton, Nat.zero_add]
  rw [Bool.eq_iff_iff]
  simp only [Bool.and_eq_true, decide_eq_true_eq]
  by_cases hn : l = []
  · subst hn; simp
  · have hp : 0 < l.length := List.length_pos_iff.mpr hn
    have hsub : ((s l).cps.extract (l.length - 1) (l.length - 1 + 1) == (s [c]).cps) = true ↔ l.drop (l.length - 1) = [c] := by
      rw [beq_iff_eq]
      constructor
      · intro h
        have := congrArg Array.toList h
        rw [Array.toList_extract, List.extract_eq_take_drop] at this
        have e : (l.length - 1 + 1 - (l.length - 1)) = 1 := by omega
        rw [e] at this
        have h2 : (l.drop (l.length - 1)).take 1 = [c] := this
        rwa [List.take_of_length_le (by simp; omega)] at h2
      · intro h
        apply Array.ext'
        rw [Array.toList_extract, List.extract_eq_take_drop]
        have e : (l.length - 1 + 1 - (l.length - 1)) = 1 := by omega
        rw [e]
        show (l.drop (l.length - 1)).take 1 = [c]
        rw [h]; rfl
    rw [hsub]
    constructor
    · rintro ⟨_, h⟩
      rw [List.getLast?_eq_getElem?]
      have := congrArg (fun x => x[0]?) h
      simpa using this
    · intro h
      refine ⟨hp, ?_⟩
      have e := snoc_of h
      have : l.length - 1 = l.dropLast.length := by simp
      rw [this]
      conv => lhs; rw [e]
      simp
theorem s_join (sep : Tx) : ∀ ls : List Tx, Txt.join (s sep) (ls.map s) = s (List.intercalate sep ls) := by
  intro ls
  unfold Txt.join
  rw [StrLaws.glued_eq_join]
  induction ls with
  | nil => rfl
  | cons a t ih =>
    cases t with
    | nil => simp [Str.join, List.intercalate, List.intersperse]
    | cons b t =>
      show s a ++ s sep ++ Str.join (s sep) ((b :: t).map s) = _
      rw [ih, s_app, s_app]
      congr 1
      simp [List.intercalate, List.intersperse]
theorem inter_jn (ls : List Tx) : List.intercalate [10] ls = jn ls := by
  induction ls with
  | nil => rfl
  | cons a t ih =>
    cases t with
    | nil => simp [jn, List.intercalate, List.intersperse]
    | cons b t =>
      rw [jn_cons _ (by simp), ← ih]
      simp [List.intercalate, List.intersperse]
theorem inter_nil (ls : List Tx) : List.intercalate [] ls = ls.flatten := by
  induction ls with
  | nil => rfl
  | cons a t ih =>
    cases t with
    | nil => simp [List.intercalate, List.intersperse]
    | cons b t =>
      have : List.intercalate [] (a :: b :: t) = a ++ List.intercalate [] (b :: t) := by simp [List.intercalate, List.intersperse]
      rw [this, ih]; rfl
theorem s_joinN (ls : List Tx) : Txt.join (s [10]) (ls.map s) = s (jn ls) := by rw [s_join, inter_jn]
theorem s_join0 (ls : List Tx) : Txt.join (s []) (ls.map s) = s ls.flatten := by rw [s_join, inter_nil]
theorem map_s_of (ys : List Str) : ys = (ys.map (·.cps.toList)).map s := by
  rw [List.map_map]
  conv => lhs; rw [← List.map_id ys]
  exact List.map_congr_left fun x _ => rfl
theorem s_split (l : Tx) : Txt.split (s l) (s [10]) = (lns l).map s := by
  have h1 := StrLaws.join_split (s l) (s [10])
  have h2 := StrLaws.split_free (s l) 10
  have h0 := (fact_split (s l) (s [10])).1
  generalize hp : Txt.split (s l) (s [10]) = parts at h1 h0
  have h2' : ∀ p ∈ parts, 10 ∉ p.cps.toList := fun p hm => h2 p (by rw [← hp] at hm; exact hm)
  have e := map_s_of parts
  generalize ht : parts.map (·.cps.toList) = t at e
  have ht0 : t ≠ [] := by intro q; rw [q] at e; rw [e] at h0; simp at h0
  have hf : ∀ a ∈ t, 10 ∉ a := by
    intro a ha
    rw [← ht] at ha
    obtain ⟨p, hm, rfl⟩ := List.mem_map.mp ha
    exact h2' p hm
  rw [e, ← StrLaws.glued_eq_join] at h1
  have h3 : s (jn t) = s l := (s_joinN t).symm.trans h1
  have h4 := s_inj.mp h3
  rw [e, ← h4, lns_jn ht0 hf]
theorem s_mul {c : Nat} {n : Nat} : Txt.mul (s [c]) (n : Int) = s (List.replicate n c) := by
  unfold Txt.mul
  by_cases h0 : n = 0
  · subst h0; rfl
  · rw [if_neg (by omega)]
    by_cases h1 : n = 1
    · subst h1; rfl
    · have : ¬ (((n : Int) == 1 || (s [c]).length == 0) = true) := by simp [s_len]; omega
      rw [if_neg this]
      refine Str.ext' ?_
      show (List.replicate (n : Int).toNat (Array.mk [c])).foldl (· ++ ·) #[] = Array.mk (List.replicate n c)
      rw [Int.toNat_natCast]
      have : ∀ (k : Nat) (a : Tx), (List.replicate k (Array.mk [c])).foldl (· ++ ·) (Array.mk a) = Array.mk (a ++ List.replicate k c) := by
        intro k
        induction k with
        | zero => intro a; simp
        | succ k ih =>
          intro a
          rw [List.replicate_succ, List.foldl_cons]
          have : (Array.mk a ++ Array.mk [c]) = Array.mk (a ++ [c]) := by simp
          rw [this, ih, List.append_assoc]; rfl
      have := this n []
      simpa using this
end Mine
end
section
open PySem PySem.W PyProof.Rows PySem.Builtin PySem.Builtin.Str
set_option linter.unusedVariables false
namespace Mine
def spans : Nat → Nat → Tx → List (Nat × Nat × Nat) × Nat
  | st, _, [] => ([], st)
  | st, cur, c :: r => if c = 10 then ((st, cur, cur + 1) :: (spans (cur + 1) (cur + 1) r).1, (spans (cur + 1) (cur + 1) r).2) else spans st (cur + 1) r
theorem lb10 : PySem.Unicode.isLineBreak 10 = true := by decide +kernel
theorem spans_run {l : Tx} (hl : ∀ c ∈ l, PySem.Unicode.isLineBreak c = true → c = 10) : ∀ (r : Tx) (cur st : Nat) (a : Array (Nat × Nat × Nat)), l.drop cur = r → st ≤ cur →
    Id.run (forIn (m := Id) (List.range' cur r.length) ((a, st) : StrLaws.LsSt) (StrLaws.lsBody (s l))) = (a ++ ((spans st cur r).1).toArray, (spans st cur r).2)
  | [], cur, st, a, _, _ => by simp [spans]
  | c :: r, cur, st, a, hd, hs => by
    have hg : l[cur]? = some c := by
      have := congrArg (fun x => x[0]?) hd
      simpa using this
    have hm : c ∈ l := List.mem_of_getElem? hg
    have hgd : (s l).cps.getD cur 0 = c := by
      rw [← getD_list (s l) cur, s_cps, List.getD_eq_getElem?_getD, hg]; rfl
    have hd' : l.drop (cur + 1) = r := by
      have := congrArg (List.drop 1) hd
      rw [List.drop_drop] at this
      simpa [Nat.add_comm] using this
    rw [List.length_cons, List.range'_succ, List.forIn_cons]
    unfold StrLaws.lsBody
    rw [hgd]
    by_cases hc : c = 10
    · have h1 : (decide (st ≤ cur) && PySem.Unicode.isLineBreak c) = true := by rw [hc, lb10]; simp [hs]
      have hn : StrLaws.lsNext (s l) cur = cur + 1 := by
        unfold StrLaws.lsNext; rw [hgd, hc]; rfl
      simp only [h1, if_true, hn]
      have ih := spans_run hl r (cur + 1) (cur + 1) (a.push (st, cur, cur + 1)) hd' (Nat.le_refl _)
      have e : spans st cur (c :: r) = ((st, cur, cur + 1) :: (spans (cur + 1) (cur + 1) r).1, (spans (cur + 1) (cur + 1) r).2) := by rw [spans, if_pos hc]
      rw [e]
      show Id.run (forIn (m := Id) (List.range' (cur + 1) r.length) ((a.push (st, cur, cur + 1), cur + 1) : StrLaws.LsSt) (StrLaws.lsBody (s l))) = _
      rw [ih]
      simp
    · have h1 : (decide (st ≤ cur) && PySem.Unicode.isLineBreak c) = false := by
        cases q : PySem.Unicode.isLineBreak c with
        | false => simp
        | true => exact absurd (hl c hm q) hc
      simp only [h1, Bool.false_eq_true, if_false]
      have e : spans st cur (c :: r) = spans st (cur + 1) r := by rw [spans, if_neg hc]
      rw [e]
      exact spans_run hl r (cur + 1) st a hd' (Nat.le_succ_of_le hs)
theorem slns_cons {p : Tx} (h : 10 ∉ p) (r : Tx) : slns (p ++ 10 :: r) = p :: slns r := by
  unfold slns
  rw [lns_app h]
  have hn := lns_ne r
  have e1 : (p :: lns r).getLast? = (lns r).getLast? := by
    cases q : lns r with
    | nil => exact absurd q hn
    | cons a t => simp [List.getLast?_cons]
  rw [e1]
  split
  · cases q : lns r with
    | nil => exact absurd q hn
    | cons a t => rfl
  · rfl
theorem slns_free {p : Tx} (h : 10 ∉ p) : slns p = if p = [] then [] else [p] := by
  unfold slns
  rw [lns_free h]
  by_cases q : p = []
  · subst q; rfl
  · simp [q]
theorem spans_lines {l : Tx} : ∀ (r : Tx) (cur st : Nat), l.drop cur = r → cur + r.length = l.length → st ≤ cur → 10 ∉ (l.take cur).drop st →
    ((spans st cur r).1 ++ (if (spans st cur r).2 < l.length then [((spans st cur r).2, l.length, l.length)] else [])).map (fun p => (l.take p.2.1).drop p.1) = slns ((l.take cur).drop st ++ r)
  | [], cur, st, hd, hn, hs, hf => by
    have hc : cur = l.length := by simpa using hn
    subst hc
    rw [List.append_nil, slns_free hf]
    have e1 : (spans st l.length []).1 = [] := rfl
    have e2 : (spans st l.length []).2 = st := rfl
    rw [e1, e2, List.nil_append]
    by_cases q : st < l.length
    · have hne : ¬ (l.take l.length).drop st = [] := by rw [List.take_length, List.drop_eq_nil_iff]; omega
      rw [if_pos q, if_neg hne]; rfl
    · have hne : (l.take l.length).drop st = [] := by rw [List.take_length, List.drop_eq_nil_iff]; omega
      rw [if_neg q, if_pos hne]; rfl
  | c :: r, cur, st, hd, hn, hs, hf => by
    have hlt : cur < l.length := by simp at hn; omega
    have hg : l[cur]? = some c := by
      have := congrArg (fun x => x[0]?) hd
      simpa using this
    have hd' : l.drop (cur + 1) = r := by
      have := congrArg (List.drop 1) hd
      rw [List.drop_drop] at this
      simpa [Nat.add_comm] using this
    have hn' : cur + 1 + r.length = l.length := by simp at hn; omega
    by_cases hc : c = 10
    · have e : spans st cur (c :: r) = ((st, cur, cur + 1) :: (spans (cur + 1) (cur + 1) r).1, (spans (cur + 1) (cur + 1) r).2) := by rw [spans, if_pos hc]
      have e0 : (l.take (cur + 1)).drop (cur + 1) = [] := by rw [List.drop_eq_nil_iff, List.length_take]; omega
      have ih := spans_lines r (cur + 1) (cur + 1) hd' hn' (Nat.le_refl _) (by rw [e0]; simp)
      rw [e0, List.nil_append] at ih
      rw [e, hc, slns_cons hf, ← ih]
      simp
    · have e : spans st cur (c :: r) = spans st (cur + 1) r := by rw [spans, if_neg hc]
      have et : (l.take (cur + 1)).drop st = (l.take cur).drop st ++ [c] := by
        rw [List.take_add_one, hg]
        rw [List.drop_append_of_le_length (by rw [List.length_take]; omega)]; rfl
      have ih := spans_lines r (cur + 1) st hd' hn' (Nat.le_succ_of_le hs) (by rw [et]; simp only [List.mem_append, List.mem_singleton, not_or]; exact ⟨hf, fun q => hc q.symm⟩)
      rw [et, List.append_assoc] at ih
      rw [e]
      exact ih
theorem s_lines {l : Tx} (hl : ∀ c ∈ l, PySem.Unicode.isLineBreak c = true → c = 10) : Txt.lines (s l) = (slns l).map s := by
  have hsp : lineSpans (s l) = (spans 0 0 l).1 ++ (if (spans 0 0 l).2 < l.length then [((spans 0 0 l).2, l.length, l.length)] else []) := by
    rw [StrLaws.ls_eq]
    have := spans_run hl l 0 0 #[] rfl (Nat.le_refl _)
    rw [s_len, this]
    unfold StrLaws.lsEnd
    simp only [s_len]
    split <;> (rename_i hq; simp [hq])
  have hm : (lineSpans (s l)).map (fun p => (l.take p.2.1).drop p.1) = slns l := by
    rw [hsp]
    have := spans_lines (l := l) l 0 0 rfl (by simp) (Nat.le_refl _) (by simp)
    simpa using this
  have hc : (lineCuts (s l)).map (fun p => strSub (s l) p.1 p.2) = (slns l).map s := by
    rw [← hm]
    unfold lineCuts
    rw [List.map_map, List.map_map]
    refine List.map_congr_left fun p _ => ?_
    obtain ⟨a, b, c⟩ := p
    exact s_sub l a b
  unfold Txt.lines
  split
  · rename_i h
    rw [beq_iff_eq] at h
    rw [h] at hc
    rw [← hc]
    show [s l] = [strSub (s l) 0 (s l).length]
    rw [s_sub, s_len, List.take_length]; rfl
  · exact hc
end Mine
end
section
open PySem PySem.W PyProof.Rows PySem.Calls
set_option maxRecDepth 100000
set_option maxHeartbeats 4000000
set_option linter.unusedVariables false
namespace Mine
abbrev PWx : Program := PySem.Challenge.pw_re0076_01
abbrev Kp (h h' : Heap) : Prop := ∀ b o, h.get? b = some o → h'.get? b = some o
theorem lit_hs : Str.ofString "# " = s [35, 32] := by decide +kernel
theorem lit_h : Str.ofString "#" = s [35] := by decide +kernel
theorem lit_nl : Str.ofString "\n" = s [10] := by decide +kernel
theorem lit_e : Str.ofString "" = s [] := by decide +kernel
theorem lit_eq : Str.ofString "=" = s [61] := by decide +kernel
theorem lit_sp : Str.ofString " " = s [32] := by decide +kernel
theorem lit_tab : Str.ofString "\t" = s [9] := by decide +kernel
theorem lit_ok : Str.ofString "a \t#" = s [97, 32, 9, 35] := by decide +kernel
theorem lit_hex : Str.ofString "0123456789ABCDEF" = s [48, 49, 50, 51, 52, 53, 54, 55, 56, 57, 65, 66, 67, 68, 69, 70] := by decide +kernel
theorem lit_20 : Str.ofString "=20" = s [61, 50, 48] := by decide +kernel
theorem lit_09 : Str.ofString "=09" = s [61, 48, 57] := by decide +kernel
theorem lit_a0 : Str.ofString "\xa0" = s [160] := by decide +kernel
theorem lit_st : Str.ofString " \t" = s [32, 9] := by decide +kernel
theorem fillK : PySem.Challenge.rw_re0076_01 = PySem.Challenge.rw_re0076_01 ∧ KF = KF := by k_fill; exact ⟨rfl, rfl⟩
section
variable {w : World} {mg mb : Str → Option Value} {lo : List Str}

theorem enter {A : Around} {s : Shared} {R : Result → Shared → Prop} {f : Addr} {name qual : Str} {params : Arguments} {body : List Stmt} {scope : Scope} {dV kV doc pm cdv ct : Value} {an : Option Addr} {args : Args} {binds : List (Str × Value)}
    (X : (KF w.params).In s.heap) (T : TopRead Qv lo mg mb s.heap) (hroom : A.depth < recursionLimit)
    (ho : (KF w.params).lookup f = some ⟨.type "function", none, .func (fnOf name qual params body scope dV kV doc pm an cdv ct), ⟨[]⟩⟩)
    (hcd : codeIn (KF w.params) cdv qual = true) (hbind : BindsTo s (fnOf name qual params body scope dV kV doc pm an cdv ct) args binds)
    (hloc : ∀ x ∈ binds, scope.names.lookup x.1 = some .local) (hcell : ∀ x ∈ scope.names, x.2 ≠ .cell)
    (h : ∀ h₁ L, L = s.heap.objs.size → Fr s.heap L h₁ (fun y => binds.reverse.lookup y) →
      wpAny (model PWx w) (A.deeper (envOf qual scope L f cdv)) (execs body (envOf qual scope L f cdv))
        (fun fl s' => R (.ok (.ret (match fl with | .ret v => v | _ => .none))) s') (fun _ _ => False) { s with heap := h₁, toks := s.toks + binds.length })
    (hco : scope.isCoroutine = false := by rfl) (hgen : scope.isGenerator = false := by rfl) (hk : scope.kind = .function := by rfl) : codeAny (model PWx w) A (.call (.ref f) args) R s := by
  refine codeAny_call_def (fd := fnOf name qual params body scope dV kV doc pm an cdv ct) (body := body) (binds := binds) hroom (X _ _ ho) rfl T.nolimit (codeRec_of X hcd) rfl hbind hcell hloc (fun h₁ hns hk₁ => ?_) hco hgen hk
  exact wpAny_mono (h h₁ _ rfl ⟨hns, hk₁, Nat.le_refl _⟩) (fun _ _ x => x) (fun _ _ x => x.elim)


def IsS (v : Option Value) (l : Tx) : Prop := ∃ t, v = some (.str (s l) t)
def IsI (v : Option Value) (i : Int) : Prop := ∃ t, v = some (.int i t)
theorem IsS.mk {x : Str} {l : Tx} {t : Tok} (e : x = s l) : IsS (some (.str x t)) l := ⟨t, by rw [e]⟩
theorem IsI.mk {x i : Int} {t : Tok} (e : x = i) : IsI (some (.int x t)) i := ⟨t, by rw [e]⟩
theorem retS {st : Shared} {Q : Value → Shared → Prop} {l : Tx} {x : Str} {t : Tok} {h' : Heap} {tk : Nat}
    (h : ∀ t h' tk, Kp st.heap h' → Q (.str (s l) t) { st with heap := h', toks := tk }) (k : Kp st.heap h') (e : x = s l) : Q (.str x t) { st with heap := h', toks := tk } := by
  subst e; exact h t h' tk k

theorem len0 {l : Tx} (h : ((s l).length : Int) = 0) : l = [] := by rw [s_len] at h; exact List.length_eq_zero_iff.mp (by omega)
theorem lenN {l : Tx} (h : ((s l).length : Int) ≠ 0) : l ≠ [] := by rw [s_len] at h; intro q; subst q; exact h rfl
theorem comment_spec {A : Around} {st : Shared} {l : Tx} {t : Tok} {Q : Value → Shared → Prop} {E : Value → Shared → Prop}
    (X : (KF w.params).In st.heap) (T : TopRead Qv lo mg mb st.heap) (hroom : A.depth < 990) (hx : (s l).length ≤ 1000)
    (h : ∀ t h' tk, Kp st.heap h' → Q (.str (s (commentL l)) t) { st with heap := h', toks := tk }) : wpAny (model PWx w) A (call (.ref 21) [.str (s l) t]) Q E st := by
  refine wpAny_call (enter (binds := [(Str.ofString "line", .str (s l) t)]) X T (Nat.lt_trans hroom (by decide)) (by rfl) (by rfl) (BindsTo.of_eq (by rfl)) (locs (by rfl)) (by decide) ?_)
  intro h₁ L hL F
  have N : News st.heap L h₁ [] := News.nil
  repeat' walk1
  all_goals dsimp only
  · refine retS h (Fr.keep (by assumption)) ?_
    rename ((_ : Int) ≠ 0) => h0
    rw [s_rstrip] at h0
    rw [s_rstrip, lit_hs, s_app, commentL, if_neg (lenN h0)]; rfl
  · refine retS h (Fr.keep (by assumption)) ?_
    rename ((_ : Int) = 0) => h0
    rw [s_rstrip] at h0
    rw [lit_h, commentL, if_pos (len0 h0)]
theorem marked_spec {A : Around} {st : Shared} {l : Tx} {t : Tok} {Q : Value → Shared → Prop} {E : Value → Shared → Prop}
    (X : (KF w.params).In st.heap) (T : TopRead Qv lo mg mb st.heap) (hroom : A.depth < 990) (hx : (s l).length ≤ 1000)
    (h : ∀ t h' tk, Kp st.heap h' → Q (.str (s (marked l)) t) { st with heap := h', toks := tk }) : wpAny (model PWx w) A (call (.ref 96) [.str (s l) t]) Q E st := by
  refine wpAny_call (enter (binds := [(Str.ofString "row", .str (s l) t)]) X T (Nat.lt_trans hroom (by decide)) (by rfl) (by rfl) (BindsTo.of_eq (by rfl)) (locs (by rfl)) (by decide) ?_)
  intro h₁ L hL F
  have N : News st.heap L h₁ [] := News.nil
  repeat' walk1
  all_goals dsimp only
  · refine retS h (Fr.keep (by assumption)) ?_
    rename ((_ != _) = true) => h0
    rw [lit_e] at h0
    have : l ≠ [] := by rintro rfl; simp at h0
    rw [lit_hs, s_app, marked, if_neg this]; rfl
  · refine retS h (Fr.keep (by assumption)) ?_
    rename ((_ != _) = false) => h0
    rw [lit_e] at h0
    have : l = [] := by simpa [s_inj] using h0
    rw [lit_h, marked, if_pos this]
theorem hexd_lit {k : Nat} (h : k < 16) : ([48, 49, 50, 51, 52, 53, 54, 55, 56, 57, 65, 66, 67, 68, 69, 70] : Tx)[k]? = some (hexd k) := by
  match k, h with
  | 0, _ | 1, _ | 2, _ | 3, _ | 4, _ | 5, _ | 6, _ | 7, _ | 8, _ | 9, _ | 10, _ | 11, _ | 12, _ | 13, _ | 14, _ | 15, _ => rfl
  | k + 16, h => exact absurd h (by omega)

theorem found_lit {l : Tx} {c : Nat} (h : (Builtin.Str.occurrences (s l) (s [c]) 0 (s l).length 1).isEmpty = false) : c ∈ l := by
  have := s_contains l c
  unfold Txt.contains at this
  rw [h] at this
  simpa using this.symm
theorem found_not {l : Tx} {c : Nat} (h : (Builtin.Str.occurrences (s l) (s [c]) 0 (s l).length 1).isEmpty = true) : c ∉ l := by
  have := s_contains l c
  unfold Txt.contains at this
  rw [h] at this
  simpa using this.symm
theorem sign_spec {A : Around} {st : Shared} {c : Nat} {t : Tok} {Q : Value → Shared → Prop} {E : Value → Shared → Prop}
    (X : (KF w.params).In st.heap) (T : TopRead Qv lo mg mb st.heap) (hroom : A.depth < 990) (hx : c < 256)
    (h : ∀ t h' tk, Kp st.heap h' → Q (.str (s (enc c)) t) { st with heap := h', toks := tk }) : wpAny (model PWx w) A (call (.ref 79) [.str (s [c]) t]) Q E st := by
  refine wpAny_call (enter (binds := [(Str.ofString "sign", .str (s [c]) t)]) X T (Nat.lt_trans hroom (by decide)) (by rfl) (by rfl) (BindsTo.of_eq (by rfl)) (locs (by rfl)) (by decide) ?_)
  intro h₁ L hL F
  have N : News st.heap L h₁ [] := News.nil
  repeat' walk1
  all_goals dsimp only
  · refine retS h (Fr.keep (by assumption)) ?_
    rename (List.isEmpty _ = true) => h0
    rw [lit_ok] at h0
    have h1 := found_not h0
    have hp : isP c = false := by simp only [List.mem_cons, List.not_mem_nil, or_false, not_or] at h1; simp [isP, h1]
    have e1 : ((c : Int).fdiv 16) = ((c / 16 : Nat) : Int) := by rw [Int.fdiv_eq_ediv_of_nonneg _ (by decide)]; rfl
    have e2 : ((c : Int).fmod 16) = ((c % 16 : Nat) : Int) := by rw [Int.fmod_eq_emod_of_nonneg _ (by decide)]; rfl
    rw [lit_eq, lit_hex, e1, e2, s_item (by omega) (by rw [Int.toNat_natCast]; exact hexd_lit (by omega)), s_item (by omega) (by rw [Int.toNat_natCast]; exact hexd_lit (by omega)), s_app, s_app]
    rw [enc, hp]; rfl
  · refine retS h (Fr.keep (by assumption)) ?_
    rename (List.isEmpty _ = false) => h0
    rw [lit_ok] at h0
    have h1 := found_lit h0
    have hp : isP c = true := by simp only [List.mem_cons, List.not_mem_nil, or_false] at h1; simp only [isP, Bool.or_eq_true, beq_iff_eq]; omega
    rw [enc, hp]; rfl
theorem drop_last {k : Tx} {c : Nat} (h : k.drop (k.length - 1) = [c]) : k.getLast? = some c := by
  rw [List.getLast?_eq_getElem?]
  have := congrArg (fun x => x[0]?) h
  simpa using this
theorem last_drop {k : Tx} {c : Nat} (h : k.getLast? = some c) : k.drop (k.length - 1) = [c] := by
  have e := snoc_of h
  have : k.length - 1 = k.dropLast.length := by simp
  rw [this]
  conv => lhs; rw [e]
  simp
theorem kept_more {k : Tx} (h : ([s [32], s [9], s [160]].any fun x => x == s (k.drop (k.length - 1))) = true) : ∃ c, k.getLast? = some c ∧ keptW c = true := by
  simp only [List.any_cons, List.any_nil, Bool.or_false, Bool.or_eq_true, beq_iff_eq, s_inj] at h
  rcases h with h | h | h
  · exact ⟨32, drop_last h.symm, rfl⟩
  · exact ⟨9, drop_last h.symm, rfl⟩
  · exact ⟨160, drop_last h.symm, rfl⟩
theorem kept_drop {k : Tx} {c : Nat} (hc : k.getLast? = some c) (hw : keptW c = true) : keptL k = keptL k.dropLast := by
  conv => lhs; rw [snoc_of hc]
  unfold keptL
  rw [List.reverse_append]
  simp [hw]
theorem kept_stop {k : Tx} (h : ([s [32], s [9], s [160]].any fun x => x == s (k.drop (k.length - 1))) = false) : s k = s (keptL k) := by
  congr 1
  cases e : k.getLast? with
  | none => rw [List.getLast?_eq_none_iff.mp e]; rfl
  | some c =>
    have hd := last_drop e
    rw [hd] at h
    simp only [List.any_cons, List.any_nil, Bool.or_false, Bool.or_eq_false_iff, beq_eq_false_iff_ne, ne_eq, s_inj, List.cons.injEq, and_true] at h
    have hw : keptW c = false := by simp only [keptW, Bool.or_eq_false_iff, beq_eq_false_iff_ne]; exact ⟨⟨fun q => h.1 q.symm, fun q => h.2.1 q.symm⟩, fun q => h.2.2 q.symm⟩
    conv => lhs; rw [snoc_of e]
    rw [snoc_of e]
    unfold keptL
    rw [List.reverse_append]
    simp [hw]
theorem kept_spec {A : Around} {st : Shared} {l : Tx} {t : Tok} {Q : Value → Shared → Prop} {E : Value → Shared → Prop}
    (X : (KF w.params).In st.heap) (T : TopRead Qv lo mg mb st.heap) (hroom : A.depth < 990) (hx : (s l).length ≤ 1000)
    (h : ∀ t h' tk, Kp st.heap h' → Q (.str (s (keptL l)) t) { st with heap := h', toks := tk }) : wpAny (model PWx w) A (call (.ref 103) [.str (s l) t]) Q E st := by
  refine wpAny_call (enter (binds := [(Str.ofString "line", .str (s l) t)]) X T (Nat.lt_trans hroom (by decide)) (by rfl) (by rfl) (BindsTo.of_eq (by rfl)) (locs (by rfl)) (by decide) ?_)
  intro h₁ L hL F
  have N : News st.heap L h₁ [] := News.nil
  iterate 5 walk1
  rename Fr _ _ _ _ => F1
  rename News _ _ _ _ => N1
  refine While_inv (J := fun n m nw => ∃ k, IsS (m (Str.ofString "kept")) k ∧ keptL k = keptL l ∧ k.length = n ∧ k.length ≤ l.length) F1 N1 ⟨l, ⟨t, rfl⟩, rfl, rfl, Nat.le_refl _⟩ ?_ (fun _ _ x => x.elim)
  · rintro n m₁ nw h₂ tk₁ F2 N2 ⟨k, ⟨t2, hk⟩, e1, e2, e3⟩
    have F3 := Fr.known0 F2 hk
    have hk9 : (s k).length ≤ 1000 := Nat.le_trans e3 hx
    clear F2 F1 N1
    repeat' walk1
    all_goals try dsimp only
    · rename (List.any _ _ = true) => h0
      rw [lit_sp, lit_tab, lit_a0, s_slice_sn, clip_neg1] at h0
      obtain ⟨c, hc, hw⟩ := kept_more h0
      refine WhileStep.intro (n' := k.length - 1) (by assumption) (by assumption) ?_ ⟨k.dropLast, ?_, ?_, ?_, ?_⟩
      · have : k ≠ [] := by intro q; rw [q] at hc; cases hc
        have : 0 < k.length := List.length_pos_iff.mpr this
        omega
      · exact IsS.mk (by rw [s_slice_ns, clip_neg1, List.dropLast_eq_take])
      · rw [← e1]; exact (kept_drop hc hw).symm
      · simp
      · simp; omega
    · rename (List.any _ _ = false) => h0
      rw [lit_sp, lit_tab, lit_a0, s_slice_sn, clip_neg1] at h0
      refine retS h (Fr.keep (by assumption)) ?_
      rw [← e1, kept_stop h0]


theorem kitem {A : Around} {E : Value → Shared → Prop} {st : Shared} {value slice : PySem.Expr} {l : Addr} {vs : List Value} {k : Int} {u : Tok} {v : Value} {Q : Value → Shared → Prop}
    (hl : st.heap.IsList l vs.toArray) (h0 : 0 ≤ k) (hhi : k < 2 ^ 63) (hx : vs[k.toNat]? = some v) (h : Q v st)
    (hs : subscripted slice false (.ref l) (.int k u) = operate [.ref l, .int k u] (getItem (.ref l) (.int k u)) := by with_unfolding_all rfl) :
    wpAny (model PWx w) A (subscriptTail value slice (.ref l) (.int k u)) Q E st :=
  tail_any hl.typeIs slot_list_getitem.lookup (wpAny_getItem_list hl h0 hhi (by simpa using hx) h) hs
theorem quote_spec {A : Around} {st : Shared} {c : Nat} {t : Tok} {Q : Value → Shared → Prop} {E : Value → Shared → Prop}
    (X : (KF w.params).In st.heap) (T : TopRead Qv lo mg mb st.heap) (hroom : A.depth < 990) (hx : isW c = true)
    (h : ∀ t h' tk, Kp st.heap h' → Q (.str (s (q2 c)) t) { st with heap := h', toks := tk }) : wpAny (model PWx w) A (call (.ref 51) [.str (s [c]) t]) Q E st := by
  have hc : c < 256 := by rcases isW_cases hx with rfl | rfl <;> decide
  refine wpAny_call (enter (binds := [(Str.ofString "c", .str (s [c]) t)]) X T (Nat.lt_trans hroom (by decide)) (by rfl) (by rfl) (BindsTo.of_eq (by rfl)) (locs (by rfl)) (by decide) ?_)
  intro h₁ L hL F
  have N : News st.heap L h₁ [] := News.nil
  iterate 11 walk1
  refine kitem (vs := items 256) (v := item c) ⟨_, F.keep _ _ (X 24 _ rfl), rfl, _, rfl⟩ (by omega) (by omega) ?_ ?_
  · rcases isW_cases hx with rfl | rfl <;> rfl
  · dsimp only
    refine retS h (Fr.keep (by assumption)) ?_
    rcases isW_cases hx with rfl | rfl <;> rfl
open PySem.NumText in
theorem wp_text16 {M : Model} {A : Around} {E : Value → Shared → Prop} {st : Shared} {Q : Value → Shared → Prop} {v : Value} {text : List Nat} {n : Int}
    (hs : (text.takeWhile (· != 0)).length ≤ 640) (hr : (int_private% "readNumeral") 0 16 (text.takeWhile (· != 0)) = (int_private% "Numeral.value") n)
    (ha : ((text.takeWhile (· != 0)).length == text.length) = true) (h : Q (.int n st.toks) { st with toks := st.toks + 1 }) :
    wpAny M A ((int_private% "intFromText") v text 16) Q E st := by
  obtain ⟨hp, g, d, tk, os⟩ := st
  repeat (any_goals (first
    | assumption
    | (with_reducible refine wpAny_ite_true (decide_eq_true hs) ?_)
    | (with_reducible refine wpAny_ite_true (decide_eq_true ha) ?_)
    | wp_step))
  all_goals (try rw [hr])
  all_goals (try dsimp only)
  repeat (any_goals (first
    | assumption
    | (with_reducible refine wpAny_ite_true (decide_eq_true hs) ?_)
    | (with_reducible refine wpAny_ite_true (decide_eq_true ha) ?_)
    | wp_step))
open PySem.NumText in
theorem wp_text16b {M : Model} {A : Around} {E : Value → Shared → Prop} {st : Shared} {Q : Value → Shared → Prop} {v : Value} {text : List Nat} {base x y : Nat} {n : Int} (ht : text = [x, y]) (hb : base = 16)
    (hr : (int_private% "readNumeral") 0 16 [x, y] = (int_private% "Numeral.value") n) (hx : x ≠ 0) (hy : y ≠ 0) (h : Q (.int n st.toks) { st with toks := st.toks + 1 }) :
    wpAny M A ((int_private% "intFromText") v text base) Q E st := by
  subst ht hb
  have htw : ([x, y] : List Nat).takeWhile (· != 0) = [x, y] := by simp [hx, hy]
  exact wp_text16 (text := [x, y]) (n := n) (by rw [htw]; show 2 ≤ 640; decide) (by rw [htw]; exact hr) (by rw [htw]; rfl) h
set_option maxHeartbeats 4000000 in
open PySem.NumText in
theorem gives16 {x y : Nat} {u v : Tok} {n : Int} (hr : (int_private% "readNumeral") 0 16 [x, y] = (int_private% "Numeral.value") n) (hx : x < 128 ∧ x ≠ 0) (hy : y < 128 ∧ y ≠ 0) :
    Gives (Builtin.«int.__new__» ⟨[.type "int", .str (s [x, y]) u, .int 16 v], []⟩) (.int n) :=
  .of_wp fun M A E st Q h => by
    obtain ⟨hp, g, d, tk, os⟩ := st
    have f1 := F.conv_sub_int
    have f2 := F.madeHere_int
    have f6 : typeOf (.str (s [x, y]) u) = pure (.type "str") := rfl
    have hall : ((s [x, y]).cps.all fun x => decide (x < 128)) = true := by
      show ((Array.mk [x, y]).all fun x => decide (x < 128)) = true
      simp [hx.1, hy.1]
    have htw : ([x, y] : List Nat).takeWhile (· != 0) = [x, y] := by simp [hx.2, hy.2]
    repeat (any_goals (first
      | assumption
      | ((with_reducible show wpAny _ _ ((int_private% "intFromText") _ _ _) _ _ _); refine wp_text16b (x := x) (y := y) (n := n) ((if_pos hall).trans rfl) rfl hr hx.2 hy.2 ?_)
      | wp_step))
    all_goals first | exact ⟨_, rfl, h⟩ | skip
def okPair (x y : Nat) : Bool := (x == 50 && y == 48) || (x == 48 && y == 57) || (x == 51 && y == 68) || (x == 69 && y == 57) || (x == 65 && y == 48) || (x == 97 && y == 97)
theorem okPair_cases {x y : Nat} (h : okPair x y = true) : (x = 50 ∧ y = 48) ∨ (x = 48 ∧ y = 57) ∨ (x = 51 ∧ y = 68) ∨ (x = 69 ∧ y = 57) ∨ (x = 65 ∧ y = 48) ∨ (x = 97 ∧ y = 97) := by
  simp only [okPair, Bool.or_eq_true, Bool.and_eq_true, beq_iff_eq] at h; omega
open PySem.NumText in
theorem read16 {x y : Nat} (h : okPair x y = true) : (int_private% "readNumeral") 0 16 [x, y] = (int_private% "Numeral.value") ((16 * hval x + hval y : Nat) : Int) := by
  rcases okPair_cases h with ⟨rfl, rfl⟩ | ⟨rfl, rfl⟩ | ⟨rfl, rfl⟩ | ⟨rfl, rfl⟩ | ⟨rfl, rfl⟩ | ⟨rfl, rfl⟩ <;> kernel_rfl
theorem newCall_int_2 (a b : Value) : checkBuiltinCall "int.__new__" ⟨[.type "int", a, b], []⟩ = pure () := by kernel_rfl
theorem typeCall_int_2 (a b : Value) : checkTypeCall "int" ⟨[a, b], []⟩ = pure () := by kernel_rfl
theorem unquote_spec {A : Around} {st : Shared} {x y : Nat} {t : Tok} {Q : Value → Shared → Prop} {E : Value → Shared → Prop}
    (X : (KF w.params).In st.heap) (T : TopRead Qv lo mg mb st.heap) (hroom : A.depth < 990) (hp : okPair x y = true)
    (h : ∀ t h' tk, Kp st.heap h' → Q (.str (s [16 * hval x + hval y]) t) { st with heap := h', toks := tk }) : wpAny (model PWx w) A (call (.ref 44) [.str (s [61, x, y]) t]) Q E st := by
  refine wpAny_call (enter (binds := [(Str.ofString "s", .str (s [61, x, y]) t)]) X T (Nat.lt_trans hroom (by decide)) (by rfl) (by rfl) (BindsTo.of_eq (by rfl)) (locs (by rfl)) (by decide) ?_)
  intro h₁ L hL F
  have N : News st.heap L h₁ [] := News.nil
  have h9 : (s [61, x, y]).length = 3 := rfl
  have hb : x < 128 ∧ x ≠ 0 ∧ y < 128 ∧ y ≠ 0 := by rcases okPair_cases hp with ⟨rfl, rfl⟩ | ⟨rfl, rfl⟩ | ⟨rfl, rfl⟩ | ⟨rfl, rfl⟩ | ⟨rfl, rfl⟩ | ⟨rfl, rfl⟩ <;> decide
  repeat' walk1
  rw [s_slice_ss, show (List.drop (clip ([61, x, y] : Tx).length 1) (List.take (clip ([61, x, y] : Tx).length 3) [61, x, y])) = [x, y] from rfl]
  refine callType_new F.called_int F.newNe_int (typeCall_int_2 _ _) (newCall_int_2 _ _) (fun obj => ?_) F.entry_int_new (gives16 (read16 hp) ⟨hb.1, hb.2.1⟩ ⟨hb.2.2.1, hb.2.2.2⟩).meets ⟨rfl, ?_⟩
  · unfold argsOk
    rw [signature?_of (id := "object.__init__") (n := ['_', '_', 't', 'i', 'n', 'i', '_', '_']) (o := ['t', 'c', 'e', 'j', 'b', 'o']) (by kernel_rfl) F.owner_object]
    kernel_rfl
  · walk1
    have hv : 16 * hval x + hval y < 256 := by rcases okPair_cases hp with ⟨rfl, rfl⟩ | ⟨rfl, rfl⟩ | ⟨rfl, rfl⟩ | ⟨rfl, rfl⟩ | ⟨rfl, rfl⟩ | ⟨rfl, rfl⟩ <;> decide
    refine chr_of_range (by omega) (by omega) ?_
    dsimp only
    refine retS h (Fr.keep (by assumption)) ?_
    rw [Int.toNat_natCast]; rfl
end
end Mine
end
section
open PySem PySem.W PyProof.Rows PySem.Calls
set_option maxRecDepth 100000
set_option maxHeartbeats 4000000
set_option linter.unusedVariables false
namespace Mine
section
variable {w : World}
abbrev lo (ys : Array Value) (n : Nat) : Obj := { cls := .type "list", data := .seq ys n }
def Iters (w : World) (h : Heap) (xv : Value) (n : Nat) (P : Nat → Value → Prop) : Prop :=
  ∀ (A : Around) (E : Value → Shared → Prop) (s : Shared) (Q : Value → Shared → Prop), A.handled = none → s.heap = h →
    (∀ o fp St, (∀ A' : Around, A'.handled = none → Walks PWx w A' h.objs.size fp [h.objs.size] n P St) → St 0 (h.push o) → (∀ b ∈ fp, b < (h.push o).objs.size) → Q (.ref h.objs.size) { s with heap := h.push o }) →
    wpAny (model PWx w) A (pyIter xv) Q E s
theorem Iters.str {h : Heap} {l : Tx} {t : Tok} : Iters w h (.str (s l) t) l.length (fun i v => ∃ c u, l[i]? = some c ∧ v = .str (s [c]) u) := by
  intro A E s' Q hA hs hQ
  subst hs
  refine wpAny_pyIter_str fun o St W h0 => hQ o [s'.heap.objs.size] St (fun A' hA' => ?_) h0 (by intro b hb; rw [Heap.size_push]; rcases List.mem_singleton.mp hb with rfl; exact Nat.lt_succ_self _)
  have := W A' hA'
  have e : (s l).cps.size = l.length := rfl
  rw [e] at this
  have e2 : SignAt (s l) = fun i v => ∃ c u, l[i]? = some c ∧ v = .str (s [c]) u := by
    funext i v; show (∃ c u, (Array.mk l)[i]? = some c ∧ _) = _; simp only [List.getElem?_toArray]; rfl
  rw [e2] at this
  exact this
theorem Iters.list {h : Heap} {a : Addr} {vs : List Value} (hl : h.IsList a vs.toArray) : Iters w h (.ref a) vs.length (fun i v => vs[i]? = some v) := by
  intro A E s' Q hA hs hQ
  subst hs
  have hlt : a < s'.heap.objs.size := by obtain ⟨_, e, _⟩ := hl; exact Heap.lt_size e
  refine wpAny_pyIter_list hl (hQ _ [s'.heap.objs.size, a] (fun i h => h.IsListIter s'.heap.objs.size a i ∧ h.IsList a vs.toArray) (fun A' hA' => ?_) ⟨⟨_, Heap.get?_push_size _ rfl, rfl, rfl⟩, hl.push _⟩ ?_)
  · have := Walks.list (prog := PWx) (w := w) (A := A') hA' s'.heap.objs.size a (Nat.ne_of_lt hlt) vs.toArray
    simpa using this
  · intro b hb
    rw [Heap.size_push]
    rcases List.mem_cons.mp hb with rfl | hb
    · exact Nat.lt_succ_self _
    · rcases List.mem_singleton.mp hb with rfl
      exact Nat.lt_succ_of_lt hlt

theorem paired_of {α β : Type} {R : α → Value → Prop} {G : α → β → Prop} (hfun : ∀ a b v, R a v → R b v → a = b) : ∀ {as : List α} {vs : List Value} {ys : List β}, as.length = vs.length → (∀ (i : Nat) v, vs[i]? = some v → ∃ a, as[i]? = some a ∧ R a v) →
    Paired (fun v y => ∃ a, R a v ∧ G a y) vs ys → Paired G as ys
  | [], [], _, _, _, .nil => .nil
  | [], _ :: _, _, h, _, _ => by simp at h
  | _ :: _, [], _, h, _, _ => by simp at h
  | a :: as, v :: vs, _, hlen, hR, .cons ⟨b, h1, h2⟩ t => by
    obtain ⟨a', e, h3⟩ := hR 0 v rfl
    simp at e; subst e
    rw [← hfun _ _ _ h3 h1] at h2
    exact .cons h2 (paired_of hfun (by simpa using hlen) (fun i v e => by obtain ⟨x, q1, q2⟩ := hR (i + 1) v (by simpa using e); exact ⟨x, by simpa using q1, q2⟩) t)

variable {A : Around} {E : Value → Shared → Prop} {st : Shared} {h₀ : Heap} {L : Addr} {m : Str → Option Value} {env : Env}
theorem LC {α : Type} {as : List α} {R : α → Value → Prop} {G : α → Value → Prop} {elt iter : PySem.Expr} {x : Str} {px : Pos} {scope : Scope} {cl : List (Str × Addr)} {pos : Pos} {Q : Value → Shared → Prop}
    (F0 : Fr h₀ L st.heap m) (hfun : ∀ a b v, R a v → R b v → a = b) (hh : A.handled = none) (hclos : closureFor scope env = pure cl) (hcell : ∀ y ∈ scope.names, y.2 ≠ .cell) (hkind : scope.kind = .function)
    (hnames : ∀ y ∈ scope.names, y.2 = .local → scope.names.lookup y.1 = some .local) (hx : scope.names.lookup x = some .local) (hsz : as.length ≤ 100000)
    (h : wpAny (model PWx w) A (eval iter env) (fun xv s₁ => ∃ P news, Iters w s₁.heap xv as.length P ∧ (∀ (i : Nat) v, P i v → ∃ a, as[i]? = some a ∧ R a v) ∧ Fr h₀ L s₁.heap m ∧ News h₀ L s₁.heap news ∧
      (∀ C a v s₂ m₂ E', a ∈ as → R a v → s₂.heap.Ns C m₂ → m₂ x = some v → Kp s₁.heap s₂.heap →
        wpAny (model PWx w) A (eval elt (compEnvC scope cl C env)) (fun y s₃ => G a y ∧ Keeps s₂ s₃) E' s₂) ∧
      (∀ D (ys : List Value) n h' tk, Kp s₁.heap h' → Fr h₀ L h' m → News h₀ L h' ((D, lo ys.toArray n) :: news) → Paired G as ys → Q (.ref D) { s₁ with heap := h', toks := tk })) E st)
    (hs : ∀ x, foldedSetIterable iter env x = pure x := by intro _; rfl) :
    wpAny (model PWx w) A (eval (.ListComp elt [⟨.Name x px, iter, [], 0⟩] scope pos) env) Q E st := by
  refine wpAny_ListComp_free (fun _ => true) (fun v y => ∃ a, R a v ∧ G a y) hclos hcell hkind hnames hx (wpAny_mono h (fun xv s₁ h₁ => ?_) fun _ _ e => e) hs
  obtain ⟨P, news, I, hP, F, N, helt, hQ⟩ := h₁
  have up : ∀ (o : Obj) (s₃ : Shared), (∀ b o', b ∉ [s₁.heap.objs.size] → (s₁.heap.push o).get? b = some o' → s₃.heap.get? b = some o') → Kp s₁.heap s₃.heap :=
    fun o s₃ hk b o' e => hk b o' (fun hm => by rcases List.mem_cons.mp hm with rfl | hm; exact Nat.lt_irrefl _ (Heap.lt_size e); cases hm) (Heap.get?_push_of_some _ e)
  refine I A E s₁ _ hh rfl fun o fp St W hst hfp => ⟨s₁.heap.objs.size, fp, [s₁.heap.objs.size], as.length, P, St, rfl, W A hh, Nat.le_trans hsz (by decide), hst, hfp, ⟨?_, ?_⟩, ?_⟩
  · intro C i v s₃ m₃ E' _ hP' hn hm hk _
    exact wpAny_pure ⟨rfl, s₃.heap, s₃.toks, rfl, fun _ _ e => e⟩
  · intro C i v s₃ m₃ E' _ hP' hp hn hm hk _
    obtain ⟨a, ha, hR⟩ := hP i v hP'
    exact wpAny_mono (helt C a v s₃ m₃ E' (List.mem_of_getElem? ha) hR hn hm (up o s₃ hk)) (fun y s₄ h₄ => ⟨⟨a, hR, h₄.1⟩, h₄.2⟩) fun _ _ e => e
  · intro D h' tk ys vs hnew hlD hpl hlen hPv hF hk
    have keep : Kp s₁.heap h' := up o { s₁ with heap := h' } hk
    obtain ⟨n, hD⟩ := hpl
    have hD0 : h₀.get? D = none := by
      cases e : h₀.get? D with
      | none => rfl
      | some o' => rw [Heap.get?_push_of_some _ (F.keep _ _ e)] at hnew; cases hnew
    refine hQ D ys.toList n h' tk keep (F.keeps keep) ?_ ?_
    · intro p hp
      rcases List.mem_cons.mp hp with rfl | hp
      · refine ⟨by simpa using hD, ?_, hD0⟩
        rintro rfl
        obtain ⟨oL, _, _, hL, _⟩ := F.ns
        have := Heap.get?_push_of_some o hL
        rw [hnew] at this; cases this
      · exact N.grown keep p hp
    · rw [List.filter_eq_self.mpr (fun _ _ => rfl)] at hF
      exact paired_of hfun hlen.symm (fun i v e => hP i v (hPv i v e)) hF
theorem LCA {α : Type} {as : List α} {R : α → Value → Prop} {G : α → Value → Prop} {elt iter : PySem.Expr} {x y : Str} {px py : Pos} {scope : Scope} {cl : List (Str × Addr)} {pos spos : Pos} {Q : Flow → Shared → Prop}
    (F0 : Fr h₀ L st.heap m) (hfun : ∀ a b v, R a v → R b v → a = b)
    (hsw : swapsWith (.ListComp elt [⟨.Name x px, iter, [], 0⟩] scope pos) (some (.Name y py)) spos.line env = pure true) (hL : env.locals = L)
    (hh : A.handled = none) (hclos : closureFor scope env = pure cl) (hcell : ∀ y ∈ scope.names, y.2 ≠ .cell) (hkind : scope.kind = .function)
    (hnames : ∀ y ∈ scope.names, y.2 = .local → scope.names.lookup y.1 = some .local) (hx : scope.names.lookup x = some .local)
    (hy : env.kindOf y = some .local) (hp : (env.scope.kind == .class || (env.scope.kind == .module && env.locals != env.globals)) = false) (hsz : as.length ≤ 100000)
    (h : wpAny (model PWx w) A (eval iter env) (fun xv s₁ => ∃ P news, Iters w s₁.heap xv as.length P ∧ (∀ (i : Nat) v, P i v → ∃ a, as[i]? = some a ∧ R a v) ∧ Fr h₀ L s₁.heap m ∧ News h₀ L s₁.heap news ∧
      (∀ C a v s₂ m₂ E', a ∈ as → R a v → s₂.heap.Ns C m₂ → m₂ x = some v → Kp s₁.heap s₂.heap →
        wpAny (model PWx w) A (eval elt (compEnvC scope cl C env)) (fun y s₃ => G a y ∧ Keeps s₂ s₃) E' s₂) ∧
      (∀ D (ys : List Value) n h' tk, (∀ b o, b ≠ L → s₁.heap.get? b = some o → h'.get? b = some o) → Fr h₀ L h' (fun z => if z = y then some (.ref D) else m z) → News h₀ L h' ((D, lo ys.toArray n) :: news) → Paired G as ys → Q .next { s₁ with heap := h', toks := tk })) E st)
    (hs : ∀ x, foldedSetIterable iter env x = pure x := by intro _; rfl) :
    wpAny (model PWx w) A (exec (.Assign [.Name y py] (.ListComp elt [⟨.Name x px, iter, [], 0⟩] scope pos) spos) env) Q E st := by
  subst hL
  refine wpAny_Assign_ListComp_free (fun _ => true) (fun v y => ∃ a, R a v ∧ G a y) hsw hclos hcell hkind hnames hx hy hp (wpAny_mono h (fun xv s₁ h₁ => ?_) fun _ _ e => e) hs
  obtain ⟨P, news, I, hP, F, N, helt, hQ⟩ := h₁
  have up : ∀ (o : Obj) (s₃ : Shared), (∀ b o', b ∉ [s₁.heap.objs.size] → (s₁.heap.push o).get? b = some o' → s₃.heap.get? b = some o') → Kp s₁.heap s₃.heap :=
    fun o s₃ hk b o' e => hk b o' (fun hm => by rcases List.mem_cons.mp hm with rfl | hm; exact Nat.lt_irrefl _ (Heap.lt_size e); cases hm) (Heap.get?_push_of_some _ e)
  refine I A E s₁ _ hh rfl fun o fp St W hst hfp => ⟨s₁.heap.objs.size, fp, [s₁.heap.objs.size], as.length, P, St, m, rfl, W A hh, Nat.le_trans hsz (by decide), hst, hfp, ?_, F.ns.push _, ⟨?_, ?_⟩, ?_⟩
  · intro hm
    rcases List.mem_cons.mp hm with e | hm
    · exact Nat.lt_irrefl _ (e ▸ F.ns.lt)
    · cases hm
  · intro C i v s₃ m₃ E' _ hP' hn hm hk _
    exact wpAny_pure ⟨rfl, s₃.heap, s₃.toks, rfl, fun _ _ e => e⟩
  · intro C i v s₃ m₃ E' _ hP' hp hn hm hk _
    obtain ⟨a, ha, hR⟩ := hP i v hP'
    exact wpAny_mono (helt C a v s₃ m₃ E' (List.mem_of_getElem? ha) hR hn hm (up o s₃ hk)) (fun y s₄ h₄ => ⟨⟨a, hR, h₄.1⟩, h₄.2⟩) fun _ _ e => e
  · intro D h' tk ys vs hnew hlD hpl hlen hPv hF hn' hk
    have keep : ∀ b o, b ≠ env.locals → s₁.heap.get? b = some o → h'.get? b = some o := fun b o' hb e =>
      hk b o' hb (fun hm => by rcases List.mem_cons.mp hm with rfl | hm; exact Nat.lt_irrefl _ (Heap.lt_size e); cases hm) (Heap.get?_push_of_some _ e)
    obtain ⟨n, hD⟩ := hpl
    have hD0 : h₀.get? D = none := by
      cases e : h₀.get? D with
      | none => rfl
      | some o' => rw [Heap.get?_push_of_some _ (F.keep _ _ e)] at hnew; cases hnew
    refine hQ D ys.toList n h' tk keep ⟨hn', fun b o e => keep b o (Nat.ne_of_lt (Nat.lt_of_lt_of_le (Heap.lt_size e) F.above)) (F.keep b o e), F.above⟩ ?_ ?_
    · intro p hp
      rcases List.mem_cons.mp hp with rfl | hp
      · refine ⟨by simpa using hD, ?_, hD0⟩
        intro q
        obtain ⟨oL, _, _, hL, _⟩ := F.ns
        have := Heap.get?_push_of_some o hL
        rw [← q, hnew] at this; cases this
      · exact ⟨keep _ _ (N p hp).2.1 (N p hp).1, (N p hp).2⟩
    · rw [List.filter_eq_self.mpr (fun _ _ => rfl)] at hF
      exact paired_of hfun hlen.symm (fun i v e => hP i v (hPv i v e)) hF
theorem gnameF {st : Shared} {mg mb : Str → Option Value} {loo : List Str} {scope : Scope} {cl : List (Str × Addr)} {C : Addr} {env : Env} {x : Str} {pos : Pos} {Q : Value → Shared → Prop} (f : Nat)
    (X : (KF w.params).In st.heap) (T : TopRead Qv loo mg mb st.heap) (e : nsIn (KF w.params) mainGlobals x = some (some (.ref f))) (h : Q (.ref f) st)
    (hg : env.globals = mainGlobals := by rfl) (hk : (compEnvC scope cl C env).scope.kind = .function := by rfl) (hx : (compEnvC scope cl C env).kindOf x = some .globalImplicit := by rfl)
    (hd : (x == ("__debug__" : Str)) = false := by decide) : wpAny (model PWx w) A (eval (.Name x pos) (compEnvC scope cl C env)) Q E st :=
  Name_function_global hk hx (loadGlobal_global (env := compEnvC scope cl C env) (show st.heap.Ns env.globals mg from hg ▸ T.g) (mg_of X T.g e) h) hd
theorem gnameB {st : Shared} {mg mb : Str → Option Value} {loo : List Str} {scope : Scope} {cl : List (Str × Addr)} {C : Addr} {env : Env} {x : Str} {pos : Pos} {v : Value} {Q : Value → Shared → Prop}
    (X : (KF w.params).In st.heap) (T : TopRead Qv loo mg mb st.heap) (e : nsIn (KF w.params) mainGlobals x = some none) (hv : bootBuiltins x = some v) (h : Q v st) (hn : x ≠ "__name__" := by decide)
    (hg : env.globals = mainGlobals := by rfl) (hb : env.builtins = builtinsNs := by rfl) (hk : (compEnvC scope cl C env).scope.kind = .function := by rfl) (hx : (compEnvC scope cl C env).kindOf x = some .globalImplicit := by rfl)
    (hd : (x == ("__debug__" : Str)) = false := by decide) : wpAny (model PWx w) A (eval (.Name x pos) (compEnvC scope cl C env)) Q E st :=
  Name_function_global hk hx (loadGlobal_builtin (env := compEnvC scope cl C env) (show st.heap.Ns env.globals mg from hg ▸ T.g) (mg_none_of X T.g e) (show st.heap.Ns env.builtins mb from hb ▸ T.b) ((T.builtins x hn).trans hv) h) hd
end
end Mine
end
section
open PySem PySem.W PyProof.Rows PySem.Calls
set_option maxRecDepth 100000
set_option maxHeartbeats 4000000
set_option linter.unusedVariables false
namespace Mine
section
variable {w : World} {mg mb : Str → Option Value} {lo : List Str}
def SgR (c : Nat) (v : Value) : Prop := ∃ u, v = .str (s [c]) u
theorem SgR.fun (a b : Nat) (v : Value) (h : SgR a v) (g : SgR b v) : a = b := by
  obtain ⟨u, rfl⟩ := h; obtain ⟨u', e⟩ := g; cases e; rfl
theorem sgs {l : Tx} (i : Nat) (v : Value) (h : ∃ c u, l[i]? = some c ∧ v = .str (s [c]) u) : ∃ a, l[i]? = some a ∧ SgR a v := by
  obtain ⟨c, u, h1, h2⟩ := h; exact ⟨c, h1, u, h2⟩
def EncR (c : Nat) (v : Value) : Prop := ∃ u, v = .str (s (enc c)) u
theorem EncR.strs : ∀ {l : Tx} {ys : List Value}, Paired EncR l ys → StrsAre ys ((l.map enc).map s)
  | _, _, .nil => .nil
  | _, _, .cons ⟨u, e⟩ t => by subst e; exact .cons _ _ (EncR.strs t)
theorem sumlen (ls : List Tx) : ((ls.map s).map (·.length)).sum = ls.flatten.length := by
  induction ls with
  | nil => rfl
  | cons a r ih => simp only [List.map_cons, List.sum_cons, List.flatten_cons, List.length_append, ih, s_len]
theorem enc_le (c : Nat) : (enc c).length ≤ 3 := by unfold enc; split <;> simp
theorem encs_le (l : Tx) : (encs l).length ≤ 3 * l.length := by
  induction l with
  | nil => simp [encs]
  | cons c r ih => have := enc_le c; simp only [encs, List.flatMap_cons, List.length_append, List.length_cons] at *; omega
theorem flat_enc (l : Tx) : (l.map enc).flatten = encs l := by rw [encs, List.flatMap_def]
theorem join0_ok {l : Tx} (h : l.length ≤ 1000) : (((l.map enc).map s).map (·.length)).sum + ((l.map enc).map s).length * (s []).length ≤ 16777216 := by
  rw [sumlen, flat_enc, show (s []).length = 0 from rfl]
  have := encs_le l
  omega
theorem paired_take {α β : Type} {G : α → β → Prop} : ∀ {as : List α} {ys : List β}, Paired G as ys → ∀ k, Paired G (as.take k) (ys.take k)
  | _, _, .nil, k => by simp; exact .nil
  | _, _, .cons h t, 0 => by simp; exact .nil
  | _, _, .cons h t, k + 1 => by simp only [List.take_succ_cons]; exact .cons h (paired_take t k)
theorem pick_drop {ys : List Value} : (slicePick ys.toArray none (some (-1)) none).toList = ys.take (ys.length - 1) := by
  have := slicePick_butLast ys.toArray 1 (Nat.le_refl 1)
  simpa using congrArg Array.toList this
theorem written_spec {A : Around} {st : Shared} {l : Tx} {b : Bool} {t : Tok} {Q : Value → Shared → Prop} {E : Value → Shared → Prop}
    (X : (KF w.params).In st.heap) (T : TopRead Qv lo mg mb st.heap) (hroom : A.depth < 980) (hh : A.handled = none) (hx : (s l).length ≤ 1000) (hc : ∀ c ∈ l, c < 256)
    (h : ∀ t h' tk, Kp st.heap h' → Q (.str (s (written (l, b))) t) { st with heap := h', toks := tk }) : wpAny (model PWx w) A (call (.ref 89) [.str (s l) t, .bool b]) Q E st := by
  refine wpAny_call (enter (binds := [(Str.ofString "row", .str (s l) t), (Str.ofString "soft", .bool b)]) X T (Nat.lt_trans hroom (by decide)) (by rfl) (by rfl) (BindsTo.of_eq (by rfl)) (locs (by rfl)) (by decide) ?_)
  intro h₁ L hL F
  have N : News st.heap L h₁ [] := News.nil
  walk1
  refine LCA (as := l) (R := SgR) (G := EncR) F SgR.fun (by rfl) rfl hh (by rfl) (by decide) rfl (by decide) (by rfl) (by rfl) (by rfl) (Nat.le_trans hx (by decide)) ?_
  refine ld F (by rfl) ⟨_, _, Iters.str, sgs, F, N, ?_, ?_⟩
  · rintro C a v s₂ m₂ E' ha ⟨u, rfl⟩ hn hm hk
    walk1
    have X2 := X.keeps (fun b o e => hk b o (F.keep b o e))
    have T2 := T.keeps (fun b o e => hk b o (F.keep b o e))
    refine gnameF 79 X2 T2 (by rfl) ?_
    repeat walk1
    refine sign_spec X2 T2 (by show A.depth + 1 < 990; omega) (hc a ha) (fun t h' tk k => ⟨⟨_, rfl⟩, h', tk, rfl, k⟩)
  · intro D ys n h' tk hk F1 N1 hp
    clear F N
    have hyl : ys.length ≤ 1000 := by rw [← hp.length]; exact hx
    have hyz : ys.toArray.size ≤ 1000 := by simpa using hyl
    have hel := encs_le l
    have hel9 : (s (encs l)).length ≤ 3000 := by rw [s_len]; have : l.length ≤ 1000 := hx; omega
    have hdl : l.dropLast.length ≤ 1000 := by have : l.length ≤ 1000 := hx; simp; omega
    have hed9 : (s (encs l.dropLast)).length ≤ 3000 := by rw [s_len]; have := encs_le l.dropLast; omega
    repeat' walk1
    · rename (b = true) => hb
      rw [lit_e]
      refine join_list (News.isList N1 (.head _)) (EncR.strs hp) (join0_ok hx) (fun t' k => ?_)
      rw [s_join0, flat_enc]
      dsimp only
      repeat' walk1
      dsimp only
      refine retS h (Fr.keep (by assumption)) ?_
      rw [lit_eq, s_app, hb]; rfl
    · rename (b = false) => hb
      rename ((_ == _) = true) => h0
      rw [lit_sp] at h0
      rw [lit_e]
      refine join_list (News.isList (by assumption) (.head _)) (by rw [pick_drop]; exact EncR.strs (paired_take hp _)) (by rw [← hp.length, ← List.dropLast_eq_take]; exact join0_ok hdl) (fun t' k => ?_)
      rw [← hp.length, ← List.dropLast_eq_take, s_join0, flat_enc]
      dsimp only
      repeat' walk1
      dsimp only
      refine retS h (Fr.keep (by assumption)) ?_
      rw [lit_20, s_app, hb]
      have e1 : l.getLast? = some 32 := drop_last (by simpa [s_slice_sn, clip_neg1, s_inj] using h0)
      simp [written, e1, isW, q2]
    · rename (b = false) => hb
      rename ((_ == _) = true) => h0
      rw [lit_tab] at h0
      rw [lit_e]
      refine join_list (News.isList (by assumption) (.head _)) (by rw [pick_drop]; exact EncR.strs (paired_take hp _)) (by rw [← hp.length, ← List.dropLast_eq_take]; exact join0_ok hdl) (fun t' k => ?_)
      rw [← hp.length, ← List.dropLast_eq_take, s_join0, flat_enc]
      dsimp only
      repeat' walk1
      dsimp only
      refine retS h (Fr.keep (by assumption)) ?_
      rw [lit_09, s_app, hb]
      have e1 : l.getLast? = some 9 := drop_last (by simpa [s_slice_sn, clip_neg1, s_inj] using h0)
      simp [written, e1, isW, q2]
    · rename (b = false) => hb
      rename ((Txt.slice _ _ _ == Str.ofString " ") = false) => h0
      rename ((Txt.slice _ _ _ == Str.ofString "\t") = false) => h1
      rw [lit_sp, s_slice_sn, clip_neg1] at h0
      rw [lit_tab, s_slice_sn, clip_neg1] at h1
      rw [lit_e]
      refine join_list (News.isList (by assumption) (.head _)) (EncR.strs hp) (join0_ok hx) (fun t' k => ?_)
      rw [s_join0, flat_enc]
      dsimp only
      refine retS h (Fr.keep (by assumption)) ?_
      rw [hb]
      simp only [beq_eq_false_iff_ne, ne_eq, s_inj] at h0 h1
      cases e : l.getLast? with
      | none => simp [written, e]
      | some c =>
        rw [last_drop e] at h0 h1
        have : isW c = false := by simp at h0 h1; simp [isW, h0, h1]
        simp [written, e, this]
end
end Mine
end
section
namespace Mine
/-! ## what body_encode writes, piece by piece -/
theorem hexd_ne (n : Nat) : hexd n ≠ 61 := by unfold hexd; split <;> omega
theorem hexd_ge (n : Nat) : 48 ≤ hexd n := by unfold hexd; split <;> omega
theorem enc_cases (c : Nat) : (enc c = [c] ∧ isP c = true) ∨ enc c = [61, hexd (c / 16), hexd (c % 16)] := by
  unfold enc; split
  · exact .inl ⟨rfl, by assumption⟩
  · exact .inr rfl
theorem isP_ne {c : Nat} (h : isP c = true) : c ≠ 61 := by rintro rfl; exact absurd h (by decide)
theorem encs_snoc (a : Tx) (c : Nat) : encs (a ++ [c]) = encs a ++ enc c := encs_last
theorem encs_cons (c : Nat) (a : Tx) : encs (c :: a) = enc c ++ encs a := by simp [encs]
theorem list_snoc_cases {α : Type} (l : List α) : l = [] ∨ ∃ a x, l = a ++ [x] := by
  cases h : l.getLast? with
  | none => exact .inl (List.getLast?_eq_none_iff.mp h)
  | some x =>
    have hn : l ≠ [] := by intro e; rw [e] at h; simp at h
    exact .inr ⟨l.dropLast, l.getLast hn, (List.dropLast_concat_getLast hn).symm⟩
/-- the last sign written is no = -/
theorem encs_end1 {x y : Tx} {a : Nat} (h : encs x = y ++ [a]) : a ≠ 61 := by
  rcases list_snoc_cases x with rfl | ⟨x, c, rfl⟩
  · have := congrArg List.length h; simp [encs] at this
  · rw [encs_snoc] at h
    rcases enc_cases c with ⟨e, hp⟩ | e
    · rw [e] at h
      have := (List.append_inj' h rfl).2
      simp at this; subst this; exact isP_ne hp
    · rw [e] at h
      have h2 : encs x ++ [61, hexd (c / 16)] ++ [hexd (c % 16)] = y ++ [a] := by simpa using h
      have := (List.append_inj' h2 rfl).2
      simp at this; subst this; exact hexd_ne _
theorem encs_end2 {x y : Tx} {a b : Nat} (h : encs x = y ++ [a, b]) : a ≠ 61 := by
  rcases list_snoc_cases x with rfl | ⟨x, c, rfl⟩
  · have := congrArg List.length h; simp [encs] at this
  · rw [encs_snoc] at h
    rcases enc_cases c with ⟨e, hp⟩ | e
    · rw [e] at h
      have h2 : encs x ++ [c] = (y ++ [a]) ++ [b] := by simpa using h
      exact encs_end1 (List.append_inj' h2 rfl).1
    · rw [e] at h
      have h2 : (encs x ++ [61]) ++ [hexd (c / 16), hexd (c % 16)] = y ++ [a, b] := by simpa using h
      have := (List.append_inj' h2 rfl).2
      simp at this; rw [← this.1]; exact hexd_ne _
theorem encs_at1 {x : Tx} (h : 1 ≤ (encs x).length) : (encs x)[(encs x).length - 1]? ≠ some 61 := by
  rcases list_snoc_cases (encs x) with e | ⟨y, a, e⟩
  · rw [e] at h; simp at h
  · intro q
    rw [e] at q
    simp at q
    exact encs_end1 e q
theorem encs_at2 {x : Tx} (h : 2 ≤ (encs x).length) : (encs x)[(encs x).length - 2]? ≠ some 61 := by
  rcases list_snoc_cases (encs x) with e | ⟨y, b, e⟩
  · rw [e] at h; simp at h
  · rcases list_snoc_cases y with e2 | ⟨z, a, e2⟩
    · rw [e, e2] at h; simp at h
    · intro q
      subst e2
      rw [e] at q
      simp at q
      exact encs_end2 (by rw [e]; simp : encs x = z ++ [a, b]) q
/-- what fits, and what follows it -/
theorem fit_spec {w : Nat} : ∀ {u : Nat} {r : Tx}, u < w → w ≤ u + (encs r).length →
    ∃ c r', r.drop (fit w u r) = c :: r' ∧ u + (encs (r.take (fit w u r))).length < w ∧ w ≤ u + (encs (r.take (fit w u r))).length + (enc c).length
  | u, [], h1, h2 => by simp [encs] at h2; omega
  | u, c :: r, h1, h2 => by
    by_cases q : u + (enc c).length < w
    · rw [encs_cons, List.length_append] at h2
      obtain ⟨d, r', e1, e2, e3⟩ := fit_spec (u := u + (enc c).length) (r := r) q (by omega)
      have ef : fit w u (c :: r) = fit w (u + (enc c).length) r + 1 := by rw [fit, if_pos q]
      refine ⟨d, r', by rw [ef]; simpa using e1, ?_, ?_⟩
      · rw [ef, List.take_succ_cons, encs_cons, List.length_append]; omega
      · rw [ef, List.take_succ_cons, encs_cons, List.length_append]; omega
    · have ef : fit w u (c :: r) = 0 := by rw [fit, if_neg q]
      exact ⟨c, r, by rw [ef]; rfl, by rw [ef]; simp [encs]; exact h1, by rw [ef]; simp [encs]; omega⟩
/-- one soft row -/
theorem row_step {w : Nat} {r : Tx} (hw : 4 ≤ w) (h : w < (encs r).length) :
    let k := fit w 0 r
    let e := encs r
    let u := (encs (r.take k)).length
    0 < k ∧ k < r.length ∧ rows w r = (r.take k, true) :: rows w (r.drop k) ∧ e = encs (r.take k) ++ encs (r.drop k) ∧
    ((u + 3 = w ∧ e[w - 3]? = some 61 ∧ e.take (w - 2) = encs (r.take k) ++ [61]) ∨
     (u + 2 = w ∧ e[w - 3]? ≠ some 61 ∧ e[w - 2]? = some 61 ∧ e.take (w - 1) = encs (r.take k) ++ [61]) ∨
     (u + 1 = w ∧ e[w - 3]? ≠ some 61 ∧ e[w - 2]? ≠ some 61 ∧ e.take (w - 1) = encs (r.take k))) := by
  intro k e u
  obtain ⟨c, r', hd, h2, h3⟩ := fit_spec (w := w) (u := 0) (r := r) (by omega) (by omega)
  have he : e = encs (r.take k) ++ encs (r.drop k) := by rw [← encs_append, List.take_append_drop]
  have he2 : encs (r.drop k) = enc c ++ encs r' := by show encs (r.drop (fit w 0 r)) = _; rw [hd, encs_cons]
  have hu : u < w := by have : 0 + u < w := h2; omega
  have hu3 : w ≤ u + (enc c).length := by have : w ≤ 0 + u + (enc c).length := h3; omega
  have hk : k < r.length := by
    rcases Nat.lt_or_ge k r.length with q | q
    · exact q
    · have : r.drop k = [] := List.drop_eq_nil_iff.mpr q
      rw [show r.drop k = c :: r' from hd] at this; cases this
  have hk0 : 0 < k := by
    rcases Nat.eq_zero_or_pos k with q | q
    · have : u = 0 := by show (encs (r.take k)).length = 0; rw [q]; rfl
      have : (enc c).length ≤ 3 := by rcases enc_cases c with ⟨e, _⟩ | e <;> rw [e] <;> simp
      omega
    · exact q
  refine ⟨hk0, hk, by rw [rows, dif_pos ⟨h, hk0⟩], he, ?_⟩
  have at1 := encs_at1 (x := r.take k)
  have at2 := encs_at2 (x := r.take k)
  have pre : ∀ j, j < u → e[j]? = (encs (r.take k))[j]? := fun j hj => by rw [he]; exact List.getElem?_append_left hj
  have atu : e[u]? = (enc c)[0]? := by
    rw [he, List.getElem?_append_right (Nat.le_refl _), he2]
    show (enc c ++ encs r')[u - u]? = _
    rw [Nat.sub_self]
    rcases enc_cases c with ⟨q, _⟩ | q <;> rw [q] <;> rfl
  have tk1 : (enc c).length = 3 → e.take (u + 1) = encs (r.take k) ++ [61] := fun q => by
    rw [he, List.take_append, he2]
    have q2 : enc c = [61, hexd (c / 16), hexd (c % 16)] := by
      rcases enc_cases c with ⟨z, _⟩ | z
      · rw [z] at q; simp at q
      · exact z
    have e0 : u + 1 - (encs (r.take k)).length = 1 := by show u + 1 - u = 1; omega
    rw [e0, q2, List.take_of_length_le (by show u ≤ u + 1; omega)]; rfl
  have l3 : (enc c).length = 1 ∨ (enc c).length = 3 := by rcases enc_cases c with ⟨q, _⟩ | q <;> rw [q] <;> simp
  have eq61 : (enc c).length = 3 → (enc c)[0]? = some 61 := fun q => by
    rcases enc_cases c with ⟨z, _⟩ | z
    · rw [z] at q; simp at q
    · rw [z]; rfl
  by_cases c1 : u + 1 = w
  · refine .inr (.inr ⟨c1, ?_, ?_, ?_⟩)
    · rw [show w - 3 = u - 2 by omega, pre _ (by omega)]; exact at2 (by show 2 ≤ u; omega)
    · rw [show w - 2 = u - 1 by omega, pre _ (by omega)]; exact at1 (by show 1 ≤ u; omega)
    · rw [show w - 1 = u by omega, he]; exact List.take_left
  · have h33 : (enc c).length = 3 := by omega
    by_cases c2 : u + 2 = w
    · refine .inr (.inl ⟨c2, ?_, ?_, ?_⟩)
      · rw [show w - 3 = u - 1 by omega, pre _ (by omega)]; exact at1 (by show 1 ≤ u; omega)
      · rw [show w - 2 = u by omega, atu, eq61 h33]
      · rw [show w - 1 = u + 1 by omega]; exact tk1 h33
    · have c3 : u + 3 = w := by omega
      refine .inl ⟨c3, ?_, ?_⟩
      · rw [show w - 3 = u by omega, atu, eq61 h33]
      · rw [show w - 2 = u + 1 by omega]; exact tk1 h33
theorem rows_stop {w : Nat} {r : Tx} (h : ¬ w < (encs r).length) : rows w r = lastRows w r := by
  rw [rows, dif_neg (fun q => h q.1)]
/-! the last rows of a line, as one piece -/
theorem endW_snoc (a : Tx) (c : Nat) : endW (a ++ [c]) = isW c := by simp [endW]
theorem isW_enc {c : Nat} (h : isW c = true) : enc c = [c] := by rcases isW_cases h with rfl | rfl <;> rfl
theorem last3 {w : Nat} {r : Tx} (h : endW r = false) : jn ((lastRows w r).map written) = encs r := by
  simp only [lastRows, h, Bool.false_and, Bool.false_eq_true, if_false, List.map_cons, List.map_nil, jn, written]
  cases e : r.getLast? with
  | none => rfl
  | some c =>
    have : isW c = false := by simpa [endW, e] using h
    simp [this]
theorem last_room3 {w : Nat} {a : Tx} {c : Nat} (h : isW c = true) (hr : (encs (a ++ [c])).length + 2 ≤ w) : jn ((lastRows w (a ++ [c])).map written) = encs a ++ q2 c := by
  have h1 : ((encs (a ++ [c])).length == w) = false := by simp; omega
  have h2 : ((encs (a ++ [c])).length + 1 == w) = false := by simp; omega
  simp [lastRows, h1, h2, jn, written, h]
theorem last_room2 {w : Nat} {a : Tx} {c : Nat} (h : isW c = true) (hr : (encs (a ++ [c])).length + 1 = w) : jn ((lastRows w (a ++ [c])).map written) = encs a ++ ([c] ++ [61, 10]) := by
  have h1 : ((encs (a ++ [c])).length == w) = false := by simp; omega
  have h2 : ((encs (a ++ [c])).length + 1 == w) = true := by simp; omega
  have e : lastRows w (a ++ [c]) = [(a ++ [c], true), ([], false)] := by unfold lastRows; rw [h1, h2, endW_snoc, h]; rfl
  rw [e]
  simp [jn, written, encs_snoc, isW_enc h, encs]
theorem last_room1 {w : Nat} {a : Tx} {c : Nat} (h : isW c = true) (hr : (encs (a ++ [c])).length = w) : jn ((lastRows w (a ++ [c])).map written) = encs a ++ ([61, 10] ++ q2 c) := by
  have h1 : ((encs (a ++ [c])).length == w) = true := by simp; omega
  simp [lastRows, h1, jn, written, h, endW_snoc]
  simp [encs]
/-! translate, and its lines -/
theorem enc_free2 {c : Nat} (h : c ≠ 10 ∧ c ≠ 13) : ∀ x ∈ enc c, x ≠ 10 ∧ x ≠ 13 := by
  intro x hx
  rcases enc_cases c with ⟨e, _⟩ | e
  · rw [e] at hx; simp at hx; subst hx; exact h
  · rw [e] at hx
    have := hexd_ge (c / 16); have := hexd_ge (c % 16)
    simp at hx; omega
def trs (T : Tx) : Tx := T.flatMap tr
theorem lns_enc {c : Nat} (hc : c ≠ 10) (T : Tx) : ∀ a t, lns T = a :: t → lns (enc c ++ T) = (enc c ++ a) :: t := by
  intro a t h
  have h10 : ∀ x ∈ enc c, x ≠ 10 := by
    intro x hx
    rcases enc_cases c with ⟨e, _⟩ | e
    · rw [e] at hx; simp at hx; subst hx; exact hc
    · rw [e] at hx
      have := hexd_ge (c / 16); have := hexd_ge (c % 16)
      simp at hx; omega
  generalize enc c = p at h10
  induction p with
  | nil => simpa using h
  | cons x p ih =>
    rw [List.cons_append, lns_cons (h10 x (by simp)) (ih fun y hy => h10 y (by simp [hy]))]; rfl
theorem lns_trs (T : Tx) : lns (trs T) = (lns T).map encs := by
  induction T with
  | nil => rfl
  | cons c T ih =>
    show lns (tr c ++ trs T) = _
    by_cases hc : c = 10
    · subst hc
      have : tr 10 = [10] := rfl
      rw [this]
      show lns (10 :: trs T) = _
      rw [lns, if_pos rfl, lns, if_pos rfl, ih]; rfl
    · have e : tr c = enc c := by unfold tr; rw [if_neg (by simpa using hc)]
      rw [e]
      cases h : lns T with
      | nil => exact absurd h (lns_ne T)
      | cons a t =>
        rw [h] at ih
        rw [lns_enc hc (trs T) _ _ ih, lns_cons hc h, List.map_cons, encs_cons]
theorem encs_nil {a : Tx} : encs a = [] ↔ a = [] := by
  constructor
  · intro h
    cases a with
    | nil => rfl
    | cons c a =>
      rw [encs_cons] at h
      rcases enc_cases c with ⟨e, _⟩ | e <;> rw [e] at h <;> simp at h
  · rintro rfl; rfl
theorem slns_trs (T : Tx) : slns (trs T) = (slns T).map encs := by
  unfold slns
  rw [lns_trs]
  have : ((lns T).map encs).getLast? = some [] ↔ (lns T).getLast? = some [] := by
    rw [List.getLast?_map]
    cases (lns T).getLast? with
    | none => simp
    | some a => simp [encs_nil]
  by_cases h : (lns T).getLast? = some []
  · rw [if_pos h, if_pos (this.mpr h)]; simp [List.map_dropLast]
  · rw [if_neg h, if_neg (fun q => h (this.mp q))]
theorem trs_nil {T : Tx} : trs T = [] ↔ T = [] := by
  constructor
  · intro h
    cases T with
    | nil => rfl
    | cons c T =>
      have : tr c ++ trs T = [] := h
      have h1 := (List.append_eq_nil_iff.mp this).1
      unfold tr at h1
      split at h1
      · simp at h1
      · rcases enc_cases c with ⟨e, _⟩ | e <;> rw [e] at h1 <;> simp at h1
  · rintro rfl; rfl
theorem tr_mem {c x : Nat} (h : x ∈ tr c) (hc : okT c = true) : x < 128 ∧ (x = 10 → c = 10) ∧ x ≠ 13 := by
  simp only [okT, Bool.or_eq_true, beq_iff_eq] at hc
  rcases hc with rfl | hc
  · have : tr 10 = [10] := rfl
    rw [this] at h; simp at h; subst h; simp
  · rcases okC_cases hc with rfl | rfl | rfl | rfl | rfl | rfl | rfl <;> simp [tr, enc, isP, hexd] at h <;> omega
theorem trs_last {T : Tx} (h : OkT T) : ∀ c, (trs T).getLast? = some c → c ≠ 13 ∧ (c = 10 ↔ T.getLast? = some 10) := by
  rcases list_snoc_cases T with rfl | ⟨T, d, rfl⟩
  · intro c hc; simp [trs] at hc
  · intro c hc
    have e : trs (T ++ [d]) = trs T ++ tr d := by simp [trs]
    have hn : tr d ≠ [] := by
      unfold tr; split
      · simp
      · rcases enc_cases d with ⟨e, _⟩ | e <;> rw [e] <;> simp
    rw [e, List.getLast?_append] at hc
    cases q : (tr d).getLast? with
    | none => exact absurd (List.getLast?_eq_none_iff.mp q) hn
    | some x =>
      rw [q] at hc
      simp at hc; subst hc
      have hm := tr_mem (List.mem_of_getLast? q) (h d (by simp))
      refine ⟨hm.2.2, ?_⟩
      simp only [List.getLast?_concat, Option.some.injEq]
      constructor
      · exact hm.2.1
      · rintro rfl
        have : tr 10 = [10] := rfl
        rw [this] at q; simpa using q.symm
/-! the pieces -/
theorem jn_app : ∀ (a b : List Tx), a ≠ [] → b ≠ [] → jn (a ++ b) = jn a ++ 10 :: jn b
  | [], _, h, _ => absurd rfl h
  | [a], b, _, hb => by rw [List.singleton_append, jn_cons _ hb]; rfl
  | a :: a2 :: t, b, _, hb => by
    have ih := jn_app (a2 :: t) b (by simp) hb
    show a ++ 10 :: jn (a2 :: t ++ b) = (a ++ 10 :: jn (a2 :: t)) ++ 10 :: jn b
    rw [ih]; simp
theorem jn_groups : ∀ (G : List (List Tx)), (∀ g ∈ G, g ≠ []) → jn (G.map jn) = jn G.flatten
  | [], _ => rfl
  | [g], _ => by simp [jn]
  | g :: g2 :: G, h => by
    have ih := jn_groups (g2 :: G) fun x hx => h x (by simp [hx])
    have hne : (g2 :: G).flatten ≠ [] := by
      intro e
      rw [List.flatten_cons] at e
      exact h g2 (by simp) (List.append_eq_nil_iff.mp e).1
    have e2 : (g :: g2 :: G).flatten = g ++ (g2 :: G).flatten := rfl
    rw [List.map_cons, jn_cons _ (by simp), ih, e2, jn_app _ _ (h g (by simp)) hne]
theorem slns_lns {T : Tx} (hn : T ≠ []) : lns T = slns T ++ (if T.getLast? = some 10 then [[]] else []) := by
  obtain ⟨t, b, e⟩ : ∃ t b, lns T = t ++ [b] := ⟨(lns T).dropLast, (lns T).getLast (lns_ne T), (List.dropLast_concat_getLast (lns_ne T)).symm⟩
  have hT : T = jn (t ++ [b]) := by rw [← e, jn_lns]
  have hb10 : 10 ∉ b := (lns_mem b (by rw [e]; simp)).1
  unfold slns
  rw [e]
  by_cases hb : b = []
  · subst hb
    by_cases ht : t = []
    · subst ht; exact absurd (by rw [hT]; rfl) hn
    · have := jn_last_nil ht
      rw [← hT] at this
      rw [if_pos (by simp), if_pos this]; simp
  · have h1 := jn_last (t := t) hb
    rw [← hT] at h1
    rw [if_neg (by simp [hb]), if_neg (by rw [h1]; intro q; exact hb10 (List.mem_of_getLast? q))]; simp
/-- the pieces of the lines, and the last empty one, joined -/
theorem body_pieces {w : Nat} {T : Tx} (hn : T ≠ []) {G : List (List Tx)} (hG : ∀ g ∈ G, g ≠ []) (hf : G.flatten = ((slns T).flatMap (rows w)).map written) :
    jn ((G.map jn) ++ (if T.getLast? = some 10 then [[]] else [])) = bodyOf w T := by
  unfold bodyOf due allRows
  rw [slns_lns hn]
  split
  · rename_i h
    have e : G.map jn ++ [[]] = (G ++ [[[]]]).map jn := by simp [jn]
    have er : rows w [] = [([], false)] := by rw [rows_stop (by simp [encs])]; simp [lastRows, endW]
    rw [e, jn_groups _ (by intro g hg; rcases List.mem_append.mp hg with hg | hg; exact hG g hg; simp at hg; subst hg; simp), List.flatten_append, hf, List.flatMap_append, List.map_append]
    congr 2
    simp [er, written, encs]
  · rw [List.append_nil, List.append_nil, jn_groups _ hG, hf]
end Mine
end
section
open PySem PySem.W PyProof.Rows PySem.Calls
set_option maxRecDepth 100000
set_option maxHeartbeats 4000000
set_option linter.unusedVariables false
namespace Mine
section
variable {w : World} {mg mb : Str → Option Value} {lo : List Str}
def LenR (c : Nat) (v : Value) : Prop := ∃ u, v = .int (enc c).length u
theorem LenR.ints : ∀ {l : Tx} {ys : List Value}, Paired LenR l ys → IntsAre ys (l.map fun c => ((enc c).length : Int))
  | _, _, .nil => .nil
  | _, _, .cons ⟨u, e⟩ t => by subst e; exact .cons _ _ (LenR.ints t)
theorem sumN {A : Around} {st : Shared} {D : Addr} {vs : List Value} {ns : List Int} {Q : Value → Shared → Prop} {E : Value → Shared → Prop} (hh : A.handled = none) (hl : st.heap.IsList D vs.toArray) (hi : IntsAre vs ns)
    (h : ∀ h' tk t', Kp st.heap h' → Q (.int ns.sum t') { st with heap := h', toks := tk }) : wpAny (model PWx w) A (call (.builtin "sum") [.ref D]) Q E st := by
  obtain ⟨xs, e⟩ := hi.allInts.items
  have e2 : ns.sum = preSum (numAt xs) xs.size := by
    rw [preSum_eq, List.take_of_length_le (by simp), ← hi.numsOf, ← nums_intItems, ← e]
  rw [e] at hl
  rw [e2] at h
  exact sum_intListG hh hl h
theorem sum_lens (l : Tx) : (l.map fun c => ((enc c).length : Int)).sum = (encs l).length := by
  induction l with
  | nil => rfl
  | cons c r ih => simp only [List.map_cons, List.sum_cons, ih, encs, List.flatMap_cons, List.length_append]; omega
abbrev tupO (r : Row) (t : Tok) (n : Nat) : Obj := { cls := .type "tuple", data := .seq #[.str (s r.1) t, .bool r.2] n }
def RowAt (h : Heap) (r : Row) (v : Value) : Prop := ∃ a t n, v = .ref a ∧ h.get? a = some (tupO r t n)
def RowIn (tl : List (Addr × Obj)) (r : Row) (v : Value) : Prop := ∃ a t n, v = .ref a ∧ (a, tupO r t n) ∈ tl
theorem paired_mono {α β : Type} {G G' : α → β → Prop} (h : ∀ a b, G a b → G' a b) : ∀ {as : List α} {ys : List β}, Paired G as ys → Paired G' as ys
  | _, _, .nil => .nil
  | _, _, .cons x t => .cons (h _ _ x) (paired_mono h t)
theorem know4 {h₀ h : Heap} {L : Addr} {m : Str → Option Value} {a b c d : Str} {va vb vc vd : Value} (F : Fr h₀ L h m) (h1 : m a = some va) (h2 : m b = some vb) (h3 : m c = some vc) (h4 : m d = some vd) :
    Fr h₀ L h (fun y => if y = a then some va else if y = b then some vb else if y = c then some vc else if y = d then some vd else m y) := by
  have e : (fun y => if y = a then some va else if y = b then some vb else if y = c then some vc else if y = d then some vd else m y) = m := by
    funext y
    by_cases q1 : y = a
    · subst q1; simp [h1]
    by_cases q2 : y = b
    · subst q2; simp [q1, h2]
    by_cases q3 : y = c
    · subst q3; simp [q1, q2, h3]
    by_cases q4 : y = d
    · subst q4; simp [q1, q2, q3, h4]
    simp [q1, q2, q3, q4]
  rw [e]; exact F
theorem know2 {h₀ h : Heap} {L : Addr} {m : Str → Option Value} {a b : Str} {va vb : Value} (F : Fr h₀ L h m) (h1 : m a = some va) (h2 : m b = some vb) :
    Fr h₀ L h (fun y => if y = a then some va else if y = b then some vb else m y) := by
  have e : (fun y => if y = a then some va else if y = b then some vb else m y) = m := by
    funext y
    by_cases q1 : y = a
    · subst q1; simp [h1]
    by_cases q2 : y = b
    · subst q2; simp [q1, h2]
    simp [q1, q2]
  rw [e]; exact F
theorem know6 {h₀ h : Heap} {L : Addr} {m : Str → Option Value} {a b c d e f : Str} {va vb vc vd ve vf : Value} (F : Fr h₀ L h m) (h1 : m a = some va) (h2 : m b = some vb) (h3 : m c = some vc) (h4 : m d = some vd) (h5 : m e = some ve) (h6 : m f = some vf) :
    Fr h₀ L h (fun y => if y = a then some va else if y = b then some vb else if y = c then some vc else if y = d then some vd else if y = e then some ve else if y = f then some vf else m y) := by
  have e0 := know2 F h5 h6
  have q : (fun y => if y = e then some ve else if y = f then some vf else m y) = m := by
    funext y
    by_cases q1 : y = e
    · subst q1; simp [h5]
    by_cases q2 : y = f
    · subst q2; simp [q1, h6]
    simp [q1, q2]
  have h1' := h1; have h2' := h2; have h3' := h3; have h4' := h4
  rw [← q] at h1' h2' h3' h4'
  exact know4 e0 h1' h2' h3' h4'
theorem fit_pos {wd : Nat} {r : Tx} (hw : 4 ≤ wd) (h : r ≠ []) : 0 < fit wd 0 r := by
  match r, h with
  | c :: r, _ => have := enc_le c; simp only [fit]; rw [if_pos (by omega)]; omega
theorem take_enc {rest : Tx} {j c : Nat} (h : rest[j]? = some c) : (encs (rest.take (j + 1))).length = (encs (rest.take j)).length + (enc c).length := by
  rw [List.take_add_one, h]; simp [encs_append, encs]
theorem drop_cons {rest : Tx} {j c : Nat} (h : rest[j]? = some c) : rest.drop j = c :: rest.drop (j + 1) := by
  obtain ⟨hj, rfl⟩ := List.getElem?_eq_some_iff.mp h
  exact List.drop_eq_getElem_cons hj
theorem endW_any {k : Tx} (h : ([Str.ofString " ", Str.ofString "\t"].any fun x => x == Txt.slice (s k) (some (-1)) none) = true) : endW k = true ∧ k ≠ [] := by
  rw [lit_sp, lit_tab, s_slice_sn, clip_neg1] at h
  simp only [List.any_cons, List.any_nil, Bool.or_false, Bool.or_eq_true, beq_iff_eq, s_inj] at h
  rcases h with h | h
  · have := drop_last h.symm
    exact ⟨by simp [endW, this, isW], by rintro rfl; simp at this⟩
  · have := drop_last h.symm
    exact ⟨by simp [endW, this, isW], by rintro rfl; simp at this⟩
theorem endW_none {k : Tx} (h : ([Str.ofString " ", Str.ofString "\t"].any fun x => x == Txt.slice (s k) (some (-1)) none) = false) : endW k = false := by
  rw [lit_sp, lit_tab, s_slice_sn, clip_neg1] at h
  cases e : k.getLast? with
  | none => simp [endW, e]
  | some c =>
    rw [last_drop e] at h
    simp only [List.any_cons, List.any_nil, Bool.or_false, Bool.or_eq_false_iff, beq_eq_false_iff_ne, ne_eq, s_inj, List.cons.injEq, and_true] at h
    simp only [endW, e, isW, Bool.or_eq_false_iff, beq_eq_false_iff_ne]
    exact ⟨fun q => h.1 q.symm, fun q => h.2 q.symm⟩
theorem paired_app {α β : Type} {G : α → β → Prop} : ∀ {as : List α} {ys : List β} {as' : List α} {ys' : List β}, Paired G as ys → Paired G as' ys' → Paired G (as ++ as') (ys ++ ys')
  | _, _, _, _, .nil, h => h
  | _, _, _, _, .cons x t, h => .cons x (paired_app t h)
theorem rows_fin {st : Shared} {h₁ : Heap} {L : Addr} {tk₁ wd : Nat} {l : Tx} {m : Str → Option Value} {tl : List (Addr × Obj)} {rs rs2 : List Row} {vs vs2 : List Value} {D : Addr} {k : Nat} {Q : Value → Shared → Prop}
    (h : ∀ D vs n h' tk, Kp st.heap h' → st.heap.get? D = none → h'.get? D = some (Mine.lo (List.toArray vs) n) → Paired (RowAt h') (rows wd l) vs → Q (.ref D) { st with heap := h', toks := tk })
    (F : Fr st.heap L h₁ m) (N : News st.heap L h₁ ((D, Mine.lo (vs ++ vs2).toArray k) :: tl)) (hp : Paired (RowIn tl) rs vs) (hp2 : Paired (RowIn tl) rs2 vs2) (e : rs ++ rs2 = rows wd l) :
    Q (.ref D) { st with heap := h₁, toks := tk₁ } := by
  refine h _ _ k h₁ tk₁ F.keep (N _ (.head _)).2.2 (N.get (.head _)) (e ▸ ?_)
  have up : ∀ r v, RowIn tl r v → RowAt h₁ r v := by
    rintro r v ⟨a, t, n, e, hm⟩
    exact ⟨a, t, n, e, N.get (.tail _ hm)⟩
  exact paired_app (paired_mono up hp) (paired_mono up hp2)
theorem RowIn.up {tl tl' : List (Addr × Obj)} {rs : List Row} {vs : List Value} (h : Paired (RowIn tl) rs vs) (k : ∀ p ∈ tl, p ∈ tl') : Paired (RowIn tl') rs vs :=
  paired_mono (by rintro r v ⟨a, t, n, e, hm⟩; exact ⟨a, t, n, e, k _ hm⟩) h
theorem RowIn.mk {tl : List (Addr × Obj)} {x : Str} {r : Tx} {b : Bool} {a : Addr} {t : Tok} {n : Nat} (h : (a, ({ cls := .type "tuple", data := .seq #[.str x t, .bool b] n } : Obj)) ∈ tl) (e : x = s r) : RowIn tl (r, b) (.ref a) := by
  subst e; exact ⟨a, t, n, rfl, h⟩
theorem rows_spec {A : Around} {st : Shared} {l : Tx} {wd : Nat} {t u : Tok} {Q : Value → Shared → Prop} {E : Value → Shared → Prop}
    (X : (KF w.params).In st.heap) (T : TopRead Qv lo mg mb st.heap) (hroom : A.depth < 980) (hh : A.handled = none) (hx : (s l).length ≤ 1000) (hc : ∀ c ∈ l, c < 256) (hw : 4 ≤ wd ∧ wd ≤ 100)
    (h : ∀ D vs n h' tk, Kp st.heap h' → st.heap.get? D = none → h'.get? D = some (Mine.lo (List.toArray vs) n) → Paired (RowAt h') (rows wd l) vs → Q (.ref D) { st with heap := h', toks := tk }) : wpAny (model PWx w) A (call (.ref 84) [.str (s l) t, .int wd u]) Q E st := by
  refine wpAny_call (enter (binds := [(Str.ofString "line", .str (s l) t), (Str.ofString "width", .int wd u)]) X T (Nat.lt_trans hroom (by decide)) (by rfl) (by rfl) (BindsTo.of_eq (by rfl)) (locs (by rfl)) (by decide) ?_)
  intro h₁ L hL F
  have N : News st.heap L h₁ [] := News.nil
  iterate 17 walk1
  rename Fr _ _ _ _ => F1
  rename News _ _ _ _ => N1
  refine LC (as := l) (R := SgR) (G := LenR) F1 SgR.fun hh (by rfl) (by decide) rfl (by decide) (by rfl) (Nat.le_trans hx (by decide)) ?_
  refine ld F1 (by rfl) ⟨_, _, Iters.str, sgs, F1, N1, ?_, ?_⟩
  · rintro C a v s₂ m₂ E' ha ⟨u, rfl⟩ hn hm hk
    have X2 := X.keeps (fun b o e => hk b o (F1.keep b o e))
    have T2 := T.keeps (fun b o e => hk b o (F1.keep b o e))
    walk1
    refine gnameB X2 T2 (by rfl) (by rfl) ?_
    repeat walk1
    refine gnameF 79 X2 T2 (by rfl) ?_
    repeat walk1
    refine sign_spec X2 T2 (by show A.depth + 1 < 990; omega) (hc a ha) (fun t h' tk k => ?_)
    walk1
    refine len_str (by rw [s_len]; have := enc_le a; omega) ⟨⟨_, by rw [s_len]⟩, h', _, rfl, k⟩
  · intro D ys n h' tk hk F2 N2 hp
    clear F1 N1
    have hyl : ys.length ≤ 1000 := by rw [← hp.length]; exact hx
    have hyz : ys.toArray.size ≤ 1000 := by simpa using hyl
    have hI := LenR.ints hp
    walk1
    refine sumN hh (News.isList N2 (.head _)) hI (fun h3 tk3 t3 hk3 => ?_)
    rw [sum_lens]
    have F3 := F2.keeps hk3
    have N3 := N2.grown hk3
    clear F2 N2
    dsimp only
    iterate 3 walk1
    rename Fr _ _ _ _ => F4
    rename News _ _ _ _ => N4
    have N5 := fun p hp => N4 p (List.mem_cons_of_mem _ hp)
    refine While_inv (J := fun n m nw => ∃ rest rs D vs k tl, IsS (m (Str.ofString "rest")) rest ∧ IsI (m (Str.ofString "size")) (encs rest).length ∧ m (Str.ofString "rows") = some (.ref D) ∧ m (Str.ofString "width") = some (.int wd u) ∧
      nw = (D, Mine.lo (List.toArray vs) k) :: tl ∧ (∀ p ∈ tl, p.1 ≠ D) ∧ Paired (RowIn tl) rs vs ∧ rs ++ rows wd rest = rows wd l ∧ rest.length = n ∧ rs.length + rest.length ≤ l.length ∧ ∀ c ∈ rest, c < 256) F4 N5
      ⟨l, [], _, [], 0, [], ⟨_, rfl⟩, ⟨_, rfl⟩, rfl, rfl, rfl, by simp, .nil, rfl, rfl, by simp, hc⟩ ?_ (fun _ _ x => x.elim)
    rintro n m₁ nw h₂ tk₁ F5 N6 ⟨rest, rs, D, vs, k, tl, ⟨t1, hm1⟩, ⟨t2, hm2⟩, hm3, hm4, rfl, htl, hrs, e1, e2, e3, hcr⟩
    have F6 := know4 F5 hm1 hm2 hm3 hm4
    clear F5 F4 N5 N4
    have hr9 : (s rest).length ≤ 1000 := by rw [s_len]; have : l.length ≤ 1000 := hx; omega
    iterate 6 walk1
    · iterate 9 walk1
      rename Fr _ _ _ _ => G1
      rename News _ _ _ _ => M1
      rename (_ < _) => hgt
      refine While_inv (n₀ := rest.length) (J := fun n m nw => ∃ j, IsI (m (Str.ofString "used")) (encs (rest.take j)).length ∧ IsI (m (Str.ofString "count")) j ∧ m (Str.ofString "rest") = some (.str (s rest) t1) ∧ IsI (m (Str.ofString "size")) (encs rest).length ∧ m (Str.ofString "rows") = some (.ref D) ∧ m (Str.ofString "width") = some (.int wd u) ∧
        nw = (D, Mine.lo (List.toArray vs) k) :: tl ∧ j + n = rest.length ∧ (encs (rest.take j)).length < wd ∧ fit wd (encs (rest.take j)).length (rest.drop j) + j = fit wd 0 rest) G1 M1
        ⟨0, ⟨_, rfl⟩, ⟨_, rfl⟩, rfl, ⟨_, rfl⟩, rfl, rfl, rfl, by simp, by simp [encs]; omega, by simp [encs]⟩ ?_ (fun _ _ x => x.elim)
      rintro n2 m2 nw2 h4 tk4 G2 M2 ⟨j, ⟨ta, q1⟩, ⟨tb, q2⟩, q3, ⟨tc, q4⟩, q5, q6, rfl, q7, q8, q9⟩
      have G3 := know6 G2 q1 q2 q3 q6 q4 q5
      clear G2 G1 M1
      have hj : j < rest.length := by
        rcases Nat.lt_or_ge j rest.length with q | q
        · exact q
        · rw [List.take_of_length_le q] at q8; omega
      have hsl : (s rest).length = rest.length := rfl
      repeat' walk1
      obtain ⟨c, hcj⟩ : ∃ c, rest[j]? = some c := ⟨rest[j], by simp [hj]⟩
      rw [s_item (by omega) (by simpa using hcj)]
      have hec := enc_le c
      have hee : (s (enc c)).length = (enc c).length := rfl
      rename Fr _ _ _ _ => G4
      rename News _ _ _ _ => M4
      refine sign_spec (X.keeps G4.keep) (T.keeps G4.keep) (by show A.depth + 1 < 990; omega) (hcr c (List.mem_of_getElem? hcj)) (fun t' h' tk' k' => ?_)
      have G5 := G4.keeps k'
      have M5 := M4.grown k'
      clear G4 M4
      dsimp only
      repeat' walk1
      · rw [s_item (by omega) (by simpa using hcj)]
        rename Fr _ _ _ _ => G4
        rename News _ _ _ _ => M4
        refine sign_spec (X.keeps G4.keep) (T.keeps G4.keep) (by show A.depth + 1 < 990; omega) (hcr c (List.mem_of_getElem? hcj)) (fun t' h' tk' k' => ?_)
        have G5 := G4.keeps k'
        have M5 := M4.grown k'
        clear G4 M4
        dsimp only
        repeat' walk1
        rename (_ < _) => hlt
        have hte := take_enc hcj
        refine WhileStep.intro (n' := n2 - 1) (by assumption) (by assumption) (by omega) ⟨j + 1, ?_, ?_, rfl, ⟨_, rfl⟩, rfl, rfl, rfl, by omega, by omega, ?_⟩
        · exact IsI.mk (by rw [hte, ← hee]; rfl)
        · exact IsI.mk rfl
        rw [drop_cons hcj, fit, if_pos (by omega)] at q9
        rw [hte]; omega
      · rename (¬ (_ < _)) => hge
        have hj0 : j = fit wd 0 rest := by
          rw [drop_cons hcj, fit, if_neg (by omega)] at q9; omega
        have hvl : vs.length ≤ 1000 := by rw [← hrs.length]; have : l.length ≤ 1000 := hx; omega
        have hvz : vs.toArray.size ≤ 1000 := by simpa using hvl
        rename_i tq _ _ D2 _ G6 M6 hlt
        rw [s_slice_ns, clip_nat (Nat.le_of_lt hj)] at M6
        refine append_second G6 M6 (Nat.ne_of_gt hlt.1) htl (fun h5 G7 M7 => ?_)
        dsimp only
        clear G6 M6
        repeat' walk1
        rename Fr _ _ _ _ => G8
        rename News _ _ _ _ => M8
        refine WhileStep.intro (n' := rest.length - j) G8 (news₂ := (D, Mine.lo (List.toArray (vs ++ [.ref D2])) (k + 1)) :: (D2, tupO (rest.take j, true) tq 0) :: tl) ?_ ?_
          ⟨rest.drop j, rs ++ [(rest.take j, true)], D, vs ++ [.ref D2], k + 1, _, ?_, ?_, rfl, rfl, rfl, ?_, ?_, ?_, ?_, ?_, ?_⟩
        · intro p hp
          rcases List.mem_cons.mp hp with rfl | hp
          · have := M8 _ (.tail _ (.head _))
            simpa using this
          · rcases List.mem_cons.mp hp with rfl | hp
            · exact M8 _ (.head _)
            · exact M8 _ (.tail _ (.tail _ hp))
        · have := fit_pos (r := rest) hw.1 (by rintro rfl; simp at hj); omega
        · exact IsS.mk (by rw [s_slice_sn, clip_nat (Nat.le_of_lt hj)])
        · refine IsI.mk ?_
          have := congrArg (fun x => (encs x).length) (List.take_append_drop j rest)
          simp only [encs_append, List.length_append] at this
          omega
        · intro p hp
          rcases List.mem_cons.mp hp with rfl | hp
          · exact Nat.ne_of_gt hlt.1
          · exact htl p hp
        · refine Paired.snoc (paired_mono ?_ hrs) ⟨D2, tq, 0, rfl, .head _⟩
          rintro r v ⟨a, t9, n9, e, hm⟩
          exact ⟨a, t9, n9, e, .tail _ hm⟩
        · rw [← e1, List.append_assoc]
          congr 1
          conv => rhs; rw [rows]
          rw [dif_pos ⟨by omega, fit_pos hw.1 (by rintro rfl; simp at hj)⟩, hj0]
          rfl
        · simp
        · have := fit_pos (r := rest) hw.1 (by rintro rfl; simp at hj); simp; omega
        · intro c hc; exact hcr c (List.mem_of_mem_drop hc)
    · have hvl : vs.length ≤ 1000 := by rw [← hrs.length]; have : l.length ≤ 1000 := hx; omega
      have hstop : rows wd rest = lastRows wd rest := by
        rename (¬ (_ < _)) => hq
        exact rows_stop (by omega)
      rw [hstop] at e1
      repeat' walk1
      · rename ((List.any _ _) = true) => h0
        obtain ⟨he, hn⟩ := endW_any h0
        rename ((_ : Int) = _) => q1
        have e : lastRows wd rest = [(rest.dropLast, true), (rest.drop (rest.length - 1), false)] := by
          unfold lastRows; rw [he, show ((encs rest).length == wd) = true from by simp; omega]; rfl
        rw [e] at e1
        rename Fr _ _ _ _ => F9
        rename News _ _ _ _ => N9
        dsimp only
        refine rows_fin h F9 N9 (RowIn.up hrs fun p hp => by simp [hp]) (.cons (RowIn.mk (by repeat (first | exact List.Mem.head _ | apply List.Mem.tail)) ?_) (.cons (RowIn.mk (by repeat (first | exact List.Mem.head _ | apply List.Mem.tail)) ?_) .nil)) e1
        · rw [s_slice_ns, clip_neg1, List.dropLast_eq_take]
        · rw [s_slice_sn, clip_neg1]
      · rename ((List.any _ _) = true) => h0
        obtain ⟨he, hn⟩ := endW_any h0
        have e : lastRows wd rest = [(rest, true), ([], false)] := by
          unfold lastRows; rw [he, show ((encs rest).length == wd) = false from by simp; omega, show ((encs rest).length + 1 == wd) = true from by simp; omega]; rfl
        rw [e] at e1
        rename Fr _ _ _ _ => F9
        rename News _ _ _ _ => N9
        dsimp only
        refine rows_fin h F9 N9 (RowIn.up hrs fun p hp => by simp [hp]) (.cons (RowIn.mk (by repeat (first | exact List.Mem.head _ | apply List.Mem.tail)) rfl) (.cons (RowIn.mk (by repeat (first | exact List.Mem.head _ | apply List.Mem.tail)) lit_e) .nil)) e1
      · rename ((List.any _ _) = true) => h0
        obtain ⟨he, hn⟩ := endW_any h0
        have e : lastRows wd rest = [(rest, false)] := by
          unfold lastRows; rw [he, show ((encs rest).length == wd) = false from by simp; omega, show ((encs rest).length + 1 == wd) = false from by simp; omega]; rfl
        rw [e] at e1
        rename Fr _ _ _ _ => F9
        rename News _ _ _ _ => N9
        dsimp only
        refine rows_fin h F9 N9 (RowIn.up hrs fun p hp => by simp [hp]) (.cons (RowIn.mk (by repeat (first | exact List.Mem.head _ | apply List.Mem.tail)) rfl) .nil) e1
      · rename ((List.any _ _) = false) => h0
        have he := endW_none h0
        have e : lastRows wd rest = [(rest, false)] := by
          unfold lastRows; rw [he]; rfl
        rw [e] at e1
        rename Fr _ _ _ _ => F9
        rename News _ _ _ _ => N9
        dsimp only
        refine rows_fin h F9 N9 (RowIn.up hrs fun p hp => by simp [hp]) (.cons (RowIn.mk (by repeat (first | exact List.Mem.head _ | apply List.Mem.tail)) rfl) .nil) e1
end
end Mine
end
section
open PySem PySem.W PyProof.Rows PySem.Calls
set_option maxRecDepth 100000
set_option maxHeartbeats 4000000
set_option linter.unusedVariables false
namespace Mine
section
variable {w : World} {A : Around} {E : Value → Shared → Prop} {s : Shared} {env : Env} {h₀ : Heap}
theorem News.pick {h : Heap} {L : Addr} {nw nw' : List (Addr × Obj)} (N : News h₀ L h nw) (k : ∀ p ∈ nw', p ∈ nw) : News h₀ L h nw' := fun p hp => N p (k p hp)
def StepL (h₀ : Heap) (L I : Addr) (own : List (Addr × Obj)) (s₁ : Shared) (Jn : (Str → Option Value) → List (Addr × Obj) → Prop) (Q : Flow → Shared → Prop) (f : Flow) (s₃ : Shared) : Prop :=
  match f with
  | .next | .cont => ∃ h' tk m₂ nw₂, s₃ = { s₁ with heap := h', toks := tk } ∧ Fr h₀ L h' m₂ ∧ News h₀ L h' (own ++ nw₂) ∧ (∀ p ∈ nw₂, p.1 ≠ I) ∧ Jn m₂ nw₂
  | .brk => Q .next s₃
  | .ret v => Q (.ret v) s₃
theorem ForL {Q : Flow → Shared → Prop} {x : Str} {px pos : Pos} {iter : PySem.Expr} {body : List Stmt} (hh : A.handled = none) (hx : env.kindOf x = some .local)
    (hp : (env.scope.kind == .class || (env.scope.kind == .module && env.locals != env.globals)) = false)
    (h : wpAny (model PWx w) A (eval iter env) (fun xv s₁ => ∃ (a : Addr) (vs : List Value) (m : Str → Option Value) (news : List (Addr × Obj)) (J : Nat → (Str → Option Value) → List (Addr × Obj) → Prop), xv = .ref a ∧ s₁.heap.IsList a (List.toArray vs) ∧ Fr h₀ env.locals s₁.heap m ∧ News h₀ env.locals s₁.heap news ∧ h₀.objs.size ≤ s₁.heap.objs.size ∧ a ≠ env.locals ∧ J 0 m news ∧
      (∀ (i : Nat) (v : Value) (m₁ : Str → Option Value) (nw₁ own : List (Addr × Obj)) (h₁ : Heap) (tk₁ : Nat), vs[i]? = some v → J i m₁ nw₁ → (∀ p ∈ own, p.1 = s₁.heap.objs.size ∨ p.1 = a) → (∀ p ∈ nw₁, p.1 ≠ s₁.heap.objs.size) →
        Fr h₀ env.locals h₁ (fun y => if y = x then some v else m₁ y) → News h₀ env.locals h₁ (own ++ nw₁) →
        wpAny (model PWx w) A (execs body env) (StepL h₀ env.locals s₁.heap.objs.size own s₁ (J (i + 1)) Q) E { s₁ with heap := h₁, toks := tk₁ }) ∧
      (∀ (h' : Heap) (tk : Nat) (m' : Str → Option Value) (nw' : List (Addr × Obj)), Fr h₀ env.locals h' m' → News h₀ env.locals h' nw' → J vs.length m' nw' → Q .next { s₁ with heap := h', toks := tk })) E s)
    (hs : ∀ x, foldedSetIterable iter env x = pure x := by intro _; rfl)
    (hE : PassesOwn (model PWx w) A env E := by passes_own) :
    wpAny (model PWx w) A (exec (.For (.Name x px) iter body [] pos) env) Q E s := by
  refine For_invV h₀ hx hp (wpAny_mono h (fun xv s₁ h₁ => ?_) fun _ _ e => e) hs hE
  obtain ⟨a, vs, m, news, J, rfl, hl, F, N, hsz, haL, hJ, step, hQ⟩ := h₁
  have hlt : a < s₁.heap.objs.size := by obtain ⟨_, e, _⟩ := hl; exact Heap.lt_size e
  have hLlt : env.locals < s₁.heap.objs.size := by obtain ⟨_, _, _, e, _⟩ := F.ns; exact Heap.lt_size e
  have fresh : h₀.get? s₁.heap.objs.size = none := by
    cases e : h₀.get? s₁.heap.objs.size with
    | none => rfl
    | some o => exact absurd (Heap.lt_size e) (Nat.not_lt.mpr hsz)
  have W := Walks.list (prog := PWx) (w := w) (A := A) hh s₁.heap.objs.size a (Nat.ne_of_lt hlt) vs.toArray
  rw [show vs.toArray.size = vs.length from by simp] at W
  refine wpAny_pyIter_list hl ⟨s₁.heap.objs.size, [s₁.heap.objs.size, a], [s₁.heap.objs.size], vs.length, _, _, m, news, J, rfl, W, ?_, ?_, ?_, ?_, ?_, ?_, hJ, ?_, ?_⟩
  · intro hm
    rcases List.mem_cons.mp hm with e | hm
    · exact Nat.lt_irrefl _ (e ▸ hLlt)
    · rcases List.mem_singleton.mp hm with e
      exact haL e.symm
  · intro b hb; rcases List.mem_singleton.mp hb with rfl; exact fresh
  · intro p hp hm
    rcases List.mem_singleton.mp hm with e
    have := Heap.lt_size (N p hp).1
    rw [e] at this; exact Nat.lt_irrefl _ this
  · exact ⟨⟨_, Heap.get?_push_size _ rfl, rfl, rfl⟩, hl.push _⟩
  · exact F.push _
  · intro p hp
    exact ⟨Heap.get?_push_of_some _ (N p hp).1, (N p hp).2⟩
  · intro i v m₁ nw₁ s₃ own hs₃ hi hP hJ' hnw hown _ _ _ F₁ N₁
    obtain ⟨h₁, tk₁, rfl⟩ := hs₃
    refine wpAny_mono (step i v m₁ nw₁ own h₁ tk₁ (by simpa using hP) hJ' (fun p hp => by have := hown p hp; simpa using this) (fun p hp e => hnw p hp (by simp [e])) F₁ N₁) (fun f s₄ h₄ => ?_) fun _ _ e => e
    cases f with
    | ret v => exact h₄
    | brk => exact h₄
    | next =>
      obtain ⟨h', tk, m₂, nw₂, rfl, F₂, N₂, hw₂, J₂⟩ := h₄
      exact ⟨rfl, h', tk, m₂, nw₂, rfl, F₂, N₂, fun p hp hm => hw₂ p hp (by simpa using hm), J₂⟩
    | cont =>
      obtain ⟨h', tk, m₂, nw₂, rfl, F₂, N₂, hw₂, J₂⟩ := h₄
      exact ⟨rfl, h', tk, m₂, nw₂, rfl, F₂, N₂, fun p hp hm => hw₂ p hp (by simpa using hm), J₂⟩
  · intro h' tk m' nw' F' N' _ J'
    exact hQ h' tk m' nw' F' N' J'
theorem append_mem {L D : Addr} {m : Str → Option Value} {nw : List (Addr × Obj)} {vs : List Value} {k : Nat} {x : Value} {Q : Value → Shared → Prop}
    (F : Fr h₀ L s.heap m) (N : News h₀ L s.heap nw) (hD : (D, lo vs.toArray k) ∈ nw) (hsz : vs.length ≤ 10000)
    (h : ∀ h', Fr h₀ L h' m → (∀ nw', (∀ p ∈ nw', p = (D, lo (vs ++ [x]).toArray (k + 1)) ∨ (p.1 ≠ D ∧ p ∈ nw)) → News h₀ L h' nw') → Q .none { s with heap := h' }) :
    wpAny (model PWx w) A (call (.builtin "list.append") [.ref D, x]) Q E s := by
  refine append_at (N.get hD) (fun h' hs ho => h h' (F.change hs (N _ hD).2.1 (N _ hD).2.2) ?_) (Nat.le_trans (by simp; exact hsz) (show 10000 ≤ sizeLine by decide))
  intro nw' hk p hp
  rcases hk p hp with rfl | ⟨hne, hm⟩
  · refine ⟨by rw [ho]; simp, (N _ hD).2⟩
  · exact ⟨(hs.2 p.1 hne).trans (N p hm).1, (N p hm).2⟩
end
end Mine
end
section
open PySem PySem.W PyProof.Rows PySem.Calls
set_option maxRecDepth 100000
set_option maxHeartbeats 4000000
set_option linter.unusedVariables false
namespace Mine
/-! plain -/
def okGo : Tx → Bool
  | [] => true
  | c :: r => if c ≠ 61 then okGo r else match r with
    | [] => true
    | [x] => okGo [x]
    | x :: y :: r' => if isHex x && isHex y then okPair x y && okGo r' else okGo (x :: y :: r')
def hexL : Tx := [48, 49, 50, 51, 52, 53, 54, 55, 56, 57, 97, 98, 99, 100, 101, 102, 65, 66, 67, 68, 69, 70]
theorem hexL_mem {c : Nat} : c ∈ hexL ↔ isHex c = true := by
  simp only [hexL, List.mem_cons, List.not_mem_nil, or_false, isHex, Bool.or_eq_true, Bool.and_eq_true, decide_eq_true_eq]
  omega
theorem decGo_len : ∀ (n : Nat) (l : Tx), l.length ≤ n → (decGo l).length ≤ l.length + 1
  | 0, l, h => by
    have : l = [] := List.length_eq_zero_iff.mp (by omega)
    subst this; simp [decGo]
  | n + 1, [], h => by simp [decGo]
  | n + 1, [c], h => by
    rw [decGo.eq_def]; simp only; split <;> simp [decGo]
  | n + 1, [c, x], h => by
    rw [decGo.eq_def]; simp only
    have := decGo_len n [x] (by simp at h ⊢; omega)
    split <;> simp at * <;> omega
  | n + 1, c :: x :: y :: r, h => by
    rw [decGo.eq_def]; simp only
    have h1 := decGo_len n (x :: y :: r) (by simp at h ⊢; omega)
    have h2 := decGo_len n r (by simp at h ⊢; omega)
    split
    · simp at *; omega
    · split <;> simp at * <;> omega
theorem decLine_len (l : Tx) : (decLine l).length ≤ l.length + 1 := by
  have := decGo_len _ (rstripL l) (Nat.le_refl _)
  have := rstripL_len l
  unfold decLine; omega
theorem jn_len : ∀ (t : List Tx), t ≠ [] → (t.map (fun a => a.length + 1)).sum = (jn t).length + 1
  | [], h => absurd rfl h
  | [a], _ => by simp [jn]
  | a :: b :: t, _ => by
    have ih := jn_len (b :: t) (by simp)
    rw [jn_cons _ (by simp), List.map_cons, List.sum_cons, ih]; simp; omega
theorem slns_sum (T : Tx) : ((slns T).map (fun a => a.length + 1)).sum ≤ T.length + 1 := by
  have h := jn_len (lns T) (lns_ne T)
  rw [jn_lns] at h
  rw [← h]
  unfold slns
  split
  · have e := (List.dropLast_concat_getLast (lns_ne T)).symm
    conv => rhs; rw [e]
    simp
  · exact Nat.le_refl _
theorem flat_dec_len (t : List Tx) : (t.flatMap decLine).length ≤ (t.map (fun a => a.length + 1)).sum := by
  induction t with
  | nil => simp
  | cons a t ih => have := decLine_len a; simp only [List.flatMap_cons, List.length_append, List.map_cons, List.sum_cons]; omega
theorem tot_len (T : Tx) : ((slns T).flatMap decLine).length ≤ T.length + 1 := Nat.le_trans (flat_dec_len _) (slns_sum T)
theorem slns_len (T : Tx) : (slns T).length ≤ T.length + 1 := by
  have h := slns_sum T
  have : ∀ t : List Tx, t.length ≤ (t.map (fun a => a.length + 1)).sum := by
    intro t; induction t with
    | nil => simp
    | cons a t ih => simp only [List.length_cons, List.map_cons, List.sum_cons]; omega
  exact Nat.le_trans (this _) h
theorem slns_mem_len {T a : Tx} (h : a ∈ slns T) : a.length ≤ T.length := by
  have h1 := slns_sum T
  have : ∀ t : List Tx, a ∈ t → a.length + 1 ≤ (t.map (fun a => a.length + 1)).sum := by
    intro t; induction t with
    | nil => intro h; cases h
    | cons b t ih =>
      intro h
      simp only [List.map_cons, List.sum_cons]
      rcases List.mem_cons.mp h with rfl | h
      · omega
      · have := ih h; omega
  have := this _ h
  omega
theorem drop_at {α : Type} {l : List α} {i : Nat} {c : α} (h : l[i]? = some c) : l.drop i = c :: l.drop (i + 1) := by
  obtain ⟨hj, rfl⟩ := List.getElem?_eq_some_iff.mp h
  exact List.drop_eq_getElem_cons hj
theorem get_of {α : Type} {l : List α} {i : Nat} (h : i < l.length) : ∃ c, l[i]? = some c := ⟨l[i], by simp [h]⟩
theorem go_plain {c : Nat} {r : Tx} (h : c ≠ 61) : decGo (c :: r) = c :: decGo r ∧ okGo (c :: r) = okGo r := ⟨decGo_plain h r, by rw [okGo.eq_def]; simp [h]⟩
theorem go_soft : decGo [61] = [] := by simp [decGo]
theorem go_hex {x y : Nat} {r : Tx} (h : isHex x = true ∧ isHex y = true) : decGo (61 :: x :: y :: r) = (16 * hval x + hval y) :: decGo r ∧ okGo (61 :: x :: y :: r) = (okPair x y && okGo r) :=
  ⟨by rw [decGo.eq_def]; simp [h], by rw [okGo.eq_def]; simp [h]⟩
theorem go_else {r : Tx} (hn : r ≠ []) (h : ∀ x y t, r = x :: y :: t → ¬ (isHex x = true ∧ isHex y = true)) : decGo (61 :: r) = 61 :: decGo r ∧ okGo (61 :: r) = okGo r := by
  match r, hn with
  | [x], _ => exact ⟨by rw [decGo.eq_def]; simp, by rw [okGo.eq_def]; simp⟩
  | x :: y :: t, _ =>
    have := h x y t rfl
    exact ⟨by rw [decGo.eq_def]; simp [this], by rw [okGo.eq_def]; simp [this]⟩
/-! names known -/
def lookO (m : Str → Option Value) : List (Str × Value) → Str → Option Value
  | [] => m
  | (a, v) :: r => fun y => if y = a then some v else lookO m r y
theorem lookO_eq {m : Str → Option Value} : ∀ {ps : List (Str × Value)}, (∀ p ∈ ps, m p.1 = some p.2) → lookO m ps = m
  | [], _ => rfl
  | (a, v) :: r, h => by
    have ih := lookO_eq (ps := r) fun p hp => h p (List.mem_cons_of_mem _ hp)
    funext y
    show (if y = a then some v else lookO m r y) = m y
    rw [ih]
    split
    · rename_i e; rw [e]; exact (h (a, v) (List.mem_cons_self ..)).symm
    · rfl
theorem knowL {h₀ h : Heap} {L : Addr} {m : Str → Option Value} (ps : List (Str × Value)) (F : Fr h₀ L h m) (hp : ∀ p ∈ ps, m p.1 = some p.2) : Fr h₀ L h (lookO m ps) := by rw [lookO_eq hp]; exact F
theorem lines_at {T : Tx} {l : List (Str × Tok)} (h : l.map (·.1) = (slns T).map s) {i : Nat} {v : Value} (hv : (strValues l)[i]? = some v) : ∃ a u, (slns T)[i]? = some a ∧ v = .str (s a) u := by
  simp only [strValues, List.getElem?_map] at hv
  cases e : l[i]? with
  | none => rw [e] at hv; cases hv
  | some p =>
    rw [e] at hv
    have := congrArg (fun x => x[i]?) h
    simp only [List.getElem?_map, e] at this
    cases e2 : (slns T)[i]? with
    | none => rw [e2] at this; cases this
    | some a =>
      rw [e2] at this
      refine ⟨a, p.2, rfl, ?_⟩
      have h1 : p.1 = s a := by simpa using this
      rw [← h1]; simpa using hv.symm
end Mine
end
section
open PySem PySem.W PyProof.Rows PySem.Calls
set_option maxRecDepth 100000
set_option maxHeartbeats 4000000
set_option linter.unusedVariables false
namespace Mine
section
variable {w : World} {mg mb : Str → Option Value} {lo : List Str}
theorem Fr.le {h₀ h : Heap} {L : Addr} {m : Str → Option Value} (F : Fr h₀ L h m) : h₀.objs.size ≤ h.objs.size := by
  obtain ⟨_, _, _, e, _⟩ := F.ns
  exact Nat.le_trans F.above (Nat.le_of_lt (Heap.lt_size e))
theorem knowU {h₀ h : Heap} {L : Addr} {m : Str → Option Value} {x : Str} {v : Value} (ps : List (Str × Value)) (F : Fr h₀ L h (fun y => if y = x then some v else m y)) (hp : ∀ p ∈ ps, m p.1 = some p.2) : Fr h₀ L h (fun y => if y = x then some v else lookO m ps y) := by rw [lookO_eq hp]; exact F
theorem lit_rn : Str.ofString "\x0d\n" = s [13, 10] := by decide +kernel
theorem lit_hexd : Str.ofString "0123456789abcdefABCDEF" = s hexL := by decide +kernel
theorem ne_of_bne {x : Str} {c d : Nat} (e : x = s [d]) (h : (s [c] != x) = true) : c ≠ d := by
  subst e; intro q; subst q; simp at h
theorem eq_of_bne {x : Str} {c d : Nat} (e : x = s [d]) (h : (s [c] != x) = false) : c = d := by
  subst e; simpa [s_inj] using h
theorem leaf_go {c : Nat} {r ac tot : Tx} (hgo : okGo (c :: r) = true) (hcase : ac ++ decGo (c :: r) = tot) (g : decGo (c :: r) = c :: decGo r ∧ okGo (c :: r) = okGo r) : okGo r = true ∧ (ac ++ [c]) ++ decGo r = tot := by
  rw [g.1] at hcase; rw [g.2] at hgo
  exact ⟨hgo, by rw [← hcase]; simp⟩
theorem WS2.next {h₀ h' : Heap} {L : Addr} {s : Shared} {J : Nat → (Str → Option Value) → List (Addr × Obj) → Prop} {Q : Flow → Shared → Prop} {n n' tk : Nat} {m₂ : Str → Option Value} {nw : List (Addr × Obj)}
    (F : Fr h₀ L h' m₂) (N : News h₀ L h' nw) (hn : n' < n) (hJ : J n' m₂ nw) : WhileStep2 h₀ L s J Q n .next { s with heap := h', toks := tk } := ⟨h', tk, m₂, nw, n', rfl, F, N, hn, hJ⟩
theorem WS2.cont {h₀ h' : Heap} {L : Addr} {s : Shared} {J : Nat → (Str → Option Value) → List (Addr × Obj) → Prop} {Q : Flow → Shared → Prop} {n n' tk : Nat} {m₂ : Str → Option Value} {nw : List (Addr × Obj)}
    (F : Fr h₀ L h' m₂) (N : News h₀ L h' nw) (hn : n' < n) (hJ : J n' m₂ nw) : WhileStep2 h₀ L s J Q n .cont { s with heap := h', toks := tk } := ⟨h', tk, m₂, nw, n', rfl, F, N, hn, hJ⟩
theorem SL.next {h₀ h' : Heap} {L I : Addr} {own nw : List (Addr × Obj)} {s₁ : Shared} {Jn : (Str → Option Value) → List (Addr × Obj) → Prop} {Q : Flow → Shared → Prop} {tk : Nat} {m₂ : Str → Option Value}
    (F : Fr h₀ L h' m₂) (N : News h₀ L h' (own ++ nw)) (hw : ∀ p ∈ nw, p.1 ≠ I) (hJ : Jn m₂ nw) : StepL h₀ L I own s₁ Jn Q .next { s₁ with heap := h', toks := tk } := ⟨h', tk, m₂, nw, rfl, F, N, hw, hJ⟩
theorem SL.cont {h₀ h' : Heap} {L I : Addr} {own nw : List (Addr × Obj)} {s₁ : Shared} {Jn : (Str → Option Value) → List (Addr × Obj) → Prop} {Q : Flow → Shared → Prop} {tk : Nat} {m₂ : Str → Option Value}
    (F : Fr h₀ L h' m₂) (N : News h₀ L h' (own ++ nw)) (hw : ∀ p ∈ nw, p.1 ≠ I) (hJ : Jn m₂ nw) : StepL h₀ L I own s₁ Jn Q .cont { s₁ with heap := h', toks := tk } := ⟨h', tk, m₂, nw, rfl, F, N, hw, hJ⟩
theorem decode_spec {A : Around} {st : Shared} {T : Tx} {t : Tok} {Q : Value → Shared → Prop} {E : Value → Shared → Prop}
    (X : (KF w.params).In st.heap) (Tr : TopRead Qv lo mg mb st.heap) (hroom : A.depth < 980) (hh : A.handled = none) (hx : (s T).length ≤ 6000)
    (hlb : ∀ c ∈ T, PySem.Unicode.isLineBreak c = true → c = 10) (hok : ∀ a ∈ slns T, okGo (rstripL a) = true)
    (h : ∀ t h' tk, Kp st.heap h' → Q (.str (s (decode T)) t) { st with heap := h', toks := tk }) : wpAny (model PWx w) A (call (.ref 72) [.str (s T) t]) Q E st := by
  refine wpAny_call (enter (binds := [(Str.ofString "encoded", .str (s T) t), (Str.ofString "eol", .str (s [10]) 198)]) X Tr (Nat.lt_trans hroom (by decide)) (by rfl) (by rfl) (BindsTo.of_defaults rfl (X 65 _ rfl) rfl rfl rfl) (locs (by rfl)) (by decide) ?_)
  intro h₁ L hL F
  have N : News st.heap L h₁ [] := News.nil
  repeat' ((fail_if_success (with_reducible show wpAny _ _ (PySem.exec (.For _ _ _ _ _) _) _ _ _)); walk1)
  · refine ForL (h₀ := st.heap) hh (by rfl) (by rfl) ?_
    repeat' ((fail_if_success (with_reducible show Exists _)); walk1)
    rename ((_ : Int) ≠ 0) => hne
    have hT := lenN hne
    rename (List.map _ _ = Txt.lines _) => hlines
    rw [s_lines hlb] at hlines
    rename Heap.IsList _ _ _ => hl
    rename Fr _ _ _ (fun y => if y = _ then _ else _) => F1
    rename_i N1
    have hd0 : (slns T).flatMap decLine = [] ++ ((slns T).drop 0).flatMap decLine := by simp
    refine ⟨_, _, _, _, fun k m nw => ∃ acc, nw = [] ∧ IsS (m (Str.ofString "decoded")) acc ∧ m (Str.ofString "eol") = some (.str (s [10]) 198) ∧ m (Str.ofString "encoded") = some (.str (s T) t) ∧
      (slns T).flatMap decLine = acc ++ ((slns T).drop k).flatMap decLine, rfl, hl, F1, News.nil, ?_, ?_, ⟨[], rfl, IsS.mk lit_e, rfl, rfl, hd0⟩, ?_, ?_⟩
    · exact Fr.le F1
    · exact (N1 _ (.head _)).2.1
    · rintro i v m₁ nw₁ own h₂ tk₂ hv ⟨acc, rfl, ⟨t1, hm1⟩, hm2, hm3, hacc⟩ hown hnw F2 N2
      obtain ⟨a, u, ha, rfl⟩ := lines_at hlines hv
      have hdr := drop_at ha
      have htl := tot_len T
      have hTl : T.length ≤ 6000 := hx
      have F3 : Fr st.heap L h₂ _ := knowU [(Str.ofString "decoded", .str (s acc) t1), (Str.ofString "eol", .str (s [10]) 198), (Str.ofString "encoded", .str (s T) t)] F2 (by simp [hm1, hm2, hm3])
      simp only [lookO] at F3
      have N3 : News st.heap L h₂ own := by have := N2; rw [List.append_nil] at this; exact this
      have hal : (s a).length ≤ 6000 := Nat.le_trans (slns_mem_len (List.mem_of_getElem? ha)) hx
      have h10 : (s [10]).length = 1 := rfl
      have hacl : (s acc).length ≤ 6001 := by rw [s_len]; have := congrArg List.length hacc; simp only [List.length_append] at this; omega
      have hoka := hok a (List.mem_of_getElem? ha)
      clear F2 F1 N1 N2
      repeat' ((fail_if_success (with_reducible show wpAny _ _ (PySem.exec (.While _ _ _ _) _) _ _ _)); walk1)
      · rename ((_ : Int) ≠ 0) => hr0
        rename Fr _ _ _ _ => G1
        rename News _ _ _ _ => M1
        rw [s_rstrip] at hr0
        have hrn := lenN hr0
        simp only [s_rstrip] at G1
        have hrl : (s (rstripL a)).length ≤ 6000 := Nat.le_trans (rstripL_len a) hal
        rw [hdr, List.flatMap_cons] at hacc
        refine While_inv2 (n₀ := (rstripL a).length) (J := fun n m nw => ∃ (j : Nat) (ac : Tx), nw = own ∧ IsI (m (Str.ofString "i")) j ∧ IsS (m (Str.ofString "decoded")) ac ∧ IsS (m (Str.ofString "line")) (rstripL a) ∧ IsI (m (Str.ofString "n")) (rstripL a).length ∧
          m (Str.ofString "eol") = some (.str (s [10]) 198) ∧ m (Str.ofString "encoded") = some (.str (s T) t) ∧ j + n = (rstripL a).length ∧ okGo ((rstripL a).drop j) = true ∧
          ((j < (rstripL a).length ∧ ac ++ decGo ((rstripL a).drop j) = acc ++ decLine a) ∨ (j = (rstripL a).length ∧ ac = acc ++ decLine a))) G1 M1
          ⟨0, acc, rfl, IsI.mk rfl, ⟨_, rfl⟩, ⟨_, rfl⟩, IsI.mk rfl, rfl, rfl, by simp, hoka, .inl ⟨List.length_pos_iff.mpr hrn, rfl⟩⟩ ?_ (fun _ _ x => x.elim)
        rintro n m₂ nw h₃ tk₃ G2 M2 ⟨j, ac, rfl, ⟨t2, hj⟩, ⟨t3, hac⟩, ⟨t4, hln⟩, ⟨t5, hn⟩, he1, he2, hjn, hgo, hcase⟩
        have G3 := knowL [(Str.ofString "i", .int j t2), (Str.ofString "decoded", .str (s ac) t3), (Str.ofString "line", .str (s (rstripL a)) t4), (Str.ofString "n", .int (rstripL a).length t5), (Str.ofString "eol", .str (s [10]) 198), (Str.ofString "encoded", .str (s T) t)] G2 (by simp [hj, hac, hln, hn, he1, he2])
        simp only [lookO] at G3
        have hacl : (s ac).length ≤ 6001 := by
          rw [s_len]; have := congrArg List.length hacc; simp only [List.length_append] at this
          rcases hcase with ⟨_, q⟩ | ⟨_, q⟩
          · have := congrArg List.length q; simp only [List.length_append] at this; omega
          · rw [q, List.length_append]; omega
        have hjb : j ≤ 6000 := by have : (rstripL a).length ≤ 6000 := hrl; omega
        have hsl : (s (rstripL a)).length = (rstripL a).length := rfl
        clear G1 M1 G2
        iterate 6 walk1
        · rename ((_ : Int) < _) => hjl
          have hjl : j < (rstripL a).length := by omega
          obtain ⟨c, hc⟩ := get_of hjl
          have ec : Txt.item (s (rstripL a)) (j : Int) = s [c] := s_item (by omega) (by simpa using hc)
          have ecl : (s [c]).length = 1 := rfl
          have ecn : (s (ac ++ [c])).length = ac.length + 1 := by simp [s_len]
          have hd := drop_at hc
          rw [hd] at hcase hgo
          have hcase : ac ++ decGo (c :: (rstripL a).drop (j + 1)) = acc ++ decLine a := by rcases hcase with q | q; exact q.2; omega
          iterate 6 walk1
          rw [ec]
          repeat' walk1
          · rename ((_ != _) = true) => hc1
            rename ((_ : Int) + 1 = _) => hjn1
            have g := leaf_go hgo hcase (go_plain (ne_of_bne lit_eq hc1))
            rename Fr _ _ _ _ => F9
            rename News _ _ _ _ => N9
            refine WS2.next (n' := n - 1) F9 N9 (by omega) ⟨j + 1, (ac ++ [c]) ++ [10], rfl, IsI.mk (by simp), IsS.mk (by rw [s_app, s_app]), ⟨t4, rfl⟩, ⟨t5, rfl⟩, rfl, rfl, by omega, g.1, .inr ⟨by omega, ?_⟩⟩
            rw [← g.2, List.drop_eq_nil_iff.mpr (by omega)]; simp [decGo]
          · rename ((_ != _) = true) => hc1
            rename ((_ : Int) + 1 ≠ _) => hjn1
            have g := leaf_go hgo hcase (go_plain (ne_of_bne lit_eq hc1))
            rename Fr _ _ _ _ => F9
            rename News _ _ _ _ => N9
            exact WS2.next (n' := n - 1) F9 N9 (by omega) ⟨j + 1, ac ++ [c], rfl, IsI.mk (by simp), IsS.mk (by rw [s_app]), ⟨t4, rfl⟩, ⟨t5, rfl⟩, rfl, rfl, by omega, g.1, .inl ⟨by omega, g.2⟩⟩
          · rename ((_ != _) = false) => hc1
            rename ((_ : Int) + 1 = _) => hjn1
            have hc61 := eq_of_bne lit_eq hc1
            have hnil : (rstripL a).drop (j + 1) = [] := List.drop_eq_nil_iff.mpr (by omega)
            rename Fr _ _ _ _ => F9
            rename News _ _ _ _ => N9
            dsimp only
            refine WS2.cont (n' := n - 1) F9 N9 (by omega) ⟨j + 1, ac, rfl, IsI.mk (by simp), ⟨t3, rfl⟩, ⟨t4, rfl⟩, ⟨t5, rfl⟩, rfl, rfl, by omega, by rw [hnil]; rfl, .inr ⟨by omega, ?_⟩⟩
            rw [hnil, hc61, go_soft] at hcase; simpa using hcase
          · exact absurd ‹(_ : Int) + 1 = _› ‹(_ : Int) + 1 ≠ _›
          · rename (List.isEmpty _ = true) => hx1
            rename ((_ : Int) + 2 < _) => hj2
            obtain ⟨x, hxx⟩ := get_of (show j + 1 < (rstripL a).length by omega)
            rw [show Txt.item (s (rstripL a)) ((j : Int) + 1) = s [x] from s_item (by omega) (by simpa using hxx), lit_hexd] at hx1
            have hnx : ¬ isHex x = true := fun q => found_not hx1 (hexL_mem.mpr q)
            have hc61 := eq_of_bne lit_eq ‹(_ != _) = false›
            have g := leaf_go hgo hcase (by subst hc61; exact go_else (by rw [drop_at hxx]; simp) (fun x' y' t' e q => by rw [drop_at hxx] at e; simp at e; rw [e.1] at hnx; exact hnx q.1))
            rename Fr _ _ _ _ => F9
            rename News _ _ _ _ => N9
            exact WS2.next (n' := n - 1) F9 N9 (by omega) ⟨j + 1, ac ++ [c], rfl, IsI.mk (by simp), IsS.mk (by rw [s_app]), ⟨t4, rfl⟩, ⟨t5, rfl⟩, rfl, rfl, by omega, g.1, .inl ⟨by omega, g.2⟩⟩
          · exact absurd ‹(_ : Int) + 1 = _› ‹(_ : Int) + 1 ≠ _›
          · rename (List.isEmpty _ = true) => hx1
            rename ((_ : Int) + 2 < _) => hj2
            obtain ⟨x, hxx⟩ := get_of (show j + 1 < (rstripL a).length by omega)
            obtain ⟨y, hyy⟩ := get_of (show j + 2 < (rstripL a).length by omega)
            rw [show Txt.item (s (rstripL a)) ((j : Int) + 2) = s [y] from s_item (by omega) (by rw [show ((j : Int) + 2).toNat = j + 2 by omega]; exact hyy), lit_hexd] at hx1
            have hny : ¬ isHex y = true := fun q => found_not hx1 (hexL_mem.mpr q)
            have hc61 := eq_of_bne lit_eq ‹(_ != _) = false›
            have g := leaf_go hgo hcase (by subst hc61; exact go_else (by rw [drop_at hxx]; simp) (fun x' y' t' e q => by rw [drop_at hxx, drop_at hyy] at e; simp at e; rw [e.2.1] at hny; exact hny q.2))
            rename Fr _ _ _ _ => F9
            rename News _ _ _ _ => N9
            exact WS2.next (n' := n - 1) F9 N9 (by omega) ⟨j + 1, ac ++ [c], rfl, IsI.mk (by simp), IsS.mk (by rw [s_app]), ⟨t4, rfl⟩, ⟨t5, rfl⟩, rfl, rfl, by omega, g.1, .inl ⟨by omega, g.2⟩⟩
          · rename (List.isEmpty _ = false) => hx2
            revert hx2
            rename (List.isEmpty _ = false) => hq
            intro hx2
            rename ((_ : Int) + 2 < _) => hj2
            obtain ⟨x, hxx⟩ := get_of (show j + 1 < (rstripL a).length by omega)
            obtain ⟨y, hyy⟩ := get_of (show j + 2 < (rstripL a).length by omega)
            rw [show Txt.item (s (rstripL a)) ((j : Int) + 1) = s [x] from s_item (by omega) (by simpa using hxx), lit_hexd] at hq
            rw [show Txt.item (s (rstripL a)) ((j : Int) + 2) = s [y] from s_item (by omega) (by rw [show ((j : Int) + 2).toNat = j + 2 by omega]; exact hyy), lit_hexd] at hx2
            have hex : isHex x = true ∧ isHex y = true := ⟨hexL_mem.mp (found_lit hq), hexL_mem.mp (found_lit hx2)⟩
            have hc61 := eq_of_bne lit_eq ‹(_ != _) = false›
            have g := go_hex (r := (rstripL a).drop (j + 3)) hex
            have hsl3 : Txt.slice (s (rstripL a)) (some (j : Int)) (some ((j : Int) + 3)) = s [61, x, y] := by
              rw [s_slice_ss, clip_nat (by omega), show ((j : Int) + 3) = ((j + 3 : Nat) : Int) by omega, clip_nat (by omega), List.drop_take, hd, drop_at hxx, drop_at hyy, show j + 3 - j = 3 by omega, hc61]; rfl
            rw [hc61, drop_at hxx, drop_at hyy] at hcase hgo
            rw [g.1] at hcase
            rw [g.2, Bool.and_eq_true] at hgo
            rw [hsl3]
            rename Fr _ _ _ _ => G4
            rename News _ _ _ _ => M4
            refine unquote_spec (X.keeps G4.keep) (Tr.keeps G4.keep) (by show A.depth + 1 < 990; omega) hgo.1 (fun t' h' tk' k' => ?_)
            have G5 := G4.keeps k'
            have M5 := M4.grown k'
            clear G4 M4
            generalize 16 * hval x + hval y = z at hcase
            have ezl : (s [z]).length = 1 := rfl
            repeat' walk1
            · rename ((_ : Int) + 3 = _) => hj3
              rename Fr _ _ _ _ => F9
              rename News _ _ _ _ => N9
              refine WS2.next (n' := n - 3) F9 N9 (by omega) ⟨j + 3, (ac ++ [z]) ++ [10], rfl, IsI.mk (by simp), IsS.mk (by rw [s_app, s_app]), ⟨t4, rfl⟩, ⟨t5, rfl⟩, rfl, rfl, by omega, hgo.2, .inr ⟨by omega, ?_⟩⟩
              rw [← hcase, List.drop_eq_nil_iff.mpr (by omega)]; simp [decGo]
            · rename ((_ : Int) + 3 ≠ _) => hj3
              rename Fr _ _ _ _ => F9
              rename News _ _ _ _ => N9
              exact WS2.next (n' := n - 3) F9 N9 (by omega) ⟨j + 3, ac ++ [z], rfl, IsI.mk (by simp), IsS.mk (by rw [s_app]), ⟨t4, rfl⟩, ⟨t5, rfl⟩, rfl, rfl, by omega, hgo.2, .inl ⟨by omega, by rw [← hcase]; simp⟩⟩
          · exact absurd ‹(_ : Int) + 1 = _› ‹(_ : Int) + 1 ≠ _›
          · have hj2 : (rstripL a).length ≤ j + 2 := by have := ‹¬ (_ : Int) + 2 < _›; omega
            have hj1 := ‹(_ : Int) + 1 ≠ _›
            have hc61 := eq_of_bne lit_eq ‹(_ != _) = false›
            have hlen : ((rstripL a).drop (j + 1)).length = 1 := by rw [List.length_drop]; omega
            have g := leaf_go hgo hcase (by subst hc61; exact go_else (by intro q; rw [q] at hlen; simp at hlen) (fun x' y' t' e q => by rw [e] at hlen; simp at hlen))
            rename Fr _ _ _ _ => F9
            rename News _ _ _ _ => N9
            exact WS2.next (n' := n - 1) F9 N9 (by omega) ⟨j + 1, ac ++ [c], rfl, IsI.mk (by simp), IsS.mk (by rw [s_app]), ⟨t4, rfl⟩, ⟨t5, rfl⟩, rfl, rfl, by omega, g.1, .inl ⟨by omega, g.2⟩⟩
        · have hj0 : j = (rstripL a).length ∧ ac = acc ++ decLine a := by
            rcases hcase with q | q
            · exact absurd q.1 (by have := ‹¬ (_ : Int) < _›; omega)
            · exact q
          rename Fr _ _ _ _ => F9
          rename News _ _ _ _ => N9
          dsimp only
          repeat' walk1
          refine SL.next (nw := []) F9 (by rw [List.append_nil]; exact N9) (by simp) ⟨ac, rfl, ⟨t3, rfl⟩, rfl, rfl, ?_⟩
          rw [hj0.2, hacc]; simp
      · rename ((_ : Int) = 0) => hr0
        rw [s_rstrip] at hr0
        have hrn := len0 hr0
        have hdl : decLine a = [10] := by unfold decLine; rw [hrn]; rfl
        rename Fr _ _ _ _ => F9
        rename News _ _ _ _ => N9
        dsimp only
        refine SL.cont (nw := []) F9 (by rw [List.append_nil]; exact N9) (by simp) ⟨acc ++ [10], rfl, IsS.mk (by rw [s_app]), rfl, rfl, ?_⟩
        rw [hacc, hdr, List.flatMap_cons, hdl]; simp
    · rintro h₂ tk₂ m₂ nw₂ F2 N2 ⟨acc, rfl, ⟨t1, hm1⟩, hm2, hm3, hacc⟩
      rename List (Str × Tok) => ll
      have hvl : (strValues ll).length = (slns T).length := by have := congrArg List.length hlines; simp only [List.length_map] at this; simpa [strValues] using this
      rw [hvl, List.drop_length] at hacc
      simp only [List.flatMap_nil, List.append_nil] at hacc
      have F3 : Fr st.heap L h₂ _ := knowL [(Str.ofString "decoded", .str (s acc) t1), (Str.ofString "eol", .str (s [10]) 198), (Str.ofString "encoded", .str (s T) t)] F2 (by simp [hm1, hm2, hm3])
      simp only [lookO] at F3
      have N3 : News st.heap L h₂ [] := News.nil
      have htl := tot_len T
      have hTl : T.length ≤ 6000 := hx
      have h10 : (s [10]).length = 1 := rfl
      have hacl : (s acc).length ≤ 6001 := by rw [s_len, ← hacc]; omega
      have hpos : 0 < (s T).length := by rw [s_len]; exact List.length_pos_iff.mpr hT
      clear F2 F1 N1 N2
      dsimp only
      obtain ⟨c, hc⟩ : ∃ c, T.getLast? = some c := ⟨T.getLast hT, List.getLast?_eq_some_getLast hT⟩
      have hdec : decode T = fin1 T acc := by unfold decode; rw [if_neg hT, hacc]
      have hc13 : c ≠ 13 := by rintro rfl; exact absurd (hlb 13 (List.mem_of_getLast? hc) (by decide +kernel)) (by decide)
      repeat' walk1
      · rename (List.isEmpty _ = true) => h0
        rename (Txt.endswith _ _ = true) => h1
        rw [s_item_last hc, lit_rn] at h0
        rw [s_endswith, decide_eq_true_eq] at h1
        have h2 := found_not h0
        refine retS h (Fr.keep (by assumption)) ?_
        rw [hdec, fin1, if_pos ⟨by rw [hc]; intro q; simp at q h2; exact h2.2 q, h1⟩, show (-((s [10]).length : Int)) = -1 from rfl, s_slice_ns, clip_neg1, List.dropLast_eq_take]
      · rename (Txt.endswith _ _ = false) => h1
        rw [s_endswith, decide_eq_false_iff_not] at h1
        refine retS h (Fr.keep (by assumption)) ?_
        rw [hdec, fin1, if_neg (fun q => h1 q.2)]
      · rename (List.isEmpty _ = false) => h0
        rw [s_item_last hc, lit_rn] at h0
        have h2 := found_lit h0
        have hc10 : c = 10 := by simp at h2; omega
        refine retS h (Fr.keep (by assumption)) ?_
        rw [hdec, fin1, if_neg (fun q => q.1 (by rw [hc, hc10]))]
  · dsimp only
    have hT := len0 ‹(_ : Int) = 0›
    subst hT
    exact retS h (Fr.keep (by assumption)) rfl
end
end Mine
end
section
open PySem PySem.W PyProof.Rows PySem.Calls PySem.Builtin PySem.Builtin.Str
set_option maxRecDepth 100000
set_option maxHeartbeats 1000000
set_option linter.unusedVariables false
namespace Mine
section
variable {w : World} {A : Around} {E : Value → Shared → Prop}
theorem wp_table {prog : Program} {st : Shared} {Q : Mapped → Shared → Prop} {D : Addr} {vs : Array Value} {c : Nat} {x : Str} {t : Tok} (hl : st.heap.IsList D vs) (hx : vs[c]? = some (.str x t)) (hc : c < 256)
    (h : Q (.text x) { st with toks := st.toks + 1 }) : wpAny (model prog w) A (tableLookup (.ref D) c) Q E st := by
  unfold tableLookup
  refine wpAny_bind (wpAny_attempt (wpAny_bind ?_))
  refine wpAny_mkInt ?_
  refine wpAny_getItem_list hl (by omega) (by omega) (by simpa using hx) ?_
  obtain ⟨hp, g, d, tk, os⟩ := st
  dsimp only
  wp_walk
  exact h
theorem lookup_some {x : Nat} {a : Option Nat} : ∀ {l : List (Nat × Option Nat)}, List.lookup x l = some a → (x, a) ∈ l
  | (k, b) :: r, h => by
    rw [List.lookup_cons] at h
    cases e : x == k with
    | true => rw [e] at h; simp at h e; subst h; subst e; exact .head _
    | false => rw [e] at h; exact .tail _ (lookup_some h)
def TrI (T : Tx) (hp : Heap) (g : Array GenState) (d : Drawn) (os : OsState) (rest : List Nat) (b : List Str × Nat × Bool × List (Nat × Option Nat) × Bool) (s' : Shared) : Prop :=
  ∃ done tk', done ++ rest = T ∧ b.1.reverse.foldl (fun acc p => acc ++ p.cps) #[] = (Array.mk (trs done)) ∧ b.2.1 = (trs done).length ∧ (∀ p ∈ b.2.2.2.1, ∃ d, p.2 = some d ∧ tr p.1 = [d]) ∧ b.2.2.2.2 = false ∧ s' = ⟨hp, g, d, tk', os⟩
theorem TrI.more {T : Tx} {hp : Heap} {g : Array GenState} {d : Drawn} {os : OsState} {x : Nat} {rest : List Nat} {ps : List Str} {tot tk' : Nat} {fast : Bool} {known' : List (Nat × Option Nat)} {done : Tx} {p : Str} {n : Nat}
    (e1 : done ++ x :: rest = T) (e2 : ps.reverse.foldl (fun acc p => acc ++ p.cps) #[] = Array.mk (trs done)) (e3 : tot = (trs done).length) (hk : ∀ p ∈ known', ∃ d, p.2 = some d ∧ tr p.1 = [d]) (hp' : p = s (tr x)) (hn : n = (tr x).length) :
    TrI T hp g d os rest (p :: ps, tot + n, fast, known', false) ⟨hp, g, d, tk', os⟩ := by
  have et : trs (done ++ [x]) = trs done ++ tr x := by simp [trs]
  refine ⟨done ++ [x], tk', by rw [← e1]; simp, ?_, ?_, hk, rfl, rfl⟩
  · rw [et]
    simp only [List.reverse_cons, List.foldl_append, List.foldl_cons, List.foldl_nil]
    rw [e2, hp']
    show Array.mk (trs done) ++ Array.mk (tr x) = _
    simp
  · show tot + n = _
    rw [et, e3, hn, List.length_append]
theorem trs_le (T : Tx) : (trs T).length ≤ 3 * T.length := by
  induction T with
  | nil => simp [trs]
  | cons c T ih =>
    have : (tr c).length ≤ 3 := by
      unfold tr; split
      · simp
      · rcases enc_cases c with ⟨e, _⟩ | e <;> rw [e] <;> simp
    simp only [trs, List.flatMap_cons, List.length_append, List.length_cons] at *; omega
theorem short {n : Nat} (h : n ≤ 10000) : tooLong n = false := by
  unfold tooLong
  simp only [decide_eq_false_iff_not]
  have : sizeLine = 16777216 := by rfl
  omega
theorem wp_translate {prog : Program} {st : Shared} {Q : Value → Shared → Prop} {D : Addr} {vs : Array Value} {T : Tx} {t : Tok} (hl : st.heap.IsList D vs) (hx : ∀ c, okT c = true → ∃ u, vs[c]? = some (.str (s (tr c)) u))
    (hok : OkT T) (hn : T ≠ []) (hT : T.length ≤ 1500)
    (h : ∀ t tk, Q (.str (s (trs T)) t) { st with toks := tk }) : wpAny (model prog w) A (Builtin.«str.translate» ⟨[.str (s T) t, .ref D], []⟩) (fun fin s' => ∃ v, fin = .done (.ret v) ∧ Q v s') E st := by
  have hz : ((s T).length == 0) = false := by rw [s_len]; simpa using hn
  obtain ⟨hp, g, d, tk, os⟩ := st
  unfold Builtin.«str.translate»
  wp_walk using wpAny_forIn_array' _ (TrI T hp g d os) _
  case turn =>
    rintro x rest ⟨ps, tot, fast, known, ad⟩ s' ⟨done, tk', e1, e2, e3, hk, rfl, rfl⟩
    have hxm : x ∈ T := by rw [← e1]; simp
    obtain ⟨u, hxu⟩ := hx x (hok x hxm)
    have hx256 : x < 256 := by
      have := hok x hxm
      simp only [okT, Bool.or_eq_true, beq_iff_eq] at this
      rcases this with rfl | q
      · decide
      · rcases okC_cases q with rfl | rfl | rfl | rfl | rfl | rfl | rfl <;> decide
    have hl2 : ∀ tk, (⟨hp, g, d, tk, os⟩ : Shared).heap.IsList D vs := fun _ => hl
    have hdl : done.length ≤ 1500 := by have := congrArg List.length e1; simp at this; omega
    have htl : tooLong tot = false := short (by have := trs_le done; simp only at e3; omega)
    dsimp only at e2 e3 hk ⊢
    rw [htl]
    simp only [Bool.false_eq_true, if_false]
    cases fast with
    | false =>
      simp only [Bool.false_eq_true, if_false]
      refine wpAny_bind (wp_table (hl2 _) hxu hx256 ?_)
      dsimp only
      exact wpAny_pure (TrI.more e1 e2 e3 hk rfl rfl)
    | true =>
      simp only [if_true]
      cases hkx : List.lookup x known with
      | some a =>
        obtain ⟨c, ec, et⟩ := hk _ (lookup_some hkx)
        simp only at ec et
        subst ec
        dsimp only
        refine wpAny_bind (wpAny_pure ?_)
        dsimp only
        exact wpAny_pure (TrI.more e1 e2 e3 hk (by rw [et]; rfl) (by rw [et]; rfl))
      | none =>
        dsimp only
        refine wpAny_bind (wp_table (hl2 _) hxu hx256 ?_)
        dsimp only
        by_cases hc : ((s (tr x)).length == 1 && (s (tr x)).cps.all fun x => decide (x < 128)) = true
        · obtain ⟨c, et⟩ : ∃ c, tr x = [c] := by
            rw [Bool.and_eq_true, beq_iff_eq, s_len] at hc
            exact List.length_eq_one_iff.mp hc.1
          rw [if_pos hc]
          have e0 : (s (tr x)).cps[0]? = some c := by rw [et]; rfl
          rw [e0]
          dsimp only
          refine wpAny_bind (wpAny_pure ?_)
          dsimp only
          refine wpAny_pure (TrI.more e1 e2 e3 ?_ (by rw [et]; rfl) (by rw [et]; rfl))
          intro p hp
          rcases List.mem_cons.mp hp with rfl | hp
          · exact ⟨c, rfl, et⟩
          · exact hk p hp
        · rw [if_neg hc]
          dsimp only
          refine wpAny_bind (wpAny_pure ?_)
          dsimp only
          refine wpAny_bind (wpAny_rule ?_)
          refine wpAny_bind (wp_table (hl2 _) hxu hx256 ?_)
          dsimp only
          exact wpAny_pure (TrI.more e1 e2 e3 hk rfl rfl)
  case fin =>
    rintro ⟨ps, tot, fast, known, ad⟩ s' ⟨done, tk', e1, e2, e3, hk, rfl, rfl⟩
    rw [List.append_nil] at e1
    subst e1
    dsimp only at e2 e3 ⊢
    have htl : tooLong tot = false := short (by have := trs_le done; omega)
    rw [htl, e2]
    simp only [Bool.false_eq_true, if_false]
    have hz2 : (s (trs done)).length ≤ 4500 := by rw [s_len]; have := trs_le done; omega
    have hz3 : ¬ ((⟨⟨trs done⟩⟩ : Str).length > sizeLine) := by
      have : sizeLine = 16777216 := by rfl
      have h4 : (⟨⟨trs done⟩⟩ : Str).length ≤ 4500 := hz2
      omega
    wp_walk
    exact ⟨_, rfl, h _ _⟩
  case h =>
    exact ⟨[], tk, rfl, rfl, rfl, by simp, rfl, rfl⟩
theorem okT_cases {c : Nat} (h : okT c = true) : c = 10 ∨ c = 97 ∨ c = 32 ∨ c = 9 ∨ c = 35 ∨ c = 61 ∨ c = 233 ∨ c = 160 := by
  simp only [okT, okC, Bool.or_eq_true, beq_iff_eq] at h; omega
def tabE : List Value := ((upd (items 256) b15 1459).set 13 (.str (s [13]) 1760)).set 10 (.str (s [10]) 1763)
theorem tabE_at {c : Nat} (h : okT c = true) : ∃ u, tabE.toArray[c]? = some (.str (s (tr c)) u) := by
  rcases okT_cases h with rfl | rfl | rfl | rfl | rfl | rfl | rfl | rfl <;> exact ⟨_, by rfl⟩
theorem translate_call {st : Shared} {Q : Value → Shared → Prop} {T : Tx} {t : Tok} (X : (KF w.params).In st.heap) (hok : OkT T) (hn : T ≠ []) (hT : (s T).length ≤ 1500)
    (h : ∀ t tk, Q (.str (s (trs T)) t) { st with toks := tk }) : wpAny (model PWx w) A (call (.builtin "str.translate") [.str (s T) t, .ref 53]) Q E st := by
  have hl : st.heap.IsList 53 tabE.toArray := ⟨_, X 53 _ rfl, rfl, _, rfl⟩
  exact wpAny_call_entry PySem.F.slot_str_translate (typeIs_str _ _ _) PySem.F.entry_str_translate (wp_translate hl (fun c hc => tabE_at hc) hok hn hT h) (PySem.F.args_str_translate_2 _ _)
theorem translate_method {M : Model} {st : Shared} {T : Tx} {t : Tok} {pl : Sem Bool} {Q : Value × List Value → Shared → Prop} (h : Q (.builtin "str.translate", [.str (s T) t]) st) : wpAny M A (getMethod (.str (s T) t) "translate" pl) Q E st := by
  with_reducible exact GM.of (.str (s T) t) (typeIs_str _ _ _) PySem.F.slot_str_translate PySem.F.type_str_translate GM.noRef h
end
end Mine
end
section
open PySem PySem.W PyProof.Rows PySem.Calls
open Sem (wp)
set_option maxRecDepth 100000
set_option maxHeartbeats 1000000
set_option linter.unusedVariables false
namespace Mine
namespace B
theorem slot_md_get : Slot "method_descriptor" "__get__" "method_descriptor.__get__" :=
  .of (owner := "method_descriptor") (n := "__get__") (by rw [typeLookup_type, builtinLookup_eq_fast]; kernel_rfl) (by decide +kernel) (by decide +kernel) (by decide +kernel)
    (by first | exact .inl (by decide +kernel) | exact .inr (by decide +kernel)) (by rw [isSubtype_type]; kernel_rfl)
theorem lk_md_set : typeLookup (.type "method_descriptor") "__set__" = pure none := by rw [typeLookup_type, builtinLookup_eq_fast]; kernel_rfl
theorem lk_md_delete : typeLookup (.type "method_descriptor") "__delete__" = pure none := by rw [typeLookup_type, builtinLookup_eq_fast]; kernel_rfl
theorem entry_md_get : entryFor table "method_descriptor.__get__" = some Builtin.«method_descriptor.__get__» := entryFor_of_tree (by kernel_rfl)
theorem args_md_get (a b c : Value) : argsOk "method_descriptor.__get__" ⟨[a, b, c], []⟩ := by unfold argsOk; kernel_rfl
theorem lk_list_append : typeLookup (.type "list") "append" = pure (some (.builtin "list.append")) := by rw [typeLookup_type, builtinLookup_eq_fast]; kernel_rfl
theorem ty_append : typeOf (.builtin "list.append") = pure (.type "method_descriptor") := by show builtinType _ = _; rw [builtinType_eq_fast]; kernel_rfl
theorem own_append : (".".intercalate ("list.append".cutAt '.').dropLast) = "list" := by
  have e0 : "list.append".cutAt '.' = ["list", "append"] := by first | rfl | decide +kernel
  rw [e0]; decide +kernel
theorem sub_list_own : isSubtype (.type "list") (.type (".".intercalate ("list.append".cutAt '.').dropLast)) = pure true := by
  rw [own_append, isSubtype_type]; kernel_rfl
theorem told_append : PySem.Manifest.toldItsClass.contains "list.append" = false := by decide +kernel
end B
section
variable {prog : Program} {w : World} {A : Around} {E : Value → Shared → Prop} {h : Heap} {g : Array GenState} {d : Drawn} {t : Nat} {os : OsState} {a : Addr} {o : Obj}
abbrev boundO (f o : Value) : Obj := { cls := .type "builtin_function_or_method", data := .fields #[f, o] }
theorem app_get {R : Result → Shared → Prop} (hx : h.get? a = some o) (hc : o.cls = .type "list") (hq : R (.ok (.ret (.ref h.objs.size))) ⟨h.push (boundO (.builtin "list.append") (.ref a)), g, d, t, os⟩) :
    codeAny (model prog w) A (.call (.builtin "method_descriptor.__get__") ⟨[.builtin "list.append", .ref a, .type "list"], []⟩) R ⟨h, g, d, t, os⟩ := by
  have hT : (⟨h, g, d, t, os⟩ : Shared).TypeIs (.ref a) "list" := ⟨_, hx, hc⟩
  have hT5 : (⟨h, g, d, t, os⟩ : Shared).TypeIs (.builtin "list.append") "method_descriptor" := B.ty_append
  have f8 := B.sub_list_own
  have f9 := B.told_append
  refine codeAny_call_builtin B.slot_md_get.plain B.entry_md_get (B.slot_md_get.check _ _ _ _ _ _ _ _ hT5 (B.args_md_get _ _ _) ?_)
  repeat (any_goals (first | assumption | wp_step))
end
end Mine
end
section
open PySem PySem.W PyProof.Rows PySem.Calls
open Sem (wp)
set_option maxRecDepth 100000
set_option maxHeartbeats 1000000
set_option linter.unusedVariables false
namespace Mine
section
variable {prog : Program} {w : World} {A : Around} {E : Value → Shared → Prop} {h : Heap} {g : Array GenState} {d : Drawn} {t : Nat} {os : OsState} {a : Addr} {o : Obj}
theorem app_entry {tk : Tok} {items : Array Value} {n : Nat} {Q : Fin → Shared → Prop} (hx : h.get? a = some { cls := .type "list", data := .seq items n })
    (hq : Q (.done (.ret (.ref h.objs.size))) ⟨h.push (boundO (.builtin "list.append") (.ref a)), g, d, t, os⟩) :
    wpAny (model prog w) A (Builtin.«object.__getattribute__» ⟨[.ref a, .str "append" tk], []⟩) Q E ⟨h, g, d, t, os⟩ := by
  have hT : (⟨h, g, d, t, os⟩ : Shared).TypeIs (.ref a) "list" := ⟨_, hx, rfl⟩
  have hT5 : (⟨h, g, d, t, os⟩ : Shared).TypeIs (.builtin "list.append") "method_descriptor" := B.ty_append
  have f4 := B.lk_list_append
  have f5 := B.ty_append
  have f6 := B.slot_md_get.lookup
  have f7 := B.lk_md_set
  have f8 := B.lk_md_delete
  repeat (any_goals (first | assumption | wp_step))
  refine app_get hx rfl ?_
  repeat (any_goals (first | assumption | wp_step))
theorem app_attr {items : Array Value} {n : Nat} {Q : Value → Shared → Prop} (hx : h.get? a = some { cls := .type "list", data := .seq items n })
    (hq : Q (.ref h.objs.size) ⟨h.push (boundO (.builtin "list.append") (.ref a)), g, d, t + 1, os⟩) : wpAny (model prog w) A (getAttr (.ref a) "append" true) Q E ⟨h, g, d, t, os⟩ := by
  have hT : (⟨h, g, d, t, os⟩ : Shared).TypeIs (.ref a) "list" := ⟨_, hx, rfl⟩
  have hT1 : (⟨h, g, d, t + 1, os⟩ : Shared).TypeIs (.ref a) "list" := ⟨_, hx, rfl⟩
  have f2 := F.slot_list_getattribute.lookup
  have f3 := F.slot_list_getattribute.bind (.ref a)
  unfold getAttr
  repeat (any_goals (first | assumption | wp_step))
  refine codeAny_call_builtin F.slot_list_getattribute.plain F.entry_list_ga (F.slot_list_getattribute.check _ _ _ _ _ _ _ _ hT1 (F.args_list_getattribute_2 _ _) (app_entry hx ?_))
  repeat (any_goals (first | assumption | wp_step))
end
end Mine
end
section
open PySem PySem.W PyProof.Rows PySem.Calls
open Sem (wp)
set_option maxRecDepth 100000
set_option maxHeartbeats 1000000
set_option linter.unusedVariables false
namespace Mine
namespace B
theorem sig_append : ∃ sig, PySem.Manifest.signature? "list.append" = some sig ∧ ∀ a b, Bind.checkArgs "list.append" { sig with full := s!"{Bind.lastOf "list"}.{Bind.lastOf "list.append"}" } ⟨[a, b], []⟩ = pure () := by
  refine ⟨_, signature?_of (id := "list.append") (n := ['d', 'n', 'e', 'p', 'p', 'a']) (o := ['t', 's', 'i', 'l']) (by kernel_rfl) F.owner_list, fun a b => ?_⟩
  kernel_rfl
theorem sub_list_module : isSubtype (.type "list") (.type "module") = pure false := by rw [isSubtype_type]; kernel_rfl
theorem sub_list_type : isSubtype (.type "list") (.type "type") = pure false := by rw [isSubtype_type]; kernel_rfl
theorem kind_append : builtinKind "list.append" = some .method := by decide +kernel
theorem var_append : PySem.Manifest.varargsMethods.contains "list.append" = false := by decide +kernel
end B
section
variable {prog : Program} {w : World} {A : Around} {E : Value → Shared → Prop} {st : Shared}
def AppAt (q D : Addr) (h : Heap) : Prop := h.get? q = some (boundO (.builtin "list.append") (.ref D))
theorem callWith_flds {M : Model} {pos : Pos} {u D : Addr} {args : List (Bool × Sem Value)} {Q : Value → Shared → Prop} (hplain : args.any (·.1) = false)
    (h : wpAny M A (evalArgs (.ref u) true args []) (fun x s₁ => AppAt u D s₁.heap ∧ wpAny M A (call (.ref u) ([] ++ x.pos) x.kw) Q E s₁) E st) : wpAny M A (callWith pos (.ref u) [] args []) Q E st := by
  unfold callWith
  refine wpAny_bind (wpAny_holding (wpAny_mono h (fun x s₁ h₁ => wpAny_bind (wpAny_standAt ?_)) fun _ _ x => x))
  obtain ⟨ho, hcall⟩ := h₁
  simp only [hplain, List.any_nil, Bool.or_false]
  refine wpAny_bind (m := keeperOf (.ref u)) ?_
  unfold keeperOf
  refine wpAny_bind (wpAny_load ho ?_)
  simp only [boundO, show (Value.type "builtin_function_or_method" != Value.type "method") = true by decide, show (Value.type "builtin_function_or_method" == Value.type "builtin_function_or_method" || Value.type "builtin_function_or_method" == Value.type "method-wrapper") = true by decide, if_true]
  refine wpAny_pure ?_
  exact wpAny_bind (wpAny_mono hcall (fun r s₂ hr => wpAny_bind (wpAny_holding (wpAny_point (wpAny_pure hr)))) fun _ _ x => x)
theorem callWith_app {M : Model} {pos : Pos} {u : Addr} {env : Env} {e : PySem.Expr} {rest : List PySem.Expr} {Q : Value → Shared → Prop}
    (D : Addr) (h : wpAny M A (spliced (backTo pos (starEach (e :: rest) env))) (fun vs s₁ => AppAt u D s₁.heap ∧ wpAny M A (call (.ref u) ([] ++ vs)) Q E s₁) E st)
    (he : starEach (e :: rest) env = (false, eval e env) :: starEach rest env := by rfl) (hplain : (backTo pos (starEach rest env)).any (·.1) = false := by rfl) :
    wpAny M A (callWith pos (.ref u) [] (backTo pos (starEach (e :: rest) env)) []) Q E st := by
  rw [he] at h ⊢
  refine callWith_flds (D := D) (by show (false || (backTo pos (starEach rest env)).any (·.1)) = false; rw [hplain]; rfl) ?_
  exact evalArgs_plain h
theorem quiet_append {args : Args} : (Code.builtin "list.append" args).quiet = true := Code.quiet_builtin _ (by decide +kernel)
theorem check_append {D : Addr} {x : Value} {its : Array Value} {n : Nat} {Q : Unit → Shared → Prop} (hD : st.heap.get? D = some { cls := .type "list", data := .seq its n }) (h : Q () st) :
    wpAny (model prog w) A (checkBoundCall "list.append" ⟨[.ref D, x], []⟩) Q E st := by
  obtain ⟨sig, e1, e2⟩ := B.sig_append
  have hT : st.TypeIs (.ref D) "list" := ⟨_, hD, rfl⟩
  unfold checkBoundCall
  rw [e1, B.kind_append]
  dsimp only
  obtain ⟨hp, g, d, tk, os⟩ := st
  have f1 := B.var_append
  have f2 := B.sub_list_module
  have f3 := B.sub_list_type
  repeat (any_goals (first | assumption | (with_reducible refine wpAny_of_eq (a := ()) (e2 _ _) ?_) | wp_step))
theorem call_app {u D : Addr} {x : Value} {its : List Value} {n : Nat} {Q : Value → Shared → Prop} (hu : AppAt u D st.heap) (hD : st.heap.get? D = some { cls := .type "list", data := .seq its.toArray n })
    (hsz : its.length ≤ 10000) (h : ∀ h', Heap.SameBut D st.heap h' → h'.get? D = some { cls := .type "list", data := .seq (its ++ [x]).toArray (n + 1) } → Q .none { st with heap := h' }) :
    wpAny (model prog w) A (call (.ref u) [x]) Q E st := by
  refine wpAny_call (codeAny_of_tree ?_)
  show wpAny _ A.in1 (callAny (.ref u) ⟨[x], []⟩) _ _ st
  simp only [callAny]
  refine wpAny_bind (wpAny_load hu ?_)
  simp only [boundO, show (Value.type "builtin_function_or_method" == Value.type "method" || Value.type "builtin_function_or_method" == Value.type "builtin_function_or_method" || Value.type "builtin_function_or_method" == Value.type "method-wrapper") = true by decide, if_true]
  refine wpAny_ite_true (show (Value.type "builtin_function_or_method" != Value.type "method") = true by decide) ?_
  refine wpAny_bind (check_append hD ?_)
  refine wpAny_bind (wpAny_pure (wpAny_pure ?_))
  refine ⟨quiet_append, codeAny_builtin entry_list_append ?_⟩
  show wpAny _ _ (updateSeq D (·.push x) >>= fun _ => ret .none) _ _ st
  have hsz2 : its.toArray.size ≤ sizeLine := by simp; exact Nat.le_trans hsz (show 10000 ≤ sizeLine by decide)
  refine wpAny_bind (wpAny_updateSeq hD rfl (wpAny_pure (h _ (Heap.SameBut.update ..) ?_)))
  rw [Heap.get?_update_self _ hD (by rw [mapSeq_push]; rfl), mapSeq_push]
  simp
theorem app_attrN {h₀ : Heap} {L D : Addr} {m : Str → Option Value} {nw : List (Addr × Obj)} {its : Array Value} {n : Nat} {Q : Value → Shared → Prop} (F : Fr h₀ L st.heap m) (N : News h₀ L st.heap nw) (hm : (D, ({ cls := .type "list", data := .seq its n } : Obj)) ∈ nw)
    (h : ∀ B h', Fr h₀ L h' m → News h₀ L h' ((B, boundO (.builtin "list.append") (.ref D)) :: nw) → (∀ p ∈ nw, p.1 ≠ B) → Q (.ref B) { st with heap := h', toks := st.toks + 1 }) : wpAny (model prog w) A (getAttr (.ref D) "append" true) Q E st := by
  obtain ⟨hp, g, d, tk, os⟩ := st
  exact app_attr (N.get hm) (h _ _ (F.push _) (N.push F _) fun p hp e => by have := Heap.lt_size (N p hp).1; rw [e] at this; exact Nat.lt_irrefl _ this)
end
end Mine
end
section
open PySem PySem.W PyProof.Rows PySem.Calls
set_option maxRecDepth 100000
set_option maxHeartbeats 1000000
set_option linter.unusedVariables false
namespace Mine
/-! plain: sizes -/
theorem wr_len (p : Row) : (written p).length ≤ 3 * p.1.length + 3 := by
  obtain ⟨l, b⟩ := p
  have h1 := encs_le l
  have h2 := encs_le l.dropLast
  rw [List.length_dropLast] at h2
  unfold written
  simp only
  split
  · simp; omega
  · split
    · split
      · rename_i c _ hw
        have : (q2 c).length = 3 := by unfold q2; split <;> rfl
        simp; omega
      · omega
    · omega
def wsum (t : List Tx) : Nat := (t.map (fun a => a.length + 1)).sum
theorem wsum_cons (a : Tx) (t : List Tx) : wsum (a :: t) = a.length + 1 + wsum t := by simp [wsum]
theorem wsum_nil : wsum [] = 0 := rfl
theorem wsum_app (a b : List Tx) : wsum (a ++ b) = wsum a + wsum b := by simp [wsum]
theorem last_sum (w : Nat) (r : Tx) : wsum ((lastRows w r).map written) ≤ 7 * r.length + 8 := by
  unfold lastRows
  split
  · have h1 := wr_len (r.dropLast, true)
    have h2 := wr_len (r.drop (r.length - 1), false)
    simp only [List.map_cons, List.map_nil, wsum_cons, wsum_nil, List.length_dropLast, List.length_drop] at *
    rename_i hq
    have : r ≠ [] := by rintro rfl; simp [endW] at hq
    have : 0 < r.length := List.length_pos_iff.mpr this
    omega
  · split
    · have h1 := wr_len (r, true)
      have h2 := wr_len ([], false)
      simp only [List.map_cons, List.map_nil, wsum_cons, wsum_nil, List.length_nil] at *
      omega
    · have h1 := wr_len (r, false)
      simp only [List.map_cons, List.map_nil, wsum_cons, wsum_nil] at *
      omega
theorem fit_le : ∀ (w u : Nat) (r : Tx), fit w u r ≤ r.length
  | _, _, [] => by simp [fit]
  | w, u, c :: r => by
    rw [fit]; split
    · have := fit_le w (u + (enc c).length) r
      simp; omega
    · simp
theorem rows_sum (w : Nat) (r : Tx) : wsum ((rows w r).map written) ≤ 7 * r.length + 8 := by
  induction r using rows.induct (w := w) with
  | case1 r h ih =>
    rw [rows, dif_pos h, List.map_cons, wsum_cons]
    have h1 := encs_le (r.take (fit w 0 r))
    have e : written (r.take (fit w 0 r), true) = encs (r.take (fit w 0 r)) ++ [61] := rfl
    rw [e]
    rw [List.length_drop] at ih
    rw [List.length_take] at h1
    have : fit w 0 r ≤ r.length := by
      exact fit_le w 0 r
    simp only [List.length_append, List.length_singleton]
    omega
  | case2 r h => rw [rows, dif_neg h]; exact last_sum w r
theorem body_len {w : Nat} {T : Tx} : (bodyOf w T).length ≤ 8 * (T.length + 1) := by
  have h := jn_len (due w T) (due_ne w T)
  have h2 := jn_len (lns T) (lns_ne T)
  rw [jn_lns] at h2
  have : ∀ t : List Tx, wsum ((t.flatMap (rows w)).map written) ≤ 8 * wsum t := by
    intro t; induction t with
    | nil => simp [wsum]
    | cons a t ih =>
      rw [List.flatMap_cons, List.map_append, wsum_app, wsum_cons]
      have := rows_sum w a
      omega
  have h3 := this (lns T)
  unfold bodyOf
  have h4 : wsum (due w T) = (jn (due w T)).length + 1 := h
  have h5 : wsum (lns T) = T.length + 1 := h2
  have h6 : wsum (due w T) ≤ 8 * wsum (lns T) := h3
  omega
/-! plain: groups -/
theorem adv {E r : Tx} {start k : Nat} (hd : E.drop start = encs r) (hl : start + (encs r).length = E.length) :
    E.drop (start + (encs (r.take k)).length) = encs (r.drop k) ∧ start + (encs (r.take k)).length + (encs (r.drop k)).length = E.length := by
  have he : encs r = encs (r.take k) ++ encs (r.drop k) := by rw [← encs_append, List.take_append_drop]
  constructor
  · rw [← List.drop_drop, hd, he, List.drop_left]
  · have := congrArg List.length he
    rw [List.length_append] at this
    omega
theorem G_soft {G : List (List Tx)} {tot : List Tx} {p : Row} {rs rs' : List Row} (h : G.flatten ++ rs.map written = tot) (hr : rs = p :: rs') : (G ++ [[written p]]).flatten ++ rs'.map written = tot := by
  subst hr; rw [← h]; simp
theorem G_map {G : List (List Tx)} {g : List Tx} : ((G ++ [g]).map jn).map s = (G.map jn).map s ++ [s (jn g)] := by simp
theorem strs_snoc {vs : List Value} {ys : List Str} {x y : Str} {t : Tok} (h : StrsAre vs ys) (e : x = y) : StrsAre (vs ++ [.str x t]) (ys ++ [y]) := by
  subst e; exact StrsAre.append' h (.cons _ _ .nil)
theorem last_suffix {E r : Tx} {start : Nat} (hd : E.drop start = encs r) (hn : r ≠ []) : E.getLast? = (encs r).getLast? := by
  have hne : encs r ≠ [] := fun q => hn (encs_nil.mp q)
  have e : E = E.take start ++ encs r := by rw [← hd, List.take_append_drop]
  rw [e, List.getLast?_append]
  cases q : (encs r).getLast? with
  | none => exact absurd (List.getLast?_eq_none_iff.mp q) hne
  | some c => simp
theorem enc_lastW {r : Tx} {c : Nat} (h : (encs r).getLast? = some c) : (isW c = true → ∃ a, r = a ++ [c]) ∧ (isW c = false → endW r = false) := by
  rcases list_snoc_cases r with rfl | ⟨a, d, rfl⟩
  · simp [encs] at h
  · rw [encs_snoc, List.getLast?_append] at h
    have hexW : ∀ n, isW (hexd n) = false := fun n => by have := hexd_ge n; simp [isW]; omega
    rcases enc_cases d with ⟨e, _⟩ | e
    · rw [e] at h; simp at h; subst h
      exact ⟨fun _ => ⟨a, rfl⟩, fun q => by rw [endW_snoc]; exact q⟩
    · rw [e] at h; simp at h; subst h
      have hd : isW d = false := by
        cases q : isW d with
        | false => rfl
        | true => have := isW_enc q; rw [this] at e; simp at e
      exact ⟨fun q => absurd q (by rw [hexW]; simp), fun _ => by rw [endW_snoc]; exact hd⟩
theorem trs_lb {T : Tx} (h : OkT T) {c : Nat} (hc : c ∈ trs T) (hl : PySem.Unicode.isLineBreak c = true) : c = 10 := by
  have H : PySem.Unicode.isLineBreak 97 = false ∧ PySem.Unicode.isLineBreak 32 = false ∧ PySem.Unicode.isLineBreak 9 = false ∧ PySem.Unicode.isLineBreak 35 = false ∧ PySem.Unicode.isLineBreak 61 = false ∧ PySem.Unicode.isLineBreak 51 = false ∧ PySem.Unicode.isLineBreak 68 = false ∧ PySem.Unicode.isLineBreak 69 = false ∧ PySem.Unicode.isLineBreak 57 = false ∧ PySem.Unicode.isLineBreak 65 = false ∧ PySem.Unicode.isLineBreak 48 = false := by decide +kernel
  obtain ⟨d, hd, hm⟩ := List.mem_flatMap.mp hc
  rcases okT_cases (h d hd) with rfl | rfl | rfl | rfl | rfl | rfl | rfl | rfl
  · have e : tr 10 = [10] := rfl
    rw [e] at hm; simpa using hm
  all_goals
    simp [tr, enc, isP, hexd] at hm
    rcases hm with rfl | rfl | rfl <;> simp [H] at hl
section
variable {w : World} {A : Around} {E : Value → Shared → Prop} {st : Shared} {h₀ : Heap}
theorem app_step {L B D : Addr} {m : Str → Option Value} {nw : List (Addr × Obj)} {vs : List Value} {k : Nat} {x : Value} {Q : Value → Shared → Prop}
    (F : Fr h₀ L st.heap m) (N : News h₀ L st.heap nw) (hB : (B, boundO (.builtin "list.append") (.ref D)) ∈ nw) (hD : (D, lo vs.toArray k) ∈ nw) (hsz : vs.length ≤ 10000)
    (h : ∀ h', Fr h₀ L h' m → (∀ nw', (∀ p ∈ nw', p = (D, lo (vs ++ [x]).toArray (k + 1)) ∨ (p.1 ≠ D ∧ p ∈ nw)) → News h₀ L h' nw') → Q .none { st with heap := h' }) :
    wpAny (model PWx w) A (call (.ref B) [x]) Q E st := by
  refine call_app (N.get hB) (N.get hD) hsz (fun h' hs ho => h h' (F.change hs (N _ hD).2.1 (N _ hD).2.2) ?_)
  intro nw' hk p hp
  rcases hk p hp with rfl | ⟨hne, hm⟩
  · exact ⟨ho, (N _ hD).2⟩
  · exact ⟨(hs.2 p.1 hne).trans (N p hm).1, (N p hm).2⟩
end
end Mine
end
section
open PySem PySem.W PyProof.Rows PySem.Calls
set_option maxRecDepth 100000
set_option maxHeartbeats 4000000
set_option linter.unusedVariables false
namespace Mine
section
variable {w : World} {mg mb : Str → Option Value} {lo : List Str}
theorem eqT {x : Str} {c d : Nat} (e : x = s [d]) (h : (s [c] == x) = true) : c = d := by
  subst e; simpa [s_inj] using h
theorem eqF {x : Str} {c d : Nat} (e : x = s [d]) (h : (s [c] == x) = false) : c ≠ d := by
  subst e; intro q; subst q; simp at h
theorem mBm {own : List (Addr × Obj)} {d b : Addr × Obj} : b ∈ own ++ [d, b] := by simp
theorem mDm {own : List (Addr × Obj)} {d b : Addr × Obj} : d ∈ own ++ [d, b] := by simp
theorem mem_upd {own : List (Addr × Obj)} {D B : Addr} {o o' b : Obj} (hown : ∀ p ∈ own, p.1 ≠ D) (hDB : D ≠ B) : ∀ p ∈ own ++ [(D, o'), (B, b)], p = (D, o') ∨ (p.1 ≠ D ∧ p ∈ own ++ [(D, o), (B, b)]) := by
  intro p hp
  rcases List.mem_append.mp hp with hp | hp
  · exact .inr ⟨hown p hp, List.mem_append_left _ hp⟩
  · rcases List.mem_cons.mp hp with rfl | hp
    · exact .inl rfl
    · rcases List.mem_singleton.mp hp with rfl
      exact .inr ⟨fun e => hDB e.symm, by simp⟩
theorem join_size {P : List Tx} (h : (jn P).length ≤ 10000) : ((P.map s).map (·.length)).sum + (P.map s).length * (s [10]).length ≤ 16777216 := by
  have e : ((P.map s).map (·.length)).sum + (P.map s).length * (s [10]).length = wsum P := by
    rw [show (s [10]).length = 1 from rfl, Nat.mul_one]
    clear h
    induction P with
    | nil => rfl
    | cons a P ih => rw [wsum_cons, ← ih]; simp only [List.map_cons, List.sum_cons, List.length_cons, s_len]; omega
  rw [e]
  by_cases hP : P = []
  · subst hP; simp [wsum]
  · have := jn_len P hP
    unfold wsum; omega
theorem lit_soft : Str.ofString "=\n" = s [61, 10] := by decide +kernel
theorem encode_spec {A : Around} {st : Shared} {T : Tx} {wd : Nat} {t u : Tok} {Q : Value → Shared → Prop} {E : Value → Shared → Prop}
    (X : (KF w.params).In st.heap) (Tr : TopRead Qv lo mg mb st.heap) (hroom : A.depth < 980) (hh : A.handled = none) (hx : (s T).length ≤ 1000) (hok : OkT T) (hw : 4 ≤ wd ∧ wd ≤ 100)
    (h : ∀ t h' tk, Kp st.heap h' → Q (.str (s (bodyOf wd T)) t) { st with heap := h', toks := tk }) : wpAny (model PWx w) A (call (.ref 64) [.str (s T) t, .int wd u]) Q E st := by
  refine wpAny_call (enter (binds := [(Str.ofString "body", .str (s T) t), (Str.ofString "maxlinelen", .int wd u), (Str.ofString "eol", .str (s [10]) 198)]) X Tr (Nat.lt_trans hroom (by decide)) (by rfl) (by rfl) (BindsTo.of_defaults rfl (X 57 _ rfl) rfl rfl rfl) (locs (by rfl)) (by decide) ?_)
  intro h₁ L hL F
  have N : News st.heap L h₁ [] := News.nil
  repeat' ((fail_if_success (with_reducible show wpAny _ _ (PySem.exec (.For _ _ _ _ _) _) _ _ _)); walk1)
  · have hT := lenN ‹(_ : Int) ≠ 0›
    refine translate_method ?_
    repeat' ((fail_if_success (with_reducible show wpAny _ _ (PySem.exec (.For _ _ _ _ _) _) _ _ _)); walk1)
    refine translate_call (X.keeps (Fr.keep (by assumption))) hok hT (Nat.le_trans hx (by decide)) (fun t1 tk1 => ?_)
    have hTl : T.length ≤ 1000 := hx
    have hx1 : (s (trs T)).length ≤ 3000 := by rw [s_len]; have := trs_le T; omega
    dsimp only
    repeat' ((fail_if_success (with_reducible show wpAny _ _ (PySem.exec (.For _ _ _ _ _) _) _ _ _)); walk1)
    rename_i D _ _ _ F1 N1
    refine app_attrN F1 N1 (.head _) (fun B hB F2 N2 hBD => ?_)
    clear F1 N1
    dsimp only
    repeat' ((fail_if_success (with_reducible show wpAny _ _ (PySem.exec (.For _ _ _ _ _) _) _ _ _)); walk1)
    have hDB : D ≠ B := hBD _ (.head _)
    refine ForL (h₀ := st.heap) hh (by rfl) (by rfl) ?_
    repeat' ((fail_if_success (with_reducible show Exists _)); walk1)
    rename (List.map _ _ = Txt.lines _) => hlines
    rw [s_lines (fun c hc h => trs_lb hok hc h)] at hlines
    rename Heap.IsList _ _ _ => hl
    rename Fr _ _ _ (fun y => if y = _ then _ else _) => F4
    rename List (Str × Tok) => ll
    rename News _ _ _ _ => N4
    revert N4
    rename News _ _ _ _ => N3
    intro N4
    have hDa := Nat.ne_of_lt (Heap.lt_size (N3.get (.tail _ (.head _))))
    have hDI := Nat.ne_of_lt (Heap.lt_size (N4.get (.tail _ (.tail _ (.head _)))))
    have hBI := Nat.ne_of_lt (Heap.lt_size (N4.get (.tail _ (.head _))))
    refine ⟨_, _, _, _, fun k m nw => ∃ (G : List (List Tx)) (vs : List Value) (kk : Nat) (x1 x2 x3 : Tok), nw = [(D, Mine.lo vs.toArray kk), (B, boundO (.builtin "list.append") (.ref D))] ∧
      m (Str.ofString "append") = some (.ref B) ∧ m (Str.ofString "encoded_body") = some (.ref D) ∧ m (Str.ofString "maxlinelen") = some (.int wd u) ∧ m (Str.ofString "maxlinelen1") = some (.int (wd - 1) x1) ∧ m (Str.ofString "soft_break") = some (.str (s [61, 10]) x2) ∧
      m (Str.ofString "eol") = some (.str (s [10]) 198) ∧ m (Str.ofString "body") = some (.str (s (trs T)) x3) ∧
      StrsAre vs ((G.map jn).map s) ∧ (∀ g ∈ G, g ≠ []) ∧ G.flatten = (((slns T).take k).flatMap (rows wd)).map written ∧ vs.length + wsum ((slns T).drop k) ≤ 1001, rfl, hl, F4, News.pick N4 (nw' := [(D, Mine.lo #[] 0), (B, boundO (.builtin "list.append") (.ref D))]) (by intro p hp; simp at hp; rcases hp with rfl | rfl; exact .tail _ (.tail _ (.head _)); exact .tail _ (.head _)), Fr.le F4, (N4 _ (.head _)).2.1,
      ⟨[], [], 0, _, _, _, rfl, rfl, rfl, rfl, rfl, by rw [← lit_soft]; rfl, rfl, rfl, .nil, by simp, by simp, ?_⟩, ?_, ?_⟩
    · have := slns_sum T; simp only [List.length_nil, List.drop_zero]; unfold wsum; omega
    · rintro i v m₁ nw₁ own h₂ tk₂ hv ⟨G, vs, kk, x1, x2, x3, rfl, q1, q2, q3, q4, q5, q6, q7, hS, hG, hf, hlen⟩ hown hnw F5 N5
      obtain ⟨b, ub, hb, rfl⟩ := lines_at hlines hv
      rw [slns_trs, List.getElem?_map] at hb
      obtain ⟨a, ha, rfl⟩ := Option.map_eq_some_iff.mp hb
      have hdr := drop_at ha
      have hown' : ∀ p ∈ own, p.1 ≠ D := by
        intro p hp e
        rcases hown p hp with q | q
        · exact hDI (e.symm.trans q)
        · exact hDa (e.symm.trans q)
      have F6 : Fr st.heap L h₂ _ := knowU [(Str.ofString "append", .ref B), (Str.ofString "encoded_body", .ref D), (Str.ofString "maxlinelen", .int wd u), (Str.ofString "maxlinelen1", .int (wd - 1) x1), (Str.ofString "soft_break", .str (s [61, 10]) x2), (Str.ofString "eol", .str (s [10]) 198), (Str.ofString "body", .str (s (trs T)) x3)] F5 (by simp [q1, q2, q3, q4, q5, q6, q7])
      simp only [lookO] at F6
      have N6 : News st.heap L h₂ (own ++ [(D, Mine.lo vs.toArray kk), (B, boundO (.builtin "list.append") (.ref D))]) := N5
      have hEl : (s (encs a)).length = (encs a).length := rfl
      have hal := slns_mem_len (List.mem_of_getElem? ha)
      have hE3 : (s (encs a)).length ≤ 3000 := by rw [s_len]; have := encs_le a; omega
      rw [hdr, wsum_cons] at hlen
      have htot : G.flatten ++ (rows wd a).map written = (((slns T).take (i + 1)).flatMap (rows wd)).map written := by
        rw [hf, List.take_add_one, ha]; simp
      generalize hTOT : (((slns T).take (i + 1)).flatMap (rows wd)).map written = tot at htot
      clear F5 N5 F4 N4 N3
      repeat' ((fail_if_success (with_reducible show wpAny _ _ (PySem.exec (.While _ _ _ _) _) _ _ _)); walk1)
      rename Fr _ _ _ _ => G1
      rename News _ _ _ _ => M1
      refine While_inv (n₀ := a.length) (J := fun n m nw => ∃ (r : Tx) (G : List (List Tx)) (vs : List Value) (kk start : Nat), nw = own ++ [(D, Mine.lo vs.toArray kk), (B, boundO (.builtin "list.append") (.ref D))] ∧
        IsI (m (Str.ofString "start")) start ∧ IsI (m (Str.ofString "laststart")) ((encs a).length - 1 - wd) ∧ IsS (m (Str.ofString "line")) (encs a) ∧
        m (Str.ofString "append") = some (.ref B) ∧ m (Str.ofString "encoded_body") = some (.ref D) ∧ m (Str.ofString "maxlinelen") = some (.int wd u) ∧ m (Str.ofString "maxlinelen1") = some (.int (wd - 1) x1) ∧ m (Str.ofString "soft_break") = some (.str (s [61, 10]) x2) ∧
        m (Str.ofString "eol") = some (.str (s [10]) 198) ∧ m (Str.ofString "body") = some (.str (s (trs T)) x3) ∧
        (encs a).drop start = encs r ∧ start + (encs r).length = (encs a).length ∧ (r = [] → a = []) ∧ r.length = n ∧
        StrsAre vs ((G.map jn).map s) ∧ (∀ g ∈ G, g ≠ []) ∧ G.flatten ++ (rows wd r).map written = tot ∧ vs.length + (r.length + 1 + wsum ((slns T).drop (i + 1))) ≤ 1001) G1 M1
        ⟨a, G, vs, kk, 0, rfl, IsI.mk rfl, IsI.mk (by rw [s_len]), ⟨_, rfl⟩, rfl, rfl, rfl, rfl, rfl, rfl, rfl, by simp, by simp, id, rfl, hS, hG, htot, hlen⟩ ?_ (fun _ _ x => x.elim)
      rintro n m₂ nw h₃ tk₃ G2 M2 ⟨r, G, vs, kk, start, rfl, ⟨y1, p1⟩, ⟨y2, p2⟩, ⟨y3, p3⟩, q1, q2, q3, q4, q5, q6, q7, hd, hl9, hra, hrn, hS, hG, htot, hlen⟩
      have G3 := knowL [(Str.ofString "start", .int start y1), (Str.ofString "laststart", .int ((encs a).length - 1 - wd) y2), (Str.ofString "line", .str (s (encs a)) y3), (Str.ofString "append", .ref B), (Str.ofString "encoded_body", .ref D), (Str.ofString "maxlinelen", .int wd u), (Str.ofString "maxlinelen1", .int (wd - 1) x1), (Str.ofString "soft_break", .str (s [61, 10]) x2), (Str.ofString "eol", .str (s [10]) 198), (Str.ofString "body", .str (s (trs T)) x3)] G2 (by simp [p1, p2, p3, q1, q2, q3, q4, q5, q6, q7])
      simp only [lookO] at G3
      have hst : start ≤ 3000 := by have : (encs a).length ≤ 3000 := hE3; omega
      have hvl : vs.length ≤ 10000 := by omega
      clear G1 M1 G2
      iterate 6 walk1
      · rename ((_ : Int) ≤ _) => hle
        have hgt : wd < (encs r).length := by omega
        have hS2 := hw
        obtain ⟨hk0, hkr, hrw, he, hcases⟩ := row_step hw.1 hgt
        obtain ⟨ad1, ad2⟩ := adv (k := fit wd 0 r) hd hl9
        have hidx : ∀ j, (encs a)[start + j]? = (encs r)[j]? := fun j => by rw [← hd, List.getElem?_drop]
        have hpc : ∀ j, j ≤ (encs r).length → Txt.slice (s (encs a)) (some (start : Int)) (some ((start + j : Nat) : Int)) = s ((encs r).take j) := fun j hj => by
          rw [s_slice_ss, clip_nat (by omega), clip_nat (by omega), List.drop_take, hd, show start + j - start = j by omega]
        have hGs := G_soft htot hrw
        obtain ⟨c3, hc3⟩ := get_of (show wd - 3 < (encs r).length by omega)
        obtain ⟨c2, hc2⟩ := get_of (show wd - 2 < (encs r).length by omega)
        have e3 : Txt.item (s (encs a)) ((start : Int) + ((wd : Int) - 1) - 2) = s [c3] := by
          have : ((start : Int) + ((wd : Int) - 1) - 2) = ((start + (wd - 3) : Nat) : Int) := by omega
          rw [this]; exact s_item (by omega) (by rw [Int.toNat_natCast, hidx]; exact hc3)
        have e2 : Txt.item (s (encs a)) ((start : Int) + ((wd : Int) - 1) - 1) = s [c2] := by
          have : ((start : Int) + ((wd : Int) - 1) - 1) = ((start + (wd - 2) : Nat) : Int) := by omega
          rw [this]; exact s_item (by omega) (by rw [Int.toNat_natCast, hidx]; exact hc2)
        rw [hc3, hc2] at hcases
        have ewr : written (r.take (fit wd 0 r), true) = encs (r.take (fit wd 0 r)) ++ [61] := rfl
        repeat' ((fail_if_success (with_reducible show wpAny _ _ (callWith _ (Value.ref B) _ _ _) _ _ _)); (fail_if_success (with_reducible show AppAt _ _ _ ∧ _)); walk1)
        · rename ((_ == _) = true) => hq
          rw [e3] at hq
          have hq := eqT lit_eq hq
          rcases hcases with ⟨hu, _, htk⟩ | ⟨_, hno, _⟩ | ⟨_, hno, _⟩
          · refine callWith_app D ?_
            repeat' ((fail_if_success (with_reducible show wpAny _ _ (callWith _ (Value.ref B) _ _ _) _ _ _)); (fail_if_success (with_reducible show AppAt _ _ _ ∧ _)); walk1)
            rename Fr _ _ _ _ => F8
            rename News _ _ _ _ => M8
            refine ⟨M8.get mBm, app_step F8 M8 mBm mDm hvl (fun h8 F9 NN => ?_)⟩
            have N9 := NN (own ++ [(D, _), (B, _)]) (mem_upd hown' hDB)
            clear F8 M8 NN
            dsimp only
            repeat' ((fail_if_success (with_reducible show wpAny _ _ (callWith _ (Value.ref B) _ _ _) _ _ _)); (fail_if_success (with_reducible show AppAt _ _ _ ∧ _)); walk1)
            rename Fr _ _ _ _ => F8
            rename News _ _ _ _ => M8
            refine WhileStep.intro (n' := r.length - fit wd 0 r) F8 M8 (by omega) ⟨r.drop (fit wd 0 r), G ++ [[written (r.take (fit wd 0 r), true)]], _, kk + 1, start + (encs (r.take (fit wd 0 r))).length, rfl, IsI.mk (by omega), ⟨_, rfl⟩, ⟨_, rfl⟩, rfl, rfl, rfl, rfl, rfl, rfl, rfl, ad1, ad2, ?_, by simp, ?_, ?_, hGs, ?_⟩
            · intro q; have := congrArg List.length q; simp at this; omega
            · rw [G_map]
              refine strs_snoc hS ?_
              rw [show ((start : Int) + ((wd : Int) - 1) - 1) = ((start + (wd - 2) : Nat) : Int) by omega, hpc _ (by omega), htk]; rfl
            · intro g hg; rcases List.mem_append.mp hg with hg | hg; exact hG g hg; simp at hg; subst hg; simp
            · simp only [List.length_append, List.length_singleton, List.length_drop]; omega
          · exact absurd (by rw [hq]) hno
          · exact absurd (by rw [hq]) hno
        · rename ((Txt.item _ _ == _) = true) => hq
          rw [e2] at hq
          have hq := eqT lit_eq hq
          rename ((Txt.item _ _ == _) = false) => hq3
          rw [e3] at hq3
          have hq3 := eqF lit_eq hq3
          rcases hcases with ⟨_, hno, _⟩ | ⟨hu, _, _, htk⟩ | ⟨_, _, hno, _⟩
          · exact absurd (Option.some.inj hno) hq3
          · refine callWith_app D ?_
            repeat' ((fail_if_success (with_reducible show wpAny _ _ (callWith _ (Value.ref B) _ _ _) _ _ _)); (fail_if_success (with_reducible show AppAt _ _ _ ∧ _)); walk1)
            rename Fr _ _ _ _ => F8
            rename News _ _ _ _ => M8
            refine ⟨M8.get mBm, app_step F8 M8 mBm mDm hvl (fun h8 F9 NN => ?_)⟩
            have N9 := NN (own ++ [(D, _), (B, _)]) (mem_upd hown' hDB)
            clear F8 M8 NN
            dsimp only
            repeat' ((fail_if_success (with_reducible show wpAny _ _ (callWith _ (Value.ref B) _ _ _) _ _ _)); (fail_if_success (with_reducible show AppAt _ _ _ ∧ _)); walk1)
            rename Fr _ _ _ _ => F8
            rename News _ _ _ _ => M8
            refine WhileStep.intro (n' := r.length - fit wd 0 r) F8 M8 (by omega) ⟨r.drop (fit wd 0 r), G ++ [[written (r.take (fit wd 0 r), true)]], _, kk + 1, start + (encs (r.take (fit wd 0 r))).length, rfl, IsI.mk (by omega), ⟨_, rfl⟩, ⟨_, rfl⟩, rfl, rfl, rfl, rfl, rfl, rfl, rfl, ad1, ad2, ?_, by simp, ?_, ?_, hGs, ?_⟩
            · intro q; have := congrArg List.length q; simp at this; omega
            · rw [G_map]
              refine strs_snoc hS ?_
              rw [show ((start : Int) + ((wd : Int) - 1)) = ((start + (wd - 1) : Nat) : Int) by omega, hpc _ (by omega), htk]; rfl
            · intro g hg; rcases List.mem_append.mp hg with hg | hg; exact hG g hg; simp at hg; subst hg; simp
            · simp only [List.length_append, List.length_singleton, List.length_drop]; omega
          · exact absurd (by rw [hq]) hno
        · rename ((Txt.item _ _ == _) = false) => hq
          rw [e2] at hq
          have hq := eqF lit_eq hq
          rename ((Txt.item _ _ == _) = false) => hq3
          rw [e3] at hq3
          have hq3 := eqF lit_eq hq3
          rcases hcases with ⟨_, hno, _⟩ | ⟨_, _, hno, _⟩ | ⟨hu, _, _, htk⟩
          · exact absurd (Option.some.inj hno) hq3
          · exact absurd (Option.some.inj hno) hq
          · refine callWith_app D ?_
            repeat' ((fail_if_success (with_reducible show wpAny _ _ (callWith _ (Value.ref B) _ _ _) _ _ _)); (fail_if_success (with_reducible show AppAt _ _ _ ∧ _)); walk1)
            rename Fr _ _ _ _ => F8
            rename News _ _ _ _ => M8
            refine ⟨M8.get mBm, app_step F8 M8 mBm mDm hvl (fun h8 F9 NN => ?_)⟩
            have N9 := NN (own ++ [(D, _), (B, _)]) (mem_upd hown' hDB)
            clear F8 M8 NN
            dsimp only
            repeat' ((fail_if_success (with_reducible show wpAny _ _ (callWith _ (Value.ref B) _ _ _) _ _ _)); (fail_if_success (with_reducible show AppAt _ _ _ ∧ _)); walk1)
            rename Fr _ _ _ _ => F8
            rename News _ _ _ _ => M8
            refine WhileStep.intro (n' := r.length - fit wd 0 r) F8 M8 (by omega) ⟨r.drop (fit wd 0 r), G ++ [[written (r.take (fit wd 0 r), true)]], _, kk + 1, start + (encs (r.take (fit wd 0 r))).length, rfl, IsI.mk (by omega), ⟨_, rfl⟩, ⟨_, rfl⟩, rfl, rfl, rfl, rfl, rfl, rfl, rfl, ad1, ad2, ?_, by simp, ?_, ?_, hGs, ?_⟩
            · intro q; have := congrArg List.length q; simp at this; omega
            · rw [G_map]
              refine strs_snoc hS ?_
              rw [show ((start : Int) + ((wd : Int) - 1)) = ((start + (wd - 1) : Nat) : Int) by omega, hpc _ (by omega), htk, lit_eq, s_app]; rfl
            · intro g hg; rcases List.mem_append.mp hg with hg | hg; exact hG g hg; simp at hg; subst hg; simp
            · simp only [List.length_append, List.length_singleton, List.length_drop]; omega
      · rename (¬ ((_ : Int) ≤ _)) => hle
        have hngt : ¬ wd < (encs r).length := by omega
        have hstop := rows_stop hngt
        rw [hstop] at htot
        have hIs : ∀ (o o' : Obj), ∀ p ∈ [(D, o), (B, o')], p.1 = D ∨ p.1 = B := fun o o' p hp => by
          rcases List.mem_cons.mp hp with rfl | hp
          · exact .inl rfl
          · rcases List.mem_singleton.mp hp with rfl
            exact .inr rfl
        have hGne : ∀ g ∈ G ++ [(lastRows wd r).map written], g ≠ [] := by
          intro g hg
          rcases List.mem_append.mp hg with hg | hg
          · exact hG g hg
          · simp at hg; subst hg
            intro q
            have := rows_ne wd r
            rw [hstop] at this
            exact this (List.map_eq_nil_iff.mp q)
        have hGfl : (G ++ [(lastRows wd r).map written]).flatten = (((slns T).take (i + 1)).flatMap (rows wd)).map written := by rw [hTOT, ← htot]; simp
        have hGln : ∀ x : Value, (vs ++ [x]).length + wsum ((slns T).drop (i + 1)) ≤ 1001 := fun x => by simp; omega
        have hsl0 : Txt.slice (s (encs a)) (some (start : Int)) none = s (encs r) := by
          rw [s_slice_sn, clip_nat (by omega), hd]
        have hsl1 : ∀ {b : Tx} {z : Nat}, r = b ++ [z] → isW z = true → Txt.slice (s (encs a)) (some (start : Int)) (some (-1)) = s (encs b) := by
          intro b z e hW
          have e2 : encs r = encs b ++ [z] := by rw [e, encs_snoc, isW_enc hW]
          have e3 := congrArg List.length e2
          rw [List.length_append, List.length_singleton] at e3
          rw [s_slice_ss, clip_nat (by omega), clip_neg1, List.drop_take, hd, e2, List.take_left' (by omega)]
        by_cases hE : encs a = []
        · have hr0 : r = [] := by rw [hE] at hl9; simp at hl9; exact encs_nil.mp hl9.2
          dsimp only
          repeat' ((fail_if_success (with_reducible show wpAny _ _ (callWith _ (Value.ref B) _ _ _) _ _ _)); (fail_if_success (with_reducible show AppAt _ _ _ ∧ _)); walk1)
          · exact absurd (show ((s (encs a)).length : Int) = 0 by rw [hE]; rfl) ‹((s (encs a)).length : Int) ≠ 0›
          · exact absurd (show ((s (encs a)).length : Int) = 0 by rw [hE]; rfl) ‹((s (encs a)).length : Int) ≠ 0›
          · exact absurd (show ((s (encs a)).length : Int) = 0 by rw [hE]; rfl) ‹((s (encs a)).length : Int) ≠ 0›
          · exact absurd (show ((s (encs a)).length : Int) = 0 by rw [hE]; rfl) ‹((s (encs a)).length : Int) ≠ 0›
          · skip
            refine callWith_app D ?_
            repeat' ((fail_if_success (with_reducible show wpAny _ _ (callWith _ (Value.ref B) _ _ _) _ _ _)); (fail_if_success (with_reducible show AppAt _ _ _ ∧ _)); walk1)
            rename Fr _ _ _ _ => F8
            rename News _ _ _ _ => M8
            refine ⟨M8.get mBm, app_step F8 M8 mBm mDm hvl (fun h8 F9 NN => ?_)⟩
            have N9 := NN (own ++ [(D, _), (B, _)]) (mem_upd hown' hDB)
            clear F8 M8 NN
            dsimp only
            repeat' ((fail_if_success (with_reducible show wpAny _ _ (callWith _ (Value.ref B) _ _ _) _ _ _)); (fail_if_success (with_reducible show AppAt _ _ _ ∧ _)); walk1)
            rename Fr _ _ _ _ => F8
            rename News _ _ _ _ => M8
            refine SL.next (nw := [(D, _), (B, _)]) F8 M8 (fun p hp => by rcases hIs _ _ p hp with q | q; exact fun e => hDI (q.symm.trans e); exact fun e => hBI (q.symm.trans e)) ⟨G ++ [(lastRows wd r).map written], _, kk + 1, x1, x2, x3, rfl, rfl, rfl, rfl, rfl, rfl, rfl, rfl, ?_, hGne, hGfl, hGln _⟩
            rw [G_map]
            refine strs_snoc hS ?_
            rw [hsl0, last3 (by rw [hr0]; rfl)]
        · obtain ⟨z, hz⟩ : ∃ z, (encs a).getLast? = some z := ⟨(encs a).getLast hE, List.getLast?_eq_some_getLast hE⟩
          have hrn0 : r ≠ [] := fun q => hE (by rw [hra q]; rfl)
          have hz2 : (encs r).getLast? = some z := by rw [← last_suffix hd hrn0]; exact hz
          have hz1 : (s [z]).length = 1 := rfl
          have hq3 : (s (Mine.q2 z)).length ≤ 3 := by rw [s_len]; unfold Mine.q2; split <;> simp
          dsimp only
          repeat' ((fail_if_success (with_reducible show wpAny _ _ (callWith _ (Value.ref B) _ _ _) _ _ _)); (fail_if_success (with_reducible show AppAt _ _ _ ∧ _)); walk1)
          · rename (List.isEmpty _ = true) => hin
            rw [s_item_last hz, lit_st] at hin
            have hW : isW z = false := by have := found_not hin; simp at this; simp [isW, this]
            have hnw := (enc_lastW hz2).2 hW
            refine callWith_app D ?_
            repeat' ((fail_if_success (with_reducible show wpAny _ _ (callWith _ (Value.ref B) _ _ _) _ _ _)); (fail_if_success (with_reducible show AppAt _ _ _ ∧ _)); walk1)
            rename Fr _ _ _ _ => F8
            rename News _ _ _ _ => M8
            refine ⟨M8.get mBm, app_step F8 M8 mBm mDm hvl (fun h8 F9 NN => ?_)⟩
            have N9 := NN (own ++ [(D, _), (B, _)]) (mem_upd hown' hDB)
            clear F8 M8 NN
            dsimp only
            repeat' ((fail_if_success (with_reducible show wpAny _ _ (callWith _ (Value.ref B) _ _ _) _ _ _)); (fail_if_success (with_reducible show AppAt _ _ _ ∧ _)); walk1)
            rename Fr _ _ _ _ => F8
            rename News _ _ _ _ => M8
            refine SL.next (nw := [(D, _), (B, _)]) F8 M8 (fun p hp => by rcases hIs _ _ p hp with q | q; exact fun e => hDI (q.symm.trans e); exact fun e => hBI (q.symm.trans e)) ⟨G ++ [(lastRows wd r).map written], _, kk + 1, x1, x2, x3, rfl, rfl, rfl, rfl, rfl, rfl, rfl, rfl, ?_, hGne, hGfl, hGln _⟩
            rw [G_map]
            refine strs_snoc hS ?_
            rw [hsl0, last3 hnw]
          · rename (List.isEmpty _ = false) => hin
            rw [s_item_last hz, lit_st] at hin
            have hW : isW z = true := by have := found_lit hin; simpa [isW] using this
            obtain ⟨b, hb⟩ := (enc_lastW hz2).1 hW
            rename (3 ≤ (_ : Int)) => hroom3
            rw [s_item_last hz]
            rename Fr _ _ _ _ => F8
            rename News _ _ _ _ => M8
            refine quote_spec (X.keeps F8.keep) (Tr.keeps F8.keep) (by show A.depth + 1 < 990; omega) hW (fun t' h' tk' k' => ?_)
            have F9 := F8.keeps k'
            have M9 := M8.grown k'
            clear F8 M8
            dsimp only
            repeat' ((fail_if_success (with_reducible show wpAny _ _ (callWith _ (Value.ref B) _ _ _) _ _ _)); (fail_if_success (with_reducible show AppAt _ _ _ ∧ _)); walk1)
            refine callWith_app D ?_
            repeat' ((fail_if_success (with_reducible show wpAny _ _ (callWith _ (Value.ref B) _ _ _) _ _ _)); (fail_if_success (with_reducible show AppAt _ _ _ ∧ _)); walk1)
            rename Fr _ _ _ _ => F8
            rename News _ _ _ _ => M8
            refine ⟨M8.get mBm, app_step F8 M8 mBm mDm hvl (fun h8 F9 NN => ?_)⟩
            have N9 := NN (own ++ [(D, _), (B, _)]) (mem_upd hown' hDB)
            clear F8 M8 NN
            dsimp only
            repeat' ((fail_if_success (with_reducible show wpAny _ _ (callWith _ (Value.ref B) _ _ _) _ _ _)); (fail_if_success (with_reducible show AppAt _ _ _ ∧ _)); walk1)
            rename Fr _ _ _ _ => F8
            rename News _ _ _ _ => M8
            refine SL.next (nw := [(D, _), (B, _)]) F8 M8 (fun p hp => by rcases hIs _ _ p hp with q | q; exact fun e => hDI (q.symm.trans e); exact fun e => hBI (q.symm.trans e)) ⟨G ++ [(lastRows wd r).map written], _, kk + 1, x1, x2, x3, rfl, rfl, rfl, rfl, rfl, rfl, rfl, rfl, ?_, hGne, hGfl, hGln _⟩
            rw [G_map]
            refine strs_snoc hS ?_
            rw [hsl1 hb hW, hb, last_room3 hW (by rw [← hb]; omega), s_app]
          · rename (List.isEmpty _ = false) => hin
            rw [s_item_last hz, lit_st] at hin
            have hW : isW z = true := by have := found_lit hin; simpa [isW] using this
            obtain ⟨b, hb⟩ := (enc_lastW hz2).1 hW
            rename ((_ : Int) = 2) => hroom2
            refine callWith_app D ?_
            repeat' ((fail_if_success (with_reducible show wpAny _ _ (callWith _ (Value.ref B) _ _ _) _ _ _)); (fail_if_success (with_reducible show AppAt _ _ _ ∧ _)); walk1)
            rename Fr _ _ _ _ => F8
            rename News _ _ _ _ => M8
            refine ⟨M8.get mBm, app_step F8 M8 mBm mDm hvl (fun h8 F9 NN => ?_)⟩
            have N9 := NN (own ++ [(D, _), (B, _)]) (mem_upd hown' hDB)
            clear F8 M8 NN
            dsimp only
            repeat' ((fail_if_success (with_reducible show wpAny _ _ (callWith _ (Value.ref B) _ _ _) _ _ _)); (fail_if_success (with_reducible show AppAt _ _ _ ∧ _)); walk1)
            rename Fr _ _ _ _ => F8
            rename News _ _ _ _ => M8
            refine SL.next (nw := [(D, _), (B, _)]) F8 M8 (fun p hp => by rcases hIs _ _ p hp with q | q; exact fun e => hDI (q.symm.trans e); exact fun e => hBI (q.symm.trans e)) ⟨G ++ [(lastRows wd r).map written], _, kk + 1, x1, x2, x3, rfl, rfl, rfl, rfl, rfl, rfl, rfl, rfl, ?_, hGne, hGfl, hGln _⟩
            rw [G_map]
            refine strs_snoc hS ?_
            rw [hsl1 hb hW, hb, last_room2 hW (by rw [← hb]; omega), s_item_last hz, s_app, s_app]
          · rename (List.isEmpty _ = false) => hin
            rw [s_item_last hz, lit_st] at hin
            have hW : isW z = true := by have := found_lit hin; simpa [isW] using this
            obtain ⟨b, hb⟩ := (enc_lastW hz2).1 hW
            rename ((_ : Int) ≠ 2) => hroom2
            rename (¬ (3 ≤ (_ : Int))) => hroom3
            rw [s_item_last hz]
            rename Fr _ _ _ _ => F8
            rename News _ _ _ _ => M8
            refine quote_spec (X.keeps F8.keep) (Tr.keeps F8.keep) (by show A.depth + 1 < 990; omega) hW (fun t' h' tk' k' => ?_)
            have F9 := F8.keeps k'
            have M9 := M8.grown k'
            clear F8 M8
            dsimp only
            repeat' ((fail_if_success (with_reducible show wpAny _ _ (callWith _ (Value.ref B) _ _ _) _ _ _)); (fail_if_success (with_reducible show AppAt _ _ _ ∧ _)); walk1)
            refine callWith_app D ?_
            repeat' ((fail_if_success (with_reducible show wpAny _ _ (callWith _ (Value.ref B) _ _ _) _ _ _)); (fail_if_success (with_reducible show AppAt _ _ _ ∧ _)); walk1)
            rename Fr _ _ _ _ => F8
            rename News _ _ _ _ => M8
            refine ⟨M8.get mBm, app_step F8 M8 mBm mDm hvl (fun h8 F9 NN => ?_)⟩
            have N9 := NN (own ++ [(D, _), (B, _)]) (mem_upd hown' hDB)
            clear F8 M8 NN
            dsimp only
            repeat' ((fail_if_success (with_reducible show wpAny _ _ (callWith _ (Value.ref B) _ _ _) _ _ _)); (fail_if_success (with_reducible show AppAt _ _ _ ∧ _)); walk1)
            rename Fr _ _ _ _ => F8
            rename News _ _ _ _ => M8
            refine SL.next (nw := [(D, _), (B, _)]) F8 M8 (fun p hp => by rcases hIs _ _ p hp with q | q; exact fun e => hDI (q.symm.trans e); exact fun e => hBI (q.symm.trans e)) ⟨G ++ [(lastRows wd r).map written], _, kk + 1, x1, x2, x3, rfl, rfl, rfl, rfl, rfl, rfl, rfl, rfl, ?_, hGne, hGfl, hGln _⟩
            rw [G_map]
            refine strs_snoc hS ?_
            rw [hsl1 hb hW, hb, last_room1 hW (by rw [← hb]; omega), s_app, s_app]
          · exact absurd (len0 ‹((s (encs a)).length : Int) = 0›) hE
    · rintro h₂ tk₂ m₂ nw₂ F5 N5 ⟨G, vs, kk, x1, x2, x3, rfl, q1, q2, q3, q4, q5, q6, q7, hS, hG, hf, hlen⟩
      have hvll : (strValues ll).length = (slns (trs T)).length := by have := congrArg List.length hlines; simp only [List.length_map] at this; simpa [strValues] using this
      rw [hvll, slns_trs, List.length_map, List.take_length] at hf
      have hvl : vs.length ≤ 10000 := by omega
      have F6 : Fr st.heap L h₂ _ := knowL [(Str.ofString "append", .ref B), (Str.ofString "encoded_body", .ref D), (Str.ofString "eol", .str (s [10]) 198), (Str.ofString "body", .str (s (trs T)) x3)] F5 (by simp [q1, q2, q6, q7])
      simp only [lookO] at F6
      have N6 : News st.heap L h₂ [(D, Mine.lo vs.toArray kk), (B, boundO (.builtin "list.append") (.ref D))] := N5
      have hTn : trs T ≠ [] := fun q => hT (trs_nil.mp q)
      have hpos : 0 < (s (trs T)).length := by rw [s_len]; exact List.length_pos_iff.mpr hTn
      obtain ⟨z, hz⟩ : ∃ z, (trs T).getLast? = some z := ⟨(trs T).getLast hTn, List.getLast?_eq_some_getLast hTn⟩
      have hlast := trs_last hok z hz
      have hbp := body_pieces hT hG hf
      clear F5 N5 F4 N4 N3
      dsimp only
      repeat' ((fail_if_success (with_reducible show wpAny _ _ (callWith _ (Value.ref B) _ _ _) _ _ _)); (fail_if_success (with_reducible show AppAt _ _ _ ∧ _)); walk1)
      · rename (List.isEmpty _ = true) => hin
        rw [s_item_last hz, lit_rn] at hin
        have hno := found_not hin
        have h10 : ¬ T.getLast? = some 10 := fun q => hno (by rw [hlast.2.mpr q]; simp)
        rw [if_neg h10, List.append_nil] at hbp
        rename Fr _ _ _ _ => F8
        rename News _ _ _ _ => M8
        refine join_list (News.isList M8 (.head _)) hS (join_size (by rw [hbp]; exact Nat.le_trans body_len (by omega))) (fun t' k => ?_)
        rw [s_joinN, hbp]
        dsimp only
        exact h t' _ _ F8.keep
      · rename (List.isEmpty _ = false) => hin
        rw [s_item_last hz, lit_rn] at hin
        have hyes := found_lit hin
        have h10 : T.getLast? = some 10 := hlast.2.mp (by have := hlast.1; simp at hyes; omega)
        rw [if_pos h10] at hbp
        refine callWith_app D ?_
        repeat' ((fail_if_success (with_reducible show wpAny _ _ (callWith _ (Value.ref B) _ _ _) _ _ _)); (fail_if_success (with_reducible show AppAt _ _ _ ∧ _)); walk1)
        rename Fr _ _ _ _ => F8
        rename News _ _ _ _ => M8
        refine ⟨M8.get (.tail _ (.head _)), app_step F8 M8 (.tail _ (.head _)) (.head _) hvl (fun h8 F9 NN => ?_)⟩
        have N9 : News st.heap L h8 [(D, _), (B, _)] := NN [(D, _), (B, _)] (mem_upd (own := []) (by simp) hDB)
        clear F8 M8 NN
        dsimp only
        repeat' ((fail_if_success (with_reducible show wpAny _ _ (callWith _ (Value.ref B) _ _ _) _ _ _)); (fail_if_success (with_reducible show AppAt _ _ _ ∧ _)); walk1)
        rename Fr _ _ _ _ => F8
        rename News _ _ _ _ => M8
        have hS2 := strs_snoc (t := x1) hS lit_e
        refine join_list (ys := (G.map jn ++ [[]]).map s) (News.isList M8 (.head _)) ?_ (join_size (by rw [hbp]; exact Nat.le_trans body_len (by omega))) (fun t' k => ?_)
        · rw [List.map_append]; exact strs_snoc hS lit_e
        rw [s_joinN, hbp]
        dsimp only
        exact h t' _ _ F8.keep
  · dsimp only
    have hT := len0 ‹(_ : Int) = 0›
    subst hT
    have e : bodyOf wd [] = [] := by simp [bodyOf, due, allRows, lns, rows_stop, encs, lastRows, endW, written, jn]
    exact retS h (Fr.keep (by assumption)) (by rw [e])
end
end Mine
end
section
open PySem PySem.W PyProof.Rows PySem.Calls
set_option maxRecDepth 100000
set_option maxHeartbeats 1000000
set_option linter.unusedVariables false
namespace Mine
section
variable {w : World} {A : Around} {E : Value → Shared → Prop} {st : Shared} {h₀ : Heap} {L : Addr} {m : Str → Option Value} {env : Env}
def Core (w : World) (A : Around) (e : PySem.Expr) (scope : Scope) (cl : List (Str × Addr)) (env : Env) (s₁ : Shared) (a : Addr) (post : Heap → List Value → Prop) : Prop :=
  ∀ (R : Result → Shared → Prop) (C I D : Addr) (h₃ : Heap) (tk₃ : Nat) (m₃ : Str → Option Value), h₃.Ns C m₃ → h₃.IsListIter I a 0 → h₃.PlainList D #[] → D ≠ C → D ≠ I → I ≠ C → s₁.heap.get? C = none → s₁.heap.get? I = none → s₁.heap.get? D = none → Kp s₁.heap h₃ →
    (∀ h' tk m' ys k, h'.Ns C m' → h'.get? D = some (lo (List.toArray ys) k) → post h' ys → Kp s₁.heap h' → R (.ok .next) { s₁ with heap := h', toks := tk }) →
    codeAny (model PWx w) A (.compLoop e 0 (.ref I) (.ref D) (compEnvC scope cl C env)) R { s₁ with heap := h₃, toks := tk₃ }
def Stays (post : Heap → List Value → Prop) : Prop := ∀ (h h' : Heap) X mx ys, h.Ns X mx → (∀ b o, b ≠ X → h.get? b = some o → h'.get? b = some o) → post h ys → post h' ys
theorem none_ge {h : Heap} {a : Addr} (ha : h.objs.size ≤ a) : h.get? a = none := by
  cases e : h.get? a with
  | none => rfl
  | some o => exact absurd (Heap.lt_size e) (Nat.not_lt.mpr ha)
theorem comp_alloc {e elt target iter : PySem.Expr} {gs : List Comprehension} {scope : Scope} {pos : Pos} {cl : List (Str × Addr)} {s₁ : Shared} {a : Addr} {vs : List Value} {post : Heap → List Value → Prop} {RR : Value → Addr → Result → Shared → Prop}
    (he : e = .ListComp elt (⟨target, iter, [], 0⟩ :: gs) scope pos) (hcell : ∀ y ∈ scope.names, y.2 ≠ .cell) (hkind : scope.kind = .function) (hl : s₁.heap.IsList a vs.toArray)
    (hc : Core w A e scope cl env s₁ a post)
    (hRR : ∀ D C h' tk m' ys k, s₁.heap.get? D = none → s₁.heap.get? C = none → D ≠ C → h'.Ns C m' → h'.get? D = some (lo (List.toArray ys) k) → post h' ys → Kp s₁.heap h' → RR (.ref D) C (.ok .next) { s₁ with heap := h', toks := tk }) :
    wpAny (model PWx w) A (pyIter (.ref a)) (fun it s₂ => wpAny (model PWx w) A (newList []) (fun acc s₃ => wpAny (model PWx w) A (newFunctionEnv scope env.globals cl [] env.qual none .none (some env)) (fun cenv s₄ =>
      codeAny (model PWx w) A (.compStart e 0 it acc { cenv with scope := relabel scope env }) (RR acc cenv.locals) s₄) E s₃) E s₂) E s₁ := by
  have hax : a < s₁.heap.objs.size := by obtain ⟨_, q, _⟩ := hl; exact Heap.lt_size q
  refine wpAny_pyIter_list hl ?_
  generalize hH1 : s₁.heap.push { cls := .type "list_iterator", data := .fields #[.ref a, .int 0 0] } = H1
  have h1s : H1.objs.size = s₁.heap.objs.size + 1 := by rw [← hH1, Heap.size_push]
  refine wpAny_newObj_type (wpAny_newFunctionEnv hcell (by intro y hy; simp at hy) (fun h₁ hns₁ hsb₁ => ?_) hkind)
  dsimp only at hns₁ hsb₁ ⊢
  generalize hH2 : H1.push { cls := .type "list", dict := none, data := .seq ([] : List Value).toArray } = H2 at hns₁ hsb₁ ⊢
  have h2s : H2.objs.size = s₁.heap.objs.size + 2 := by rw [← hH2, Heap.size_push, h1s]
  have l1 : s₁.heap.objs.size < H1.objs.size := by omega
  have l2 : H1.objs.size < H2.objs.size := by omega
  have l3 : s₁.heap.objs.size < H2.objs.size := by omega
  have old : Kp s₁.heap h₁ := fun b o q => by
    have hb := Heap.lt_size q
    refine hsb₁.extBut b o (Nat.ne_of_lt (Nat.lt_trans hb l3)) (Heap.get?_push_of_some _ ?_)
    rw [← hH2]; refine Heap.get?_push_of_some _ ?_
    rw [← hH1]; exact Heap.get?_push_of_some _ q
  have hit : h₁.IsListIter s₁.heap.objs.size a 0 := by
    refine ⟨{ cls := .type "list_iterator", data := .fields #[.ref a, .int 0 0] }, hsb₁.extBut _ _ (Nat.ne_of_lt l3) (Heap.get?_push_of_some _ ?_), rfl, rfl⟩
    rw [← hH2]; refine Heap.get?_push_of_some _ ?_
    rw [← hH1]; exact Heap.get?_push_size _ rfl
  have hacc : h₁.PlainList H1.objs.size #[] := by
    refine ⟨0, hsb₁.extBut _ _ (Nat.ne_of_lt l2) (Heap.get?_push_of_some _ ?_)⟩
    rw [← hH2]; exact Heap.get?_push_size _ rfl
  have loop := fun tk => hc (RR (.ref H1.objs.size) H2.objs.size) H2.objs.size s₁.heap.objs.size H1.objs.size h₁ tk _ hns₁ hit hacc (Nat.ne_of_lt l2) (Nat.ne_of_gt l1) (Nat.ne_of_lt l3) (none_ge (Nat.le_of_lt l3)) (none_ge (Nat.le_refl _)) (none_ge (Nat.le_of_lt l1)) old
    (fun h' tk m' ys k hn hD hp hk => hRR _ _ h' tk m' ys k (none_ge (Nat.le_of_lt l1)) (none_ge (Nat.le_of_lt l3)) (Nat.ne_of_lt l2) hn hD hp hk)
  subst he
  exact codeAny_compStart_list (loop _) (wpAny_pyIter_listiter hit (loop _))
theorem CE {elt target iter : PySem.Expr} {gs : List Comprehension} {scope : Scope} {cl : List (Str × Addr)} {pos : Pos} {Q : Value → Shared → Prop}
    (hclos : closureFor scope env = pure cl) (hcell : ∀ y ∈ scope.names, y.2 ≠ .cell) (hkind : scope.kind = .function) (hnames : ∀ y ∈ scope.names, y.2 = .local → scope.names.lookup y.1 = some .local)
    (h : wpAny (model PWx w) A (eval iter env) (fun xv s₁ => ∃ a vs m news, ∃ post : Heap → List Value → Prop, xv = .ref a ∧ s₁.heap.IsList a (List.toArray vs) ∧ Fr h₀ L s₁.heap m ∧ News h₀ L s₁.heap news ∧ Stays post ∧
      Core w A (.ListComp elt (⟨target, iter, [], 0⟩ :: gs) scope pos) scope cl env s₁ a post ∧
      (∀ D (ys : List Value) n h' tk, Kp s₁.heap h' → Fr h₀ L h' m → News h₀ L h' ((D, lo ys.toArray n) :: news) → post h' ys → Q (.ref D) { s₁ with heap := h', toks := tk })) E st)
    (hs : ∀ x, foldedSetIterable iter env x = pure x := by intro _; rfl) :
    wpAny (model PWx w) A (eval (.ListComp elt (⟨target, iter, [], 0⟩ :: gs) scope pos) env) Q E st := by
  rw [eval_ListComp]
  refine wpAny_comprehension_free (use := none) rfl hs hclos hkind hnames (wpAny_mono h (fun xv s₁ h₁ => ?_) fun _ _ e => e)
  obtain ⟨a, vs, m, news, post, rfl, hl, F, N, hst, hc, hQ⟩ := h₁
  refine comp_alloc (RR := fun acc C => compPost (model PWx w) A E none Q acc C) rfl hcell hkind hl hc ?_
  intro D C h' tk m' ys k hD hC hDC hn hDo hp hk
  refine ⟨m', hn, fun h'' hs'' => ?_⟩
  have keep : Kp s₁.heap h'' := fun b o e => hs''.extBut b o (by rintro rfl; rw [hC] at e; cases e) (hk b o e)
  refine hQ D ys k h'' tk keep (F.keeps keep) ?_ (hst _ _ C m' ys hn hs''.extBut hp)
  intro p hp
  rcases List.mem_cons.mp hp with rfl | hp
  · refine ⟨hs''.extBut _ _ hDC hDo, ?_, ?_⟩
    · rintro rfl
      obtain ⟨o, _, _, ho, _⟩ := F.ns
      rw [hD] at ho; cases ho
    · cases e : h₀.get? D with
      | none => rfl
      | some o => rw [F.keep _ _ e] at hD; cases hD
  · exact ⟨keep _ _ (N p hp).1, (N p hp).2⟩
theorem CA {elt target iter : PySem.Expr} {gs : List Comprehension} {y : Str} {py : Pos} {scope : Scope} {cl : List (Str × Addr)} {pos spos : Pos} {Q : Flow → Shared → Prop}
    (hsw : swapsWith (.ListComp elt (⟨target, iter, [], 0⟩ :: gs) scope pos) (some (.Name y py)) spos.line env = pure true) (hL : env.locals = L)
    (hclos : closureFor scope env = pure cl) (hcell : ∀ y ∈ scope.names, y.2 ≠ .cell) (hkind : scope.kind = .function) (hnames : ∀ y ∈ scope.names, y.2 = .local → scope.names.lookup y.1 = some .local)
    (hy : env.kindOf y = some .local) (hp : (env.scope.kind == .class || (env.scope.kind == .module && env.locals != env.globals)) = false)
    (h : wpAny (model PWx w) A (eval iter env) (fun xv s₁ => ∃ a vs m news, ∃ post : Heap → List Value → Prop, xv = .ref a ∧ s₁.heap.IsList a (List.toArray vs) ∧ Fr h₀ L s₁.heap m ∧ News h₀ L s₁.heap news ∧ Stays post ∧
      Core w A (.ListComp elt (⟨target, iter, [], 0⟩ :: gs) scope pos) scope cl env s₁ a post ∧
      (∀ D (ys : List Value) n h' tk, (∀ b o, b ≠ L → s₁.heap.get? b = some o → h'.get? b = some o) → Fr h₀ L h' (fun z => if z = y then some (.ref D) else m z) → News h₀ L h' ((D, lo ys.toArray n) :: news) → post h' ys → Q .next { s₁ with heap := h', toks := tk })) E st)
    (hs : ∀ x, foldedSetIterable iter env x = pure x := by intro _; rfl) :
    wpAny (model PWx w) A (exec (.Assign [.Name y py] (.ListComp elt (⟨target, iter, [], 0⟩ :: gs) scope pos) spos) env) Q E st := by
  subst hL
  rw [exec_Assign_Name_used _ _ _ _ hsw]
  refine wpAny_bind (wpAny_standAt (wpAny_bind ?_))
  show wpAny _ A (do let _ ← comprehension (.ListComp elt (⟨target, iter, [], 0⟩ :: gs) scope pos) scope env _ (newList []) false (eval iter env) (some (assign (.Name y py) env))) _ _ st
  refine wpAny_bind (wpAny_mono (wpAny_comprehension_free (use := some (assign (.Name y py) env)) (Q := fun _ s' => Q .next s') rfl hs hclos hkind hnames
    (wpAny_mono h (fun xv s₁ h₁ => ?_) fun _ _ e => e)) (fun _ s' hq => wpAny_pure (wpAny_pure hq)) fun _ _ e => e)
  obtain ⟨a, vs, m, news, post, rfl, hl, F, N, hst, hc, hQ⟩ := h₁
  refine comp_alloc (RR := fun acc C => compPost (model PWx w) A E (some (assign (.Name y py) env)) (fun _ s' => Q .next s') acc C) rfl hcell hkind hl hc ?_
  intro D C h' tk m' ys k hD hC hDC hnC hDo hpo hk
  have hLC : env.locals ≠ C := by rintro rfl; obtain ⟨o, _, _, ho, _⟩ := F.ns; rw [hC] at ho; cases ho
  have hLD : env.locals ≠ D := by rintro rfl; obtain ⟨o, _, _, ho, _⟩ := F.ns; rw [hD] at ho; cases ho
  have hnL : h'.Ns env.locals m := F.ns.at' fun o e => hk _ o e
  show wpAny _ A (assign (.Name y py) env (.ref D)) _ _ _
  refine wpAny_assign_Name (wpAny_storeName_local hy hnL (fun h₂ hn₂ hs₂ => ?_) hp)
  refine ⟨m', hnC.sameBut hs₂ (Ne.symm hLC), fun h₃ hs₃ => ?_⟩
  have keep : ∀ b o, b ≠ env.locals → s₁.heap.get? b = some o → h₃.get? b = some o := fun b o hb e => hs₃.extBut b o (by rintro rfl; rw [hC] at e; cases e) (hs₂.extBut b o hb (hk b o e))
  refine hQ D ys k h₃ _ keep ⟨hn₂.sameBut hs₃ hLC, fun b o e => keep b o (Nat.ne_of_lt (Nat.lt_of_lt_of_le (Heap.lt_size e) F.above)) (F.keep b o e), F.above⟩ ?_
    (hst _ _ C m' ys (hnC.sameBut hs₂ (Ne.symm hLC)) hs₃.extBut (hst _ _ env.locals m ys hnL hs₂.extBut hpo))
  intro p hp
  rcases List.mem_cons.mp hp with rfl | hp
  · refine ⟨hs₃.extBut _ _ hDC (hs₂.extBut _ _ (Ne.symm hLD) hDo), Ne.symm hLD, ?_⟩
    cases e : h₀.get? D with
    | none => rfl
    | some o => rw [F.keep _ _ e] at hD; cases hD
  · exact ⟨keep _ _ (N p hp).2.1 (N p hp).1, (N p hp).2⟩
end
end Mine
end
section
open PySem PySem.W PyProof.Rows PySem.Calls
set_option maxRecDepth 100000
set_option maxHeartbeats 1000000
set_option linter.unusedVariables false
namespace Mine
theorem paired_at {α β : Type} {R : α → β → Prop} : ∀ {as : List α} {vs : List β}, Paired R as vs → ∀ {i : Nat} {v : β}, vs[i]? = some v → ∃ a, as[i]? = some a ∧ R a v
  | _, _, .nil, i, v, h => by simp at h
  | _, _, .cons h t, 0, v, e => by simp at e; subst e; exact ⟨_, rfl, h⟩
  | _, _, .cons h t, i + 1, v, e => by
    obtain ⟨a, h1, h2⟩ := paired_at t (i := i) (v := v) (by simpa using e)
    exact ⟨a, by simpa using h1, h2⟩
theorem ns_data {h : Heap} {C : Addr} {m : Str → Option Value} (hn : h.Ns C m) : ∃ o es ep, h.get? C = some o ∧ o.data = .dict es ep := by
  obtain ⟨o, es, ep, h1, h2⟩ := hn
  exact ⟨o, es, ep, h1, h2.1⟩
section
variable {w : World} {A : Around} {E : Value → Shared → Prop} {env : Env}
theorem core_tup {elt iter : PySem.Expr} {x y : Str} {px py tp : Pos} {kk : Nat} {scope : Scope} {cl : List (Str × Addr)} {pos : Pos} {s₁ : Shared} {a : Addr} {vs : List Value} {rs : List Row} {G : Row → Value → Prop}
    (hh : A.handled = none) (hkind : scope.kind = .function) (hx : scope.names.lookup x = some .local) (hy : scope.names.lookup y = some .local) (hxy : x ≠ y) (hl : s₁.heap.IsList a vs.toArray) (hp : Paired (RowAt s₁.heap) rs vs) (hsz : vs.length ≤ 10000)
    (helt : ∀ C r t s₂ m₂ E', r ∈ rs → s₂.heap.Ns C m₂ → m₂ x = some (.str (s r.1) t) → m₂ y = some (.bool r.2) → Kp s₁.heap s₂.heap → wpAny (model PWx w) A (eval elt (compEnvC scope cl C env)) (fun v s₃ => G r v ∧ Keeps s₂ s₃) E' s₂) :
    Core w A (.ListComp elt [⟨.Tuple [.Name x px, .Name y py] kk tp, iter, [], 0⟩] scope pos) scope cl env s₁ a (fun _ ys => Paired G rs ys) := by
  intro R C I D h₃ tk₃ m₃ hn hit hacc hDC hDI hIC hC0 hI0 hD0 old hR
  have hlen := hp.length
  refine kcp_loop (fun n s' => ∃ h' tk m' ys i, s' = { s₁ with heap := h', toks := tk } ∧ h'.IsListIter I a i ∧ h'.PlainList D ys ∧ h'.Ns C m' ∧ Kp s₁.heap h' ∧ Paired G (rs.take i) ys.toList ∧ i ≤ vs.length ∧ n = vs.length + 1 - i) ?_ (vs.length + 1)
    ⟨h₃, tk₃, m₃, #[], 0, rfl, hit, hacc, hn, old, by simpa using Paired.nil, Nat.zero_le _, rfl⟩
  rintro n s' ⟨H, tk, m', ys, i, rfl, hit', hacc', hn', hk, hF, hi, rfl⟩
  have hl' : H.IsList a vs.toArray := hl.at fun o e => hk _ o e
  have nI : ∀ b o, s₁.heap.get? b = some o → b ≠ I := fun b o e q => by rw [q, hI0] at e; cases e
  have nC : ∀ b o, s₁.heap.get? b = some o → b ≠ C := fun b o e q => by rw [q, hC0] at e; cases e
  have nD : ∀ b o, s₁.heap.get? b = some o → b ≠ D := fun b o e q => by rw [q, hD0] at e; cases e
  cases hv : vs[i]? with
  | none =>
    have hle : vs.length ≤ i := List.getElem?_eq_none_iff.mp hv
    refine wpAny_pyNext_list_end hh hit' hl' (by simpa using hv) fun h₁ he₁ => ?_
    obtain ⟨k, hD⟩ := hacc'
    refine hR h₁ tk m' ys.toList k (hn'.extBut he₁ (Ne.symm hIC)) (by simpa using he₁ _ _ hDI hD) ?_ fun b o e => he₁ b o (nI b o e) (hk b o e)
    rwa [List.take_of_length_le (by omega)] at hF
  | some v =>
    have hlt : i < vs.length := (List.getElem?_eq_some_iff.mp hv).1
    obtain ⟨r, hr, T, t, nt, rfl, hT⟩ := paired_at hp hv
    refine wpAny_pyNext_list_item hit' hl' (by simpa using hv) fun h₁ hit₁ hs₁ => ?_
    refine wpAny_letOwnedTupleGo_listiter hit₁ ?_
    have hT₁ : h₁.IsTuple T #[.str (s r.1) t, .bool r.2] := ⟨_, hs₁.extBut _ _ (nI _ _ hT) (hk _ _ hT), rfl, _, rfl⟩
    refine kcp_assign (env := compEnvC scope cl C env) hh hT₁ (lookup_relabel_local hx) (lookup_relabel_local hy) (by simp [compEnvC, relabel, hkind]) (hn'.sameBut hs₁ (Ne.symm hIC)) (fun h₂ tk₂ hn₂ up₂ => ?_)
    have up : Kp s₁.heap h₂ := fun b o e => up₂ b o (nC b o e) (hs₁.extBut b o (nI b o e) (hk b o e))
    refine wpAny_mono (helt C r t _ _ _ (List.mem_of_getElem? hr) hn₂ (by simp [hxy]) (by simp) up) (fun z s₄ h₄ => ?_) fun _ _ e => e
    obtain ⟨hG, h₄, tk₄, rfl, hk₄⟩ := h₄
    have hacc₄ : h₄.PlainList D ys := hacc'.at fun o e => hk₄ _ o (up₂ _ o hDC (hs₁.extBut _ o hDI e))
    have hys : ys.size ≤ sizeLine := by
      have e1 := hF.length
      have e3 : sizeLine = 16777216 := rfl
      rw [List.length_take] at e1
      have e4 : ys.toList.length = ys.size := by simp
      omega
    refine wpAny_list_append_plain (hsz := hys) hacc₄ fun h₅ hl₅ hs₅ => ?_
    refine ⟨vs.length + 1 - (i + 1), by omega, h₅, tk₄, _, ys.push z, i + 1, rfl, ?_, hl₅, (hn₂.keeps hk₄).sameBut hs₅ (Ne.symm hDC), ?_, ?_, hlt, rfl⟩
    · have : h₂.IsListIter I a (i + 1) := hit₁.at fun o e => up₂ _ o hIC e
      exact (this.at fun o e => hk₄ _ o e).extBut hs₅.extBut (Ne.symm hDI)
    · intro b o e
      exact hs₅.extBut b o (nD b o e) (hk₄ b o (up b o e))
    · rw [List.take_add_one, hr]
      simpa using Paired.snoc hF hG
end
end Mine
end
section
open PySem PySem.W PyProof.Rows PySem.Calls
set_option maxRecDepth 100000
set_option maxHeartbeats 1000000
set_option linter.unusedVariables false
namespace Mine
theorem drop_atG {α : Type} {l : List α} {i : Nat} {c : α} (h : l[i]? = some c) : l.drop i = c :: l.drop (i + 1) := by
  obtain ⟨hj, rfl⟩ := List.getElem?_eq_some_iff.mp h
  exact List.drop_eq_getElem_cons hj
theorem turn0 (elt t1 it1 t2 it2 : PySem.Expr) (scope : Scope) (pos : Pos) (it acc : Value) (env : Env) :
    compTurn (.ListComp elt [⟨t1, it1, [], 0⟩, ⟨t2, it2, [], 0⟩] scope pos) 0 it acc env = (do
      standAt it1.pos
      match ← pyNext it with
      | none => pure (.done .next)
      | some v =>
        letOwnedTupleGo t1 it v
        assign t1 env v
        let mut ok := true
        for c in ([] : List PySem.Expr) do
          if ok then ok ← isTrue c env (eval c env)
        if ok then
          let x ← eval it2 env
          standAt it2.pos
          let x ← foldedSetIterable it2 env x
          let _ ← runOwn (.compStart (.ListComp elt [⟨t1, it1, [], 0⟩, ⟨t2, it2, [], 0⟩] scope pos) 1 (← holding [x] (pyIter x)) acc env) env
        again (.compLoop (.ListComp elt [⟨t1, it1, [], 0⟩, ⟨t2, it2, [], 0⟩] scope pos) 0 it acc env)) := by rfl
theorem turn1 (elt t1 it1 t2 it2 : PySem.Expr) (scope : Scope) (pos : Pos) (it acc : Value) (env : Env) :
    compTurn (.ListComp elt [⟨t1, it1, [], 0⟩, ⟨t2, it2, [], 0⟩] scope pos) 1 it acc env = (do
      standAt it2.pos
      match ← pyNext it with
      | none => pure (.done .next)
      | some v =>
        letOwnedTupleGo t2 it v
        assign t2 env v
        let mut ok := true
        for c in ([] : List PySem.Expr) do
          if ok then ok ← isTrue c env (eval c env)
        if ok then
          (do let _ ← call (.builtin "list.append") [acc, ← eval elt env])
        again (.compLoop (.ListComp elt [⟨t1, it1, [], 0⟩, ⟨t2, it2, [], 0⟩] scope pos) 1 it acc env)) := by rfl
section
variable {w : World} {A : Around} {E : Value → Shared → Prop} {st : Shared} {env : Env} {R : Result → Shared → Prop}
theorem start1 {elt t1 it1 t2 it2 : PySem.Expr} {scope : Scope} {pos : Pos} {it acc : Value}
    (h0 : codeAny (model PWx w) A (.compLoop (.ListComp elt [⟨t1, it1, [], 0⟩, ⟨t2, it2, [], 0⟩] scope pos) 1 it acc env) R st)
    (h : wpAny (model PWx w) A (pyIter it) (fun it' s' => codeAny (model PWx w) A (.compLoop (.ListComp elt [⟨t1, it1, [], 0⟩, ⟨t2, it2, [], 0⟩] scope pos) 1 it' acc env) R s') (notedBy (model PWx w) A env fun x s' => R (.error x) s') st) :
    codeAny (model PWx w) A (.compStart (.ListComp elt [⟨t1, it1, [], 0⟩, ⟨t2, it2, [], 0⟩] scope pos) 1 it acc env) R st := by
  refine codeAny_of_tree ?_
  show wpAny _ _ ((compStart (.ListComp elt [⟨t1, it1, [], 0⟩, ⟨t2, it2, [], 0⟩] scope pos) 1 it acc env).onRaise (fun x => do noteFrame x env; standAt theWindowsPlace)) _ _ st
  refine wpAny_notedAt ?_
  unfold compStart
  show wpAny _ _ (ask >>= _) _ _ st
  refine wpAny_bind (wpAny_askSetting (wpAny_ite ?_))
  split
  · first
      | exact wpAny_bind (wpAny_pure (wpAny_pure (And.intro rfl h0)))
      | exact wpAny_pure (And.intro rfl h0)
  · first
      | exact wpAny_bind (wpAny_rule (wpAny_bind (wpAny_standAt (wpAny_bind (wpAny_mono h (fun it' s' h' => wpAny_pure (And.intro rfl h')) fun _ _ x => x)))))
      | (refine wpAny_bind (wpAny_rule ?_); show wpAny _ _ (standAt it2.pos >>= _) _ _ st; exact wpAny_bind (wpAny_standAt (wpAny_bind (wpAny_mono h (fun it' s' h' => wpAny_pure (And.intro rfl h')) fun _ _ x => x))))
def NoTup (h : Heap) (X : Addr) : Prop := ∀ r t n, h.get? X ≠ some (tupO r t n)
theorem NoTup.ns {h : Heap} {X : Addr} {m : Str → Option Value} (hn : h.Ns X m) : NoTup h X := fun r t n q => by
  obtain ⟨o, es, ep, h1, h2⟩ := ns_data hn
  rw [h1] at q; cases q; cases h2
theorem NoTup.iter {h : Heap} {X l : Addr} {i : Nat} (hn : h.IsListIter X l i) : NoTup h X := fun r t n q => by
  obtain ⟨o, h1, h2, h3⟩ := hn
  rw [h1] at q; cases q; cases h3
theorem NoTup.list {h : Heap} {X : Addr} {ys : Array Value} (hn : h.PlainList X ys) : NoTup h X := fun r t n q => by
  obtain ⟨k, h1⟩ := hn
  exact absurd (congrArg Obj.cls (Option.some.inj (h1.symm.trans q))) (by simp)
theorem rows_keep {h h' : Heap} {X : Addr} {rs : List Row} {ys : List Value} (hp : Paired (RowAt h) rs ys) (hx : NoTup h X) (hk : ∀ b o, b ≠ X → h.get? b = some o → h'.get? b = some o) : Paired (RowAt h') rs ys :=
  paired_mono (by rintro r v ⟨a, t, n, e, q⟩; exact ⟨a, t, n, e, hk _ _ (fun z => hx r t n (z ▸ q)) q⟩) hp
theorem rows_up {h h' : Heap} {rs : List Row} {ys : List Value} (hp : Paired (RowAt h) rs ys) (hk : ∀ b o, h.get? b = some o → h'.get? b = some o) : Paired (RowAt h') rs ys :=
  paired_mono (by rintro r v ⟨a, t, n, e, q⟩; exact ⟨a, t, n, e, hk _ _ q⟩) hp
theorem stays_rows {rs : List Row} : Stays (fun h ys => Paired (RowAt h) rs ys) := fun h h' X mx ys hn hk hp => rows_keep hp (NoTup.ns hn) hk
theorem inner {e : PySem.Expr} {t1 it1 it2 : PySem.Expr} {row : Str} {pr pw : Pos} {scope : Scope} {cl : List (Str × Addr)} {pos : Pos} {C D J a2 : Addr} {n2 : Nat} {vs2 : List Value} {rs2 rs0 : List Row} {ys0 : Array Value} {H0 : Heap} {tk0 : Nat} {m0 : Str → Option Value}
    (he : e = .ListComp (.Name row pr) [⟨t1, it1, [], 0⟩, ⟨.Name row pw, it2, [], 0⟩] scope pos)
    (hh : A.handled = none) (hkind : scope.kind = .function) (hrow : scope.names.lookup row = some .local) (hdbg : (row == ("__debug__" : Str)) = false)
    (hn : H0.Ns C m0) (hit : H0.IsListIter J a2 0) (hl : H0.get? a2 = some (lo vs2.toArray n2)) (hacc : H0.PlainList D ys0) (hrs0 : Paired (RowAt H0) rs0 ys0.toList) (hrs2 : Paired (RowAt H0) rs2 vs2)
    (hDC : D ≠ C) (hDJ : D ≠ J) (hJC : J ≠ C) (haC : a2 ≠ C) (haD : a2 ≠ D) (haJ : a2 ≠ J) (hsz : rs0.length + rs2.length ≤ 10000)
    (hR : ∀ h' tk m' ys, h'.Ns C m' → h'.PlainList D ys → Paired (RowAt h') (rs0 ++ rs2) ys.toList → (∀ b o, b ≠ C → b ≠ D → b ≠ J → H0.get? b = some o → h'.get? b = some o) → R (.ok .next) { st with heap := h', toks := tk }) :
    codeAny (model PWx w) A (.compLoop e 1 (.ref J) (.ref D) (compEnvC scope cl C env)) R { st with heap := H0, toks := tk0 } := by
  subst he
  have hl2 := hrs2.length
  refine codeAny_loop rfl (fun n s' => ∃ h' tk m' ys j, s' = { st with heap := h', toks := tk } ∧ h'.IsListIter J a2 j ∧ h'.PlainList D ys ∧ h'.Ns C m' ∧ (∀ b o, b ≠ C → b ≠ D → b ≠ J → H0.get? b = some o → h'.get? b = some o) ∧
      Paired (RowAt h') (rs0 ++ rs2.take j) ys.toList ∧ j ≤ vs2.length ∧ n = vs2.length + 1 - j) (fun n s' hI => ?_) (vs2.length + 1)
    ⟨H0, tk0, m0, ys0, 0, rfl, hit, hacc, hn, fun _ _ _ _ _ e => e, by simpa using hrs0, Nat.zero_le _, rfl⟩
  obtain ⟨H, tk, m', ys, j, rfl, hit', hacc', hn', hk, hF, hj, rfl⟩ := hI
  show wpAny _ A ((compTurn (.ListComp (.Name row pr) [⟨t1, it1, [], 0⟩, ⟨.Name row pw, it2, [], 0⟩] scope pos) 1 (.ref J) (.ref D) (compEnvC scope cl C env)).onRaise (fun x => do noteFrame x (compEnvC scope cl C env); theTreesLotGoes x)) _ _ _
  refine wpAny_noted ?_
  rw [turn1]
  refine wpAny_bind (wpAny_standAt (wpAny_bind ?_))
  have hl' : H.IsList a2 vs2.toArray := ⟨_, hk _ _ haC haD haJ hl, rfl, _, rfl⟩
  cases hv : vs2[j]? with
  | none =>
    have hle : vs2.length ≤ j := List.getElem?_eq_none_iff.mp hv
    refine wpAny_pyNext_list_end hh hit' hl' (by simpa using hv) fun h₁ he₁ => ?_
    refine wpAny_pure ?_
    rw [List.take_of_length_le (by omega)] at hF
    exact hR h₁ tk m' ys (hn'.extBut he₁ (Ne.symm hJC)) (hacc'.at fun o e => he₁ _ o hDJ e) (rows_keep hF (NoTup.iter hit') he₁) fun b o h1 h2 h3 e => he₁ b o h3 (hk b o h1 h2 h3 e)
  | some v =>
    have hlt : j < vs2.length := (List.getElem?_eq_some_iff.mp hv).1
    obtain ⟨r, hr, hRow⟩ := paired_at hrs2 hv
    have hRowH : RowAt H r v := by
      obtain ⟨T, t, nt, e, q⟩ := hRow
      have := NoTup.ns hn r t nt
      exact ⟨T, t, nt, e, hk T _ (fun z => NoTup.ns hn r t nt (z ▸ q)) (fun z => NoTup.list hacc r t nt (z ▸ q)) (fun z => NoTup.iter hit r t nt (z ▸ q)) q⟩
    refine wpAny_pyNext_list_item hit' hl' (by simpa using hv) fun h₁ hit₁ hs₁ => ?_
    have hRow1 : RowAt h₁ r v := by
      obtain ⟨T, t, nt, e, q⟩ := hRowH
      exact ⟨T, t, nt, e, hs₁.extBut _ _ (fun z => NoTup.iter hit' r t nt (z ▸ q)) q⟩
    refine wpAny_bind (wpAny_pure ?_)
    have hn₁ : h₁.Ns C m' := hn'.sameBut hs₁ (Ne.symm hJC)
    refine wpAny_bind (wpAny_assign_Name (wpAny_storeName_local (lookup_relabel_local hrow) hn₁ (fun h₂ hn₂ hs₂ => ?_) (by simp [compEnvC, relabel, hkind])))
    have hs₂ : Heap.SameBut C h₁ h₂ := hs₂
    have hn₂ : h₂.Ns C (fun x => if x = row then some v else m' x) := hn₂
    refine wpAny_bind (wpAny_tests_nil ?_)
    have hRow2 : RowAt h₂ r v := by
      obtain ⟨T, t, nt, e, q⟩ := hRow1
      exact ⟨T, t, nt, e, hs₂.extBut _ _ (fun z => NoTup.ns hn₁ r t nt (z ▸ q)) q⟩
    have hacc₂ : h₂.PlainList D ys := hacc'.at fun o e => hs₂.extBut _ o hDC (hs₁.extBut _ o hDJ e)
    have hF₂ : Paired (RowAt h₂) (rs0 ++ rs2.take j) ys.toList := rows_keep (rows_keep hF (NoTup.iter hit') hs₁.extBut) (NoTup.ns hn₁) hs₂.extBut
    refine wpAny_bind (wpAny_bind (wpAny_Name (wpAny_loadName_local (by simp [compEnvC, relabel, hkind]) (lookup_relabel_local hrow) hn₂ (if_pos rfl) ?_) hdbg))
    have hys : ys.size ≤ sizeLine := by
      have e1 := hF.length
      have e3 : sizeLine = 16777216 := rfl
      rw [List.length_append, List.length_take] at e1
      have e4 : ys.toList.length = ys.size := by simp
      omega
    refine wpAny_bind (wpAny_list_append_plain (hsz := hys) hacc₂ fun h₅ hl₅ hs₅ => ?_)
    refine wpAny_pure (wpAny_pure ⟨rfl, ?_⟩)
    refine ⟨vs2.length + 1 - (j + 1), by omega, h₅, _, _, ys.push v, j + 1, rfl, ?_, hl₅, hn₂.sameBut hs₅ (Ne.symm hDC), ?_, ?_, hlt, rfl⟩
    · exact ((hit₁.extBut hs₂.extBut hJC)).extBut hs₅.extBut (Ne.symm hDJ)
    · intro b o h1 h2 h3 e
      exact hs₅.extBut b o h2 (hs₂.extBut b o h1 (hs₁.extBut b o h3 (hk b o h1 h2 h3 e)))
    · have hF5 := rows_keep hF₂ (NoTup.list hacc₂) hs₅.extBut
      have hR5 : RowAt h₅ r v := by
        obtain ⟨T, t, nt, e, q⟩ := hRow2
        exact ⟨T, t, nt, e, hs₅.extBut _ _ (fun z => NoTup.list hacc₂ r t nt (z ▸ q)) q⟩
      rw [List.take_add_one, hr, ← List.append_assoc]
      simpa using Paired.snoc hF5 hR5
theorem core_nest {it1 it2 : PySem.Expr} {ln row : Str} {pl pr pw : Pos} {scope : Scope} {cl : List (Str × Addr)} {pos : Pos} {s₁ : Shared} {a : Addr} {vs : List Value} {as : List Tx} {f : Tx → List Row}
    (hh : A.handled = none) (hkind : scope.kind = .function) (hln : scope.names.lookup ln = some .local) (hrow : scope.names.lookup row = some .local) (hdbg : (row == ("__debug__" : Str)) = false)
    (hl : s₁.heap.IsList a vs.toArray) (hv9 : ∀ (i : Nat) v, vs[i]? = some v → ∃ l u, as[i]? = some l ∧ v = .str (s l) u) (hlen : as.length = vs.length) (hsz : (as.flatMap f).length ≤ 10000)
    (hit2 : ∀ C l u s₂ m₂ E', l ∈ as → s₂.heap.Ns C m₂ → m₂ ln = some (.str (s l) u) → Kp s₁.heap s₂.heap →
      wpAny (model PWx w) A (eval it2 (compEnvC scope cl C env)) (fun xv s₃ => ∃ a2 vs2 n2, xv = .ref a2 ∧ s₂.heap.get? a2 = none ∧ s₃.heap.get? a2 = some (lo (List.toArray vs2) n2) ∧ Paired (RowAt s₃.heap) (f l) vs2 ∧ Keeps s₂ s₃) E' s₂)
    (hs2 : ∀ C x, foldedSetIterable it2 (compEnvC scope cl C env) x = pure x := by intro _ _; rfl) :
    Core w A (.ListComp (.Name row pr) [⟨.Name ln pl, it1, [], 0⟩, ⟨.Name row pw, it2, [], 0⟩] scope pos) scope cl env s₁ a (fun h ys => Paired (RowAt h) (as.flatMap f) ys) := by
  intro R C I D h₃ tk₃ m₃ hn hit hacc hDC hDI hIC hC0 hI0 hD0 old hR
  have nI : ∀ b o, s₁.heap.get? b = some o → b ≠ I := fun b o e q => by rw [q, hI0] at e; cases e
  have nC : ∀ b o, s₁.heap.get? b = some o → b ≠ C := fun b o e q => by rw [q, hC0] at e; cases e
  have nD : ∀ b o, s₁.heap.get? b = some o → b ≠ D := fun b o e q => by rw [q, hD0] at e; cases e
  refine codeAny_loop rfl (fun n s' => ∃ h' tk m' ys i, s' = { s₁ with heap := h', toks := tk } ∧ h'.IsListIter I a i ∧ h'.PlainList D ys ∧ h'.Ns C m' ∧ Kp s₁.heap h' ∧
      Paired (RowAt h') ((as.take i).flatMap f) ys.toList ∧ i ≤ vs.length ∧ n = vs.length + 1 - i) (fun n s' hI => ?_) (vs.length + 1)
    ⟨h₃, tk₃, m₃, #[], 0, rfl, hit, hacc, hn, old, by simpa using Paired.nil, Nat.zero_le _, rfl⟩
  obtain ⟨H, tk, m', ys, i, rfl, hit', hacc', hn', hk, hF, hi, rfl⟩ := hI
  show wpAny _ A ((compTurn (.ListComp (.Name row pr) [⟨.Name ln pl, it1, [], 0⟩, ⟨.Name row pw, it2, [], 0⟩] scope pos) 0 (.ref I) (.ref D) (compEnvC scope cl C env)).onRaise (fun x => do noteFrame x (compEnvC scope cl C env); theTreesLotGoes x)) _ _ _
  refine wpAny_noted ?_
  rw [turn0]
  refine wpAny_bind (wpAny_standAt (wpAny_bind ?_))
  have hl' : H.IsList a vs.toArray := hl.at fun o e => hk _ o e
  cases hv : vs[i]? with
  | none =>
    have hle : vs.length ≤ i := List.getElem?_eq_none_iff.mp hv
    refine wpAny_pyNext_list_end hh hit' hl' (by simpa using hv) fun h₁ he₁ => ?_
    refine wpAny_pure ?_
    rw [List.take_of_length_le (by omega)] at hF
    obtain ⟨k, hD⟩ := hacc'
    exact hR h₁ tk m' ys.toList k (hn'.extBut he₁ (Ne.symm hIC)) (by simpa using he₁ _ _ hDI hD) (rows_keep hF (NoTup.iter hit') he₁) fun b o e => he₁ b o (nI b o e) (hk b o e)
  | some v =>
    have hlt : i < vs.length := (List.getElem?_eq_some_iff.mp hv).1
    obtain ⟨l, u, hli, rfl⟩ := hv9 i v hv
    refine wpAny_pyNext_list_item hit' hl' (by simpa using hv) fun h₁ hit₁ hs₁ => ?_
    refine wpAny_bind (wpAny_pure ?_)
    have hn₁ : h₁.Ns C m' := hn'.sameBut hs₁ (Ne.symm hIC)
    refine wpAny_bind (wpAny_assign_Name (wpAny_storeName_local (lookup_relabel_local hln) hn₁ (fun h₂ hn₂ hs₂ => ?_) (by simp [compEnvC, relabel, hkind])))
    have hs₂ : Heap.SameBut C h₁ h₂ := hs₂
    have hn₂ : h₂.Ns C (fun x => if x = ln then some (.str (s l) u) else m' x) := hn₂
    refine wpAny_bind (wpAny_tests_nil ?_)
    have up : Kp s₁.heap h₂ := fun b o e => hs₂.extBut b o (nC b o e) (hs₁.extBut b o (nI b o e) (hk b o e))
    have hF₂ : Paired (RowAt h₂) ((as.take i).flatMap f) ys.toList := rows_keep (rows_keep hF (NoTup.iter hit') hs₁.extBut) (NoTup.ns hn₁) hs₂.extBut
    have hacc₂ : h₂.PlainList D ys := hacc'.at fun o e => hs₂.extBut _ o hDC (hs₁.extBut _ o hDI e)
    have hit₂ : h₂.IsListIter I a (i + 1) := hit₁.extBut hs₂.extBut hIC
    refine wpAny_bind (wpAny_mono (hit2 C l u _ _ _ (List.mem_of_getElem? hli) hn₂ (if_pos rfl) up) (fun xv s₃ h₃' => ?_) fun _ _ e => e)
    obtain ⟨a2, vs2, n2, rfl, hfr, ha2, hp2, h3, tk3, rfl, hk3⟩ := h₃'
    refine wpAny_bind (wpAny_standAt (wpAny_bind (wpAny_of_eq (hs2 C _) (wpAny_bind (wpAny_holding ?_)))))
    refine wpAny_pyIter_list ⟨_, ha2, rfl, _, rfl⟩ ?_
    have hfr' : h₂.get? a2 = none := hfr
    have hk3' : Kp h₂ h3 := hk3
    have hn3 := hn₂.keeps hk3'
    have hacc3 : h3.PlainList D ys := hacc₂.at fun o e => hk3' _ o e
    have haC : a2 ≠ C := fun q => by obtain ⟨o, _, _, e, _⟩ := ns_data hn₂; rw [q, e] at hfr'; cases hfr'
    have haD : a2 ≠ D := fun q => by obtain ⟨k, e⟩ := hacc₂; rw [q, e] at hfr'; cases hfr'
    have haI : a2 ≠ I := fun q => by obtain ⟨o, e, _⟩ := hit₂; rw [q, e] at hfr'; cases hfr'
    generalize hJ : h3.objs.size = J
    have hlt3 : ∀ b o, h3.get? b = some o → b ≠ J := fun b o e => hJ ▸ Nat.ne_of_lt (Heap.lt_size e)
    have hJC : J ≠ C := fun q => by obtain ⟨o, _, _, e, _⟩ := ns_data hn3; exact hlt3 _ _ e q.symm
    have hDJ : D ≠ J := by obtain ⟨k, e⟩ := hacc3; exact hlt3 _ _ e
    have hitJ : (h3.push { cls := .type "list_iterator", data := .fields #[.ref a2, .int 0 0] }).IsListIter J a2 0 := by
      subst hJ; exact ⟨_, Heap.get?_push_size _ rfl, rfl, rfl⟩
    have hpush : Kp h3 (h3.push { cls := .type "list_iterator", data := .fields #[.ref a2, .int 0 0] }) := fun b o e => Heap.get?_push_of_some _ e
    have hszz : ((as.take i).flatMap f).length + (f l).length ≤ 10000 := by
      have e0 : as = as.take i ++ l :: as.drop (i + 1) := by rw [← drop_atG hli, List.take_append_drop]
      have := congrArg (fun z => (z.flatMap f).length) e0
      simp only [List.flatMap_append, List.flatMap_cons, List.length_append] at this
      omega
    refine wpAny_bind (wpAny_runOwn ?_)
    refine start1 ?_ (wpAny_pyIter_listiter hitJ ?_)
    all_goals
      refine inner (A := A.mark none) (st := s₁) (vs2 := vs2) (rs2 := f l) (rs0 := (as.take i).flatMap f) (n2 := n2) rfl (by rw [Around.mark_none]; exact hh) hkind hrow hdbg (hn3.keeps hpush) hitJ (hpush _ _ ha2) (hacc3.at fun o e => hpush _ o e) (rows_up (rows_up hF₂ hk3') hpush) (rows_up hp2 hpush)
        hDC hDJ hJC haC haD (hlt3 _ _ ha2) hszz (fun h' tk m' ys hnf hDf hFf hkf => ?_)
      have hkf' : ∀ b o, b ≠ C → b ≠ D → b ≠ J → h3.get? b = some o → h'.get? b = some o := fun b o h1 h2 h3 e => hkf b o h1 h2 h3 (hpush _ _ e)
      refine wpAny_pure ⟨rfl, vs.length + 1 - (i + 1), by omega, h', tk, m', ys, i + 1, rfl, ?_, hDf, hnf, ?_, ?_, hlt, rfl⟩
      · obtain ⟨o, e, h1, h2⟩ := hit₂
        exact ⟨o, hkf' _ _ hIC (Ne.symm hDI) (hlt3 _ _ (hk3' _ _ e)) (hk3' _ _ e), h1, h2⟩
      · intro b o e
        exact hkf' b o (nC b o e) (nD b o e) (hlt3 _ _ (hk3' _ _ (up b o e))) (hk3' _ _ (up b o e))
      · rw [List.take_add_one, hli]
        simpa using hFf
end
end Mine
end
section
open PySem PySem.W PyProof.Rows PySem.Calls
set_option maxRecDepth 100000
set_option maxHeartbeats 1000000
set_option linter.unusedVariables false
namespace Mine
/-! two lists of texts -/
theorem str_canLay : ∀ ns : List Str, (∀ x ∈ ns, PyData.strOk x = true) → PyData.canLayAll0 (ns.map PyData.str) = true
  | [], _ => rfl
  | a :: r, h => by simp [PyData.canLayAll0, PyData.canLay0, h a (by simp), str_canLay r fun x hx => h x (by simp [hx])]
theorem str_depth : ∀ ns : List Str, PyData.depthAll (ns.map PyData.str) = 0
  | [] => rfl
  | _ :: r => by simp [PyData.depthAll, PyData.depth, str_depth r]
theorem str_shaped (ns : List Str) (h : ∀ x ∈ ns, PyData.strOk x = true) : SeqAt.shaped (.list (ns.map PyData.str)) = true := by
  simp [SeqAt.shaped, PyData.canLay0, PyData.depth, str_canLay ns h, str_depth]
theorem str_sameAll : ∀ ns : List Str, PySem.Spec.sameAll (ns.map PyData.str) (ns.map PyData.str) = true
  | [] => by simp [PySem.Spec.sameAll]
  | a :: r => by simp only [List.map_cons, PySem.Spec.sameAll, PySem.Spec.same, str_sameAll r]; simp
theorem ne_strs {prog : Program} {w : World} {A : Around} {E : Value → Shared → Prop} {s : Shared} {a b : Addr} {xs ys : List Value} {ss : List Str} {Q : Value → Shared → Prop}
    (ha : s.heap.IsList a xs.toArray) (hb : s.heap.IsList b ys.toArray) (hi : StrsAre xs ss) (hj : StrsAre ys ss) (hok : ∀ x ∈ ss, PyData.strOk x = true) (hu : A.units + 64 < cLine) (h : Q (.bool false) s) :
    wpAny (model prog w) A (compareOp .NotEq (.ref a) (.ref b)) Q E s :=
  ne_dataH_same (reads_newData ha (StrsAre.carried hi)) (reads_newData hb (StrsAre.carried hj)) (str_shaped _ hok) (str_shaped _ hok) hu (SeqAt.noMix_of_shape (.list .str) rfl _ _ (list_map_has fun _ => rfl) (list_map_has fun _ => rfl))
    (by rw [show PySem.Spec.same (.list (ss.map PyData.str)) (.list (ss.map PyData.str)) = true from by simp only [PySem.Spec.same]; exact str_sameAll ss]; exact h)
def lawFor : Stmt := match dLaw.body[2]? with | some x => x | _ => .Pass ⟨0, 0, 0, 0⟩
def lawForBody : List Stmt := match lawFor with | .For _ _ b _ _ => b | _ => []
def lawTail : List Stmt := dLaw.body.drop 3
section
variable {M : Model} {A : Around} {E : Value → Shared → Prop} {s : Shared} {Q : Flow → Shared → Prop}
abbrev lawEnv (sc : Scope) (L : Addr) : Env := envOfC (Str.ofString "law") sc L 108 (.ref 107)
theorem castB {kd : ScopeKind} {nm : List (Str × NameKind)} {ge co : Bool} {mo : List (Str × Const)} {x1 x2 x3 x4 x5 x6 x7 x8 : Stmt} {L : Addr} (hs : dLaw.scope = ⟨kd, nm, ge, co, mo⟩) (hb : lawForBody = [x1, x2, x3, x4, x5, x6, x7, x8])
    (h : wpAny M (A.deeper (lawEnv ⟨kd, nm, ge, co, mo⟩ L)) (execs [x1, x2, x3, x4, x5, x6, x7, x8] (lawEnv ⟨kd, nm, ge, co, mo⟩ L)) Q E s) :
    wpAny M (A.deeper (lawEnv dLaw.scope L)) (execs lawForBody (lawEnv dLaw.scope L)) Q E s := by rw [hs, hb]; exact h
theorem castT {kd : ScopeKind} {nm : List (Str × NameKind)} {ge co : Bool} {mo : List (Str × Const)} {x1 x2 x3 x4 x5 : Stmt} {L : Addr} (hs : dLaw.scope = ⟨kd, nm, ge, co, mo⟩) (hb : lawTail = [x1, x2, x3, x4, x5])
    (h : wpAny M (A.deeper (lawEnv ⟨kd, nm, ge, co, mo⟩ L)) (execs [x1, x2, x3, x4, x5] (lawEnv ⟨kd, nm, ge, co, mo⟩ L)) Q E s) :
    wpAny M (A.deeper (lawEnv dLaw.scope L)) (execs lawTail (lawEnv dLaw.scope L)) Q E s := by rw [hs, hb]; exact h
end
section
variable {w : World} {mg mb : Str → Option Value} {lo : List Str}
theorem enterC {A : Around} {s : Shared} {R : Result → Shared → Prop} {f : Addr} {name qual : Str} {params : Arguments} {body : List Stmt} {scope : Scope} {dV kV doc pm cdv ct : Value} {an : Option Addr} {args : List Value} {binds : List (Str × Value)}
    (X : (KF w.params).In s.heap) (T : TopRead Qv lo mg mb s.heap) (hroom : A.depth < recursionLimit)
    (ho : (KF w.params).lookup f = some ⟨.type "function", none, .func (fnOf name qual params body scope dV kV doc pm an cdv ct), ⟨[]⟩⟩)
    (hcd : codeIn (KF w.params) cdv qual = true) (hbind : bindArgs (fnOf name qual params body scope dV kV doc pm an cdv ct) ⟨args, []⟩ = pure binds)
    (hkind : ∀ x ∈ binds, scope.names.lookup x.1 = some .local ∨ (scope.names.lookup x.1 = some .cell ∧ ((cellsFrom (s.heap.objs.size + 1) scope.names []).lookup x.1).isSome = true))
    (h : ∀ h₁ tk, Fr s.heap s.heap.objs.size h₁ (bindL (envOfC qual scope s.heap.objs.size f cdv).kindOf binds fun _ => none) →
      Cl s.heap.objs.size (cellsFrom (s.heap.objs.size + 1) scope.names []) h₁ (bindC (envOfC qual scope s.heap.objs.size f cdv).kindOf binds fun _ => none) →
      wpAny (model PWx w) (A.deeper (envOfC qual scope s.heap.objs.size f cdv)) (execs body (envOfC qual scope s.heap.objs.size f cdv))
        (fun fl s' => R (.ok (.ret (match fl with | .ret v => v | _ => .none))) s') (fun _ _ => False) { s with heap := h₁, toks := tk })
    (hco : scope.isCoroutine = false := by rfl) (hgen : scope.isGenerator = false := by rfl) (hk : scope.kind = .function := by rfl) : codeAny (model PWx w) A (.call (.ref f) ⟨args, []⟩) R s := by
  refine codeAny_call_cells (fd := fnOf name qual params body scope dV kV doc pm an cdv ct) hroom (X _ _ ho) rfl T.nolimit (codeRec_of X hcd) rfl hbind rfl hkind (fun s₁ Y => ?_) hco hgen hk
  obtain ⟨h₁, tk, rfl, _⟩ := Y.done
  exact wpAny_mono (h h₁ tk ⟨Y.toInCall.ns, Y.toInCall.keep, Y.toInCall.fresh⟩ ⟨Y.cell, Y.apart, Y.above⟩) (fun _ _ x => x) (fun _ _ x => x.elim)
end
def SR (l : Tx) (v : Value) : Prop := ∃ u, v = .str (s l) u
theorem SR.fun (a b : Tx) (v : Value) (h : SR a v) (g : SR b v) : a = b := by
  obtain ⟨u, rfl⟩ := h; obtain ⟨u', e⟩ := g
  have := (Value.str.inj e).1
  exact s_inj.mp this
theorem strs_at : ∀ {vs : List Value} {ls : List Tx}, StrsAre vs (ls.map s) → ∀ {i : Nat} {v : Value}, vs[i]? = some v → ∃ l, ls[i]? = some l ∧ SR l v
  | _, [], .nil, i, v, h => by simp at h
  | _, l :: ls, .cons _ t h, 0, v, e => by simp at e; subst e; exact ⟨l, rfl, t, rfl⟩
  | _, l :: ls, .cons _ t h, i + 1, v, e => by
    obtain ⟨a, h1, h2⟩ := strs_at h (i := i) (v := v) (by simpa using e)
    exact ⟨a, by simpa using h1, h2⟩
theorem strs_of {α : Type} {f : α → Tx} : ∀ {as : List α} {ys : List Value}, Paired (fun a v => SR (f a) v) as ys → StrsAre ys ((as.map f).map s)
  | _, _, .nil => .nil
  | _, _, .cons ⟨u, e⟩ t => by subst e; exact .cons _ _ (strs_of t)
theorem enc_lt {c : Nat} (h : okC c = true) : ∀ x ∈ enc c, x < 128 := by
  rcases okC_cases h with rfl | rfl | rfl | rfl | rfl | rfl | rfl <;> simp [enc, isP, hexd]
theorem encs_lt {l : Tx} (h : OkC l) : ∀ x ∈ encs l, x < 128 := by
  intro x hx
  obtain ⟨c, hc, hm⟩ := List.mem_flatMap.mp hx
  exact enc_lt (h c hc) x hm
theorem written_lt {p : Row} (h : OkC p.1) : ∀ x ∈ written p, x < 128 := by
  obtain ⟨l, b⟩ := p
  have h0 := encs_lt h
  have h1 := encs_lt (l := l.dropLast) fun c hc => h c (mem_dl hc)
  intro x hx
  unfold written at hx
  simp only at h0 hx
  split at hx
  · rcases List.mem_append.mp hx with q | q
    · exact h0 x q
    · simp at q; omega
  · split at hx
    · split at hx
      · rename_i hw
        rcases List.mem_append.mp hx with q | q
        · exact h1 x q
        · rcases isW_cases hw with rfl | rfl <;> simp [q2] at q <;> omega
      · exact h0 x hx
    · exact h0 x hx
theorem marked_lt {r : Tx} (h : ∀ x ∈ r, x < 128) : ∀ x ∈ marked r, x < 128 := by
  intro x hx
  unfold marked at hx
  split at hx
  · simp at hx; omega
  · rcases List.mem_cons.mp hx with q | q
    · omega
    · rcases List.mem_cons.mp q with q | q
      · omega
      · exact h x q
theorem strOk_of {l : Tx} (h : ∀ x ∈ l, x < 128) : PyData.strOk (s l) = true := by
  show (Array.mk l).all (fun x => decide (x < 0x110000)) = true
  simp only [List.all_toArray, List.all_eq_true, decide_eq_true_eq]
  intro x hx
  have := h x hx
  omega
theorem stays_const {P : List Value → Prop} : Stays (fun _ ys => P ys) := fun _ _ _ _ _ _ _ h => h
end Mine
end
section
open PySem PySem.W PyProof.Rows PySem.Calls
set_option maxRecDepth 100000
set_option maxHeartbeats 1000000
set_option linter.unusedVariables false
namespace Mine
def wch (x : Nat) : Bool := x == 97 || x == 32 || x == 9 || x == 35 || x == 61 || (48 ≤ x && x ≤ 57) || (65 ≤ x && x ≤ 70)
theorem wch_lb : ∀ x, wch x = true → PySem.Unicode.isLineBreak x = false := by
  have h : ∀ x < 128, wch x = true → PySem.Unicode.isLineBreak x = false := by decide +kernel
  intro x hx
  refine h x ?_ hx
  simp [wch] at hx; omega
theorem enc_wch {c : Nat} (h : okC c = true) : ∀ x ∈ enc c, wch x = true := by
  rcases okC_cases h with rfl | rfl | rfl | rfl | rfl | rfl | rfl <;> simp [enc, isP, hexd, wch]
theorem encs_wch {l : Tx} (h : OkC l) : ∀ x ∈ encs l, wch x = true := by
  intro x hx
  obtain ⟨c, hc, hm⟩ := List.mem_flatMap.mp hx
  exact enc_wch (h c hc) x hm
theorem written_wch {p : Row} (h : OkC p.1) : ∀ x ∈ written p, wch x = true := by
  obtain ⟨l, b⟩ := p
  have h0 := encs_wch h
  have h1 := encs_wch (l := l.dropLast) fun c hc => h c (mem_dl hc)
  intro x hx
  unfold written at hx
  simp only at h0 hx
  split at hx
  · rcases List.mem_append.mp hx with q | q
    · exact h0 x q
    · simp at q; subst q; rfl
  · split at hx
    · split at hx
      · rename_i hw
        rcases List.mem_append.mp hx with q | q
        · exact h1 x q
        · rcases isW_cases hw with rfl | rfl <;> simp [q2] at q <;> rcases q with rfl | rfl | rfl <;> rfl
      · exact h0 x hx
    · exact h0 x hx
theorem marked_wch {r : Tx} (h : ∀ x ∈ r, wch x = true) : ∀ x ∈ marked r, wch x = true := by
  intro x hx
  unfold marked at hx
  split at hx
  · simp at hx; subst hx; rfl
  · rcases List.mem_cons.mp hx with q | q
    · subst q; rfl
    · rcases List.mem_cons.mp q with q | q
      · subst q; rfl
      · exact h x q
theorem jn_mem : ∀ {t : List Tx} {x : Nat}, x ∈ jn t → x = 10 ∨ ∃ a ∈ t, x ∈ a
  | [], x, h => by simp [jn] at h
  | [a], x, h => .inr ⟨a, by simp, h⟩
  | a :: b :: t, x, h => by
    rw [jn_cons _ (by simp)] at h
    rcases List.mem_append.mp h with h | h
    · exact .inr ⟨a, by simp, h⟩
    · rcases List.mem_cons.mp h with h | h
      · exact .inl h
      · rcases jn_mem h with q | ⟨c, hc, q⟩
        · exact .inl q
        · exact .inr ⟨c, List.mem_cons_of_mem _ hc, q⟩
theorem jn_lb {t : List Tx} (h : ∀ a ∈ t, ∀ x ∈ a, wch x = true) : ∀ c ∈ jn t, PySem.Unicode.isLineBreak c = true → c = 10 := by
  intro c hc hl
  rcases jn_mem hc with q | ⟨a, ha, q⟩
  · exact q
  · rw [wch_lb c (h a ha c q)] at hl; cases hl
theorem okT_lb {T : Tx} (h : OkT T) : ∀ c ∈ T, PySem.Unicode.isLineBreak c = true → c = 10 := by
  have H : PySem.Unicode.isLineBreak 97 = false ∧ PySem.Unicode.isLineBreak 32 = false ∧ PySem.Unicode.isLineBreak 9 = false ∧ PySem.Unicode.isLineBreak 35 = false ∧ PySem.Unicode.isLineBreak 61 = false ∧ PySem.Unicode.isLineBreak 233 = false ∧ PySem.Unicode.isLineBreak 160 = false := by decide +kernel
  intro c hc hl
  rcases okT_cases (h c hc) with rfl | rfl | rfl | rfl | rfl | rfl | rfl | rfl
  · rfl
  all_goals simp [H] at hl
theorem slns_sub {T a : Tx} (h : a ∈ slns T) : a ∈ lns T := by
  unfold slns at h
  split at h
  · exact mem_dl h
  · exact h
theorem okGo_enc {c : Nat} (h : okC c = true) (r : Tx) : okGo (enc c ++ r) = okGo r := by
  rcases okC_cases h with rfl | rfl | rfl | rfl | rfl | rfl | rfl <;> first | (simp [enc, isP, hexd, okGo, isHex, okPair]; done) | exact (go_plain (by decide)).2
theorem okGo_encs {l : Tx} (h : OkC l) (r : Tx) : okGo (encs l ++ r) = okGo r := by
  induction l with
  | nil => rfl
  | cons c l ih =>
    show okGo ((enc c ++ encs l) ++ r) = _
    rw [List.append_assoc, okGo_enc (h c (by simp)), ih fun x hx => h x (by simp [hx])]
theorem okGo_written {p : Row} (h : OkC p.1) : okGo (written p) = true := by
  obtain ⟨l, b⟩ := p
  have h0 : okGo (encs l) = true := by have := okGo_encs h []; rw [List.append_nil] at this; rw [this]; rfl
  unfold written
  simp only
  split
  · rw [okGo_encs h]; simp [okGo]
  · split
    · split
      · rename_i hw
        rw [okGo_encs (l := l.dropLast) fun c hc => h c (mem_dl hc)]
        rcases isW_cases hw with rfl | rfl <;> simp [q2, okGo, isHex, okPair]
      · exact h0
    · exact h0
theorem okGo_marked {r : Tx} (h : okGo r = true) : okGo (marked r) = true := by
  unfold marked
  split
  · simp [okGo]
  · rw [(go_plain (by decide)).2, (go_plain (by decide)).2]; exact h
theorem okGo_raw : ∀ (n : Nat) (l : Tx), l.length ≤ n → OkC l → okGo l = true
  | 0, l, h, _ => by
    have : l = [] := List.length_eq_zero_iff.mp (by omega)
    subst this; rfl
  | n + 1, [], _, _ => rfl
  | n + 1, [c], h, ok => by rw [okGo.eq_def]; simp only; split <;> simp [okGo]
  | n + 1, [c, x], h, ok => by
    rw [okGo.eq_def]; simp only
    have := okGo_raw n [x] (by simp at h ⊢; omega) fun y hy => ok y (by simp [hy])
    split <;> exact this
  | n + 1, c :: x :: y :: r, h, ok => by
    have h1 := okGo_raw n (x :: y :: r) (by simp at h ⊢; omega) fun z hz => ok z (List.mem_cons_of_mem _ hz)
    have h2 := okGo_raw n r (by simp at h ⊢; omega) fun z hz => ok z (by simp [hz])
    rw [okGo.eq_def]; simp only
    split
    · exact h1
    · split
      · rename_i hx
        rw [Bool.and_eq_true] at hx
        have hexa : ∀ {z}, okC z = true → isHex z = true → z = 97 := by
          intro z h1 h2
          rcases okC_cases h1 with rfl | rfl | rfl | rfl | rfl | rfl | rfl <;> first | rfl | (simp [isHex] at h2)
        have e1 := hexa (ok x (by simp)) hx.1
        have e2 := hexa (ok y (by simp)) hx.2
        subst e1 e2
        rw [h2]; rfl
      · exact h1
theorem okC_lt {c : Nat} (h : okC c = true) : c < 256 := by
  rcases okC_cases h with rfl | rfl | rfl | rfl | rfl | rfl | rfl <;> decide
theorem sum_mem {t : List Tx} {a : Tx} (h : a ∈ t) : a.length + 1 ≤ wsum t := by
  induction t with
  | nil => cases h
  | cons b t ih =>
    rw [wsum_cons]
    rcases List.mem_cons.mp h with rfl | h
    · omega
    · have := ih h; omega
theorem lns_wsum (T : Tx) : wsum (lns T) = T.length + 1 := by
  have h2 := jn_len (lns T) (lns_ne T)
  rw [jn_lns] at h2; exact h2
theorem lns_len {T a : Tx} (h : a ∈ lns T) : a.length ≤ T.length := by
  have := sum_mem h; rw [lns_wsum] at this; omega
theorem rows_row_len (w : Nat) (r : Tx) : ∀ p ∈ rows w r, p.1.length ≤ r.length := by
  induction r using rows.induct (w := w) with
  | case1 r h ih =>
    intro p hp
    rw [rows, dif_pos h] at hp
    rcases List.mem_cons.mp hp with rfl | hp
    · simp; omega
    · have := ih p hp; simp at this; omega
  | case2 r h =>
    intro p hp
    rw [rows, dif_neg h] at hp
    unfold lastRows at hp
    split at hp
    · simp at hp; rcases hp with rfl | rfl <;> simp <;> omega
    · split at hp
      · simp at hp; rcases hp with rfl | rfl <;> simp
      · simp at hp; subst hp; simp
theorem all_row_len {w : Nat} {T : Tx} : ∀ p ∈ allRows w T, p.1.length ≤ T.length := by
  intro p hp
  obtain ⟨a, ha, hp⟩ := List.mem_flatMap.mp hp
  exact Nat.le_trans (rows_row_len w a p hp) (lns_len ha)
theorem all_rows_len (w : Nat) (T : Tx) : (allRows w T).length ≤ 8 * (T.length + 1) := by
  have h1 := body_len (w := w) (T := T)
  have h2 : wsum (due w T) = (bodyOf w T).length + 1 := jn_len (due w T) (due_ne w T)
  have h3 : ∀ t : List Tx, t.length ≤ wsum t := by
    intro t; induction t with
    | nil => simp [wsum]
    | cons a t ih => rw [wsum_cons, List.length_cons]; omega
  have h4 := h3 (due w T)
  have h5 : wsum (due w T) ≤ 8 * (T.length + 1) := by
    have : ∀ t : List Tx, wsum ((t.flatMap (rows w)).map written) ≤ 8 * wsum t := by
      intro t; induction t with
      | nil => simp [wsum]
      | cons a t ih =>
        rw [List.flatMap_cons, List.map_append, wsum_app, wsum_cons]
        have := rows_sum w a
        omega
    have := this (lns T)
    rw [lns_wsum] at this
    exact this
  have h6 : (due w T).length = (allRows w T).length := by simp [due]
  omega
theorem rstrip_ok {l : Tx} (h : OkC l) : OkC (rstripL l) := fun c hc => h c (rstrip_mem hc)
theorem marked_len (r : Tx) : (marked r).length ≤ r.length + 2 := by unfold marked; split <;> simp
theorem shown_len {rs : List Row} (h : ∀ p ∈ rs, p.1.length ≤ 40) : (rs.flatMap shownOf).length ≤ 43 * rs.length := by
  induction rs with
  | nil => simp
  | cons p rs ih =>
    have h1 := ih fun q hq => h q (by simp [hq])
    have h2 := h p (by simp)
    have h3 : (shownOf p).length ≤ p.1.length + 3 := by
      have := marked_len p.1
      unfold shownOf; split <;> simp <;> omega
    simp only [List.flatMap_cons, List.length_append, List.length_cons]; omega
theorem wsum_marked (t : List Tx) : wsum (t.map marked) ≤ wsum t + 2 * t.length := by
  induction t with
  | nil => simp [wsum]
  | cons a t ih => have := marked_len a; rw [List.map_cons, wsum_cons, wsum_cons, List.length_cons]; omega
theorem wsum_comment (t : List Tx) : wsum (t.map commentL) ≤ wsum t + 2 * t.length := by
  induction t with
  | nil => simp [wsum]
  | cons a t ih =>
    have h1 := marked_len (rstripL a)
    have h2 := rstripL_len a
    have h3 := commentL_eq a
    rw [List.map_cons, wsum_cons, wsum_cons, List.length_cons, h3]; omega
theorem jn_wsum (t : List Tx) : (jn t).length ≤ wsum t := by
  by_cases h : t = []
  · subst h; simp [jn]
  · have := jn_len t h
    unfold wsum; omega
theorem rows_ledger {h₀ h : Heap} {L : Addr} {m : Str → Option Value} (F : Fr h₀ L h m) : ∀ {rs : List Row} {ys : List Value}, Paired (RowAt h) rs ys →
    ∃ tl, News h₀ L h tl ∧ ∀ h' m', Fr h₀ L h' m' → News h₀ L h' tl → Paired (RowAt h') rs ys
  | _, _, .nil => ⟨[], News.nil, fun _ _ _ _ => .nil⟩
  | _, _, .cons (a := r) ⟨a, t, n, e, q⟩ p => by
    obtain ⟨tl, N, hr⟩ := rows_ledger F p
    cases hq : h₀.get? a with
    | some o =>
      have ho : o = tupO r t n := by have := F.keep a o hq; rw [q] at this; exact (Option.some.inj this).symm
      exact ⟨tl, N, fun h' m' F' N' => .cons ⟨a, t, n, e, ho ▸ F'.keep a o hq⟩ (hr h' m' F' N')⟩
    | none =>
      refine ⟨(a, tupO r t n) :: tl, ?_, fun h' m' F' N' => .cons ⟨a, t, n, e, N'.get (.head _)⟩ (hr h' m' F' fun p hp => N' p (.tail _ hp))⟩
      intro p hp
      rcases List.mem_cons.mp hp with rfl | hp
      · exact ⟨q, fun z => NoTup.ns F.ns r t n (z ▸ q), hq⟩
      · exact N p hp
end Mine
end
section
open PySem PySem.W PyProof.Rows PySem.Calls
set_option maxRecDepth 100000
set_option maxHeartbeats 1000000
set_option linter.unusedVariables false
namespace Mine
section
variable {w : World} {mg mb : Str → Option Value} {lo : List Str}
theorem turn_spec {A : Around} {st : Shared} {L : Addr} {T : Tx} {wd : Nat} {tt uu : Tok} {h₁ : Heap} {tk : Nat} {m : Str → Option Value} {own : List (Addr × Obj)} {oc : Obj} {Q : Flow → Shared → Prop}
    (X : (KF w.params).In st.heap) (Tr : TopRead Qv lo mg mb st.heap) (hroom : A.depth < 900) (hh : A.handled = none) (hu : A.units + 100 < cLine) (hT : OkT T) (hTl : (s T).length ≤ 40) (hw : 4 ≤ wd ∧ wd ≤ 12)
    (F : Fr st.heap L h₁ m) (ht : m (Str.ofString "text") = some (.str (s T) tt)) (N : News st.heap L h₁ (own ++ [(L + 1, oc)])) (hoc : oc.data = .cell (some (.int wd uu)))
    (hQ : ∀ h' tk' m', Fr st.heap L h' m' → m' (Str.ofString "text") = some (.str (s T) tt) → News st.heap L h' (own ++ [(L + 1, oc)]) → Q .next { st with heap := h', toks := tk' }) :
    wpAny (model PWx w) (A.deeper (lawEnv dLaw.scope L)) (execs lawForBody (lawEnv dLaw.scope L)) Q (fun _ _ => False) { st with heap := h₁, toks := tk } := by
  refine castB rfl rfl ?_
  have F1 := knowL [(Str.ofString "text", .str (s T) tt)] F (by simp [ht])
  simp only [lookO] at F1
  have N1 : News st.heap L h₁ ((L + 1, oc) :: own) := News.pick N (by intro p hp; rcases List.mem_cons.mp hp with rfl | hp; exact List.mem_append_right _ (.head _); exact List.mem_append_left _ hp)
  clear F N
  have hTl' : T.length ≤ 40 := hTl
  have hBl := body_len (w := wd) (T := T)
  -- rows
  repeat' ((fail_if_success (with_reducible show wpAny _ _ (PySem.exec (.Assign _ _ _) _) _ _ _)); walk1)
  refine CA (h₀ := st.heap) (L := L) (by rfl) rfl (by rfl) (by decide) rfl (by decide) (by rfl) (by rfl) ?_
  repeat' ((fail_if_success (with_reducible show Exists _)); walk1)
  dsimp only
  rename (List.map _ _ = Txt.split _ _) => hsp
  rw [lit_nl, s_split] at hsp
  rename StrsAre _ _ => hS1
  rw [hsp] at hS1
  rename Heap.IsList _ _ _ => hl1
  rename Fr _ _ _ _ => F2
  rename News _ _ _ _ => N2
  refine ⟨_, _, _, _, _, rfl, hl1, F2, N2, stays_rows, core_nest (as := lns T) (f := rows wd) hh rfl (by rfl) (by rfl) (by decide) hl1 (fun i v e => by obtain ⟨l, h1, u, h2⟩ := strs_at hS1 e; exact ⟨l, u, h1, h2⟩) (by have := hS1.length; simpa using this.symm) ?_ ?_, ?_⟩
  · have := all_rows_len wd T; unfold allRows at this; omega
  · rintro C l u s₂ m₂ E' hl hn hm hk
    have X2 := X.keeps (fun b o e => hk b o (F2.keep b o e))
    have T2 := Tr.keeps (fun b o e => hk b o (F2.keep b o e))
    walk1
    refine gnameF 84 X2 T2 (by rfl) ?_
    iterate 4 walk1
    refine wpAny_Name (wpAny_loadName_cell (c := L + 1) (v := .int wd uu) (by rfl) (by rfl) (by rfl) ⟨oc, hk _ _ (N2.get (by simp)), hoc⟩ ?_) (by decide)
    iterate 1 walk1
    have hll := lns_mem l hl
    have hlen : l.length ≤ 40 := Nat.le_trans (lns_len hl) hTl'
    refine ⟨X2, ?_⟩
    refine rows_spec X2 T2 (by show A.depth + 1 < 980; omega) hh (by rw [s_len]; omega) (fun c hc => okC_lt (lns_ok hT l hl c hc)) ⟨hw.1, by omega⟩ (fun D vs n h' tk k1 k2 k3 k4 => ⟨D, vs, n, rfl, k2, k3, k4, h', tk, rfl, k1⟩)
  · intro D1 ys1 n1 h2 tk2 hk2 F3 N3 hp1
    obtain ⟨tl, Nt, hrec⟩ := rows_ledger F3 hp1
    have hp1len : (allRows wd T).length = ys1.length := hp1.length
    have hRl := all_rows_len wd T
    have hrok : ∀ p ∈ allRows wd T, OkC p.1 := allRows_ok hT
    have hrl : ∀ p ∈ allRows wd T, p.1.length ≤ 40 := fun p hp => Nat.le_trans (all_row_len p hp) hTl'
    have N4 : News st.heap L h2 ((D1, Mine.lo ys1.toArray n1) :: (L + 1, oc) :: (own ++ tl)) := by
      intro p hp
      rcases List.mem_cons.mp hp with rfl | hp
      · exact N3 _ (.head _)
      · rcases List.mem_cons.mp hp with rfl | hp
        · exact N3 _ (by simp)
        · rcases List.mem_append.mp hp with hp | hp
          · exact N3 _ (by simp [hp])
          · exact Nt _ hp
    obtain ⟨TL, hTL⟩ : ∃ TL, own ++ tl = TL := ⟨_, rfl⟩
    have hown : ∀ p ∈ own, p ∈ TL := fun p hp => hTL ▸ List.mem_append_left _ hp
    have htl : ∀ p ∈ tl, p ∈ TL := fun p hp => hTL ▸ List.mem_append_right _ hp
    rw [hTL] at N4
    clear F2 N2 N3 Nt hk2 hl1 hS1 hp1 hTL
    try dsimp only
    -- due
    repeat' ((fail_if_success (with_reducible show wpAny _ _ (PySem.exec (.Assign _ _ _) _) _ _ _)); walk1)
    refine CA (h₀ := st.heap) (L := L) (by rfl) rfl (by rfl) (by decide) rfl (by decide) (by rfl) (by rfl) ?_
    repeat' ((fail_if_success (with_reducible show Exists _)); walk1)
    dsimp only
    rename Fr _ _ _ _ => F4
    rename News _ _ _ _ => N5
    refine ⟨_, _, _, _, _, rfl, News.isList N5 (.head _), F4, N5, stays_const (P := fun ys => Paired (fun r v => SR (written r) v) (allRows wd T) ys),
      core_tup hh rfl (by rfl) (by rfl) (by decide) (News.isList N5 (.head _)) (hrec _ _ F4 (News.pick N5 fun p hp => List.mem_cons_of_mem _ (List.mem_cons_of_mem _ (htl p hp)))) (by omega) ?_, ?_⟩
    · rintro C r t s₂ m₂ E' hr hn hm1 hm2 hk
      have X2 := X.keeps (fun b o e => hk b o (F4.keep b o e))
      have T2 := Tr.keeps (fun b o e => hk b o (F4.keep b o e))
      have hr40 := hrl r hr
      walk1
      refine gnameF 89 X2 T2 (by rfl) ?_
      repeat walk1
      refine written_spec X2 T2 (by show A.depth + 1 < 980; omega) hh (by rw [s_len]; omega) (fun c hc => okC_lt (hrok r hr c hc)) (fun t' h' tk k => ⟨⟨_, rfl⟩, h', tk, rfl, k⟩)
    · intro D2 ys2 n2 h3 tk3 hk3 F5 N6 hp2
      clear F4 N5 hk3
      have hS2 : StrsAre ys2 ((due wd T).map s) := strs_of hp2
      try dsimp only
      repeat' ((fail_if_success (with_reducible show wpAny _ _ (PySem.exec (.For _ _ _ _ _) _) _ _ _)); walk1)
      rename Fr _ _ _ _ => F6
      rename News _ _ _ _ => N7
      refine encode_spec (X.keeps F6.keep) (Tr.keeps F6.keep) (by show A.depth + 1 < 980; omega) hh (by rw [s_len]; omega) hT ⟨hw.1, by omega⟩ (fun t3 h4 tk4 k4 => ?_)
      have F7 := F6.keeps k4
      have N8 := N7.grown k4
      clear F6 N7
      have hW : (s (bodyOf wd T)).length ≤ 328 := by rw [s_len]; omega
      have ejn : jn (due wd T) = bodyOf wd T := rfl
      try dsimp only
      repeat' ((fail_if_success (with_reducible show wpAny _ _ (PySem.exec (.For _ _ _ _ _) _) _ _ _)); walk1)
      rename Fr _ _ _ _ => F8
      rename News _ _ _ _ => N9
      refine join_list (News.isList N9 (.head _)) hS2 (by rw [lit_nl]; exact join_size (by rw [ejn]; omega)) (fun t5 k5 => ?_)
      rw [lit_nl, s_joinN, ejn]
      try dsimp only
      repeat' ((fail_if_success (with_reducible show wpAny _ _ (PySem.exec (.For _ _ _ _ _) _) _ _ _)); walk1)
      · rename ((_ != _) = true) => hq
        exact absurd hq (by simp)
      rename Fr _ _ _ _ => F10
      rename News _ _ _ _ => N10
      have hwB : ∀ a ∈ due wd T, ∀ x ∈ a, wch x = true := by
        intro a ha
        obtain ⟨p, hp, rfl⟩ := List.mem_map.mp ha
        exact written_wch (hrok p hp)
      have hdl : (due wd T).length = (allRows wd T).length := by simp [due]
      have hlns : lns (bodyOf wd T) = due wd T := lns_jn (due_ne wd T) (due_free hT)
      refine decode_spec (X.keeps F10.keep) (Tr.keeps F10.keep) (by show A.depth + 1 < 980; omega) hh (by rw [s_len]; omega) (jn_lb hwB) (fun a ha => ?_) (fun t6 h6 tk6 k6 => ?_)
      · have := slns_sub ha
        rw [hlns] at this
        obtain ⟨p, hp, rfl⟩ := List.mem_map.mp this
        rw [rstrip_id (written_last (hrok p hp))]
        exact okGo_written (hrok p hp)
      rw [decode_body hT]
      have F11 := F10.keeps k6
      have N11 := N10.grown k6
      clear F10 N10
      try dsimp only
      repeat' ((fail_if_success (with_reducible show wpAny _ _ (PySem.exec (.Assign _ _ _) _) _ _ _)); walk1)
      · rename ((_ != _) = true) => hq
        exact absurd hq (by simp)
      refine LCA (h₀ := st.heap) (L := L) (as := due wd T) (R := SR) (G := fun l v => SR (commentL l) v) (by assumption) SR.fun (by rfl) rfl hh (by rfl) (by decide) rfl (by decide) (by rfl) (by rfl) (by rfl) (by omega) ?_
      repeat' ((fail_if_success (with_reducible show Exists _)); walk1)
      try dsimp only
      rename (List.map _ _ = Txt.split _ _) => hsp2
      rw [s_split, hlns] at hsp2
      rename StrsAre _ _ => hS5
      rw [hsp2] at hS5
      rename Fr _ _ _ _ => F12
      rename News _ _ _ _ => N12
      have I5 := Iters.list (w := w) (News.isList N12 (.head _))
      have e5 := hS5.length
      rw [List.length_map] at e5
      rw [e5] at I5
      have hdm : ∀ a ∈ due wd T, a.length ≤ 328 := by
        intro a ha
        have h1 := sum_mem ha
        have h2 : wsum (due wd T) = (bodyOf wd T).length + 1 := jn_len (due wd T) (due_ne wd T)
        rw [s_len] at hW
        omega
      refine ⟨_, _, I5, fun i v e => strs_at hS5 e, F12, N12, ?_, ?_⟩
      · rintro C l v s₂ m₂ E' hl ⟨u, rfl⟩ hn hm hk
        have X2 := X.keeps (fun b o e => hk b o (F12.keep b o e))
        have T2 := Tr.keeps (fun b o e => hk b o (F12.keep b o e))
        walk1
        refine gnameF 21 X2 T2 (by rfl) ?_
        repeat walk1
        refine comment_spec X2 T2 (by show A.depth + 1 < 990; omega) (by rw [s_len]; have := hdm l hl; omega) (fun t' h' tk k => ⟨⟨_, rfl⟩, h', tk, rfl, k⟩)
      · intro D5 ys5 n5 h7 tk7 hk7 F13 N13 hp5
        have hS6 : StrsAre ys5 (((due wd T).map commentL).map s) := strs_of hp5
        rw [show (due wd T).map commentL = (due wd T).map marked from by have := comment_due (w := wd) hT; rwa [hlns] at this] at hS6
        clear F12 N12 hk7 I5
        try dsimp only
        repeat' ((fail_if_success (with_reducible show wpAny _ _ (PySem.eval (.ListComp _ _ _ _) _) _ _ _)); walk1)
        refine LC (h₀ := st.heap) (L := L) (as := due wd T) (R := SR) (G := fun l v => SR (marked l) v) (by assumption) SR.fun hh (by rfl) (by decide) rfl (by decide) (by rfl) (by omega) ?_
        repeat' ((fail_if_success (with_reducible show Exists _)); walk1)
        try dsimp only
        rename Fr _ _ _ _ => F14
        rename News _ _ _ _ => N14
        have I6 := Iters.list (w := w) (News.isList N14 (.tail _ (.tail _ (.head _))))
        have e6 := hS2.length
        rw [List.length_map] at e6
        rw [e6] at I6
        refine ⟨_, _, I6, fun i v e => strs_at hS2 e, F14, N14, ?_, ?_⟩
        · rintro C l v s₂ m₂ E' hl ⟨u, rfl⟩ hn hm hk
          have X2 := X.keeps (fun b o e => hk b o (F14.keep b o e))
          have T2 := Tr.keeps (fun b o e => hk b o (F14.keep b o e))
          walk1
          refine gnameF 96 X2 T2 (by rfl) ?_
          repeat walk1
          refine marked_spec X2 T2 (by show A.depth + 1 < 990; omega) (by rw [s_len]; have := hdm l hl; omega) (fun t' h' tk k => ⟨⟨_, rfl⟩, h', tk, rfl, k⟩)
        · intro D6 ys6 n6 h8 tk8 hk8 F15 N15 hp6
          have hS7 : StrsAre ys6 (((due wd T).map marked).map s) := strs_of hp6
          clear F14 N14 hk8 I6
          try dsimp only
          repeat' ((fail_if_success (with_reducible show wpAny _ _ (compareOp _ (.ref _) (.ref _)) _ _ _)); walk1)
          refine ne_strs (News.isList N15 (.tail _ (.head _))) (News.isList N15 (.head _)) hS6 hS7 ?_ (by show A.units + 3 + 64 < cLine; omega) ?_
          · intro x hx
            obtain ⟨a, ha, rfl⟩ := List.mem_map.mp hx
            obtain ⟨b, hb, rfl⟩ := List.mem_map.mp ha
            obtain ⟨p, hp, rfl⟩ := List.mem_map.mp hb
            exact strOk_of (marked_lt (written_lt (hrok p hp)))
          try dsimp only
          repeat' ((fail_if_success (with_reducible show wpAny _ _ (PySem.eval (.ListComp _ _ _ _) _) _ _ _)); walk1)
          refine CE (h₀ := st.heap) (L := L) (by rfl) (by decide) rfl (by decide) ?_
          repeat' ((fail_if_success (with_reducible show Exists _)); walk1)
          try dsimp only
          rename Fr _ _ _ _ => F16
          rename News _ _ _ _ => N16
          refine ⟨_, _, _, _, _, rfl, News.isList N16 (.tail _ (.tail _ (.tail _ (.tail _ (.head _))))), F16, N16, stays_const (P := fun ys => Paired (fun r v => SR (shownOf r) v) (allRows wd T) ys),
            core_tup hh rfl (by rfl) (by rfl) (by decide) (News.isList N16 (.tail _ (.tail _ (.tail _ (.tail _ (.head _)))))) (hrec _ _ F16 (News.pick N16 fun p hp => by simp [htl p hp])) (by omega) ?_, ?_⟩
          · rintro C ⟨rl, rb⟩ t s₂ m₂ E' hr hn hm1 hm2 hk
            have X2 := X.keeps (fun b o e => hk b o (F16.keep b o e))
            have T2 := Tr.keeps (fun b o e => hk b o (F16.keep b o e))
            have hr40 : rl.length ≤ 40 := hrl _ hr
            have hrs : (s rl).length ≤ 40 := hr40
            try dsimp only at hm1 hm2
            cases rb with
            | true =>
              repeat' walk1
              · exact ⟨_, by rw [lit_hs, s_app]; rfl⟩
              · exact ⟨_, _, rfl, fun _ _ e => e⟩
            | false =>
              have hml : (s (marked rl)).length ≤ 42 := by rw [s_len]; have := marked_len rl; omega
              repeat' ((fail_if_success (with_reducible show wpAny _ _ (PySem.eval (.Name (Str.ofString "_law_marked") _) _) _ _ _)); walk1)
              refine gnameF 96 X2 T2 (by rfl) ?_
              repeat walk1
              refine marked_spec X2 T2 (by show A.depth + 1 < 990; omega) (by omega) (fun t' h' tk k => ?_)
              try dsimp only
              repeat' walk1
              · exact ⟨_, by rw [s_app]; rfl⟩
              · exact ⟨_, _, rfl, k⟩
          · intro D7 ys7 n7 h9 tk9 hk9 F17 N17 hp7
            have hS8 : StrsAre ys7 (((allRows wd T).map shownOf).map s) := strs_of hp7
            have hsl := shown_len hrl
            have hRl2 : (allRows wd T).length ≤ 328 := by omega
            have hfl : ((allRows wd T).map shownOf).flatten = (allRows wd T).flatMap shownOf := by rw [List.flatMap_def]
            clear F16 N16 hk9
            try dsimp only
            repeat' ((fail_if_success (with_reducible show wpAny _ _ (PySem.exec (.Assign _ _ _) _) _ _ _)); walk1)
            rename Fr _ _ _ _ => F18
            rename News _ _ _ _ => N18
            refine join_list (News.isList N18 (.head _)) hS8 (by rw [lit_e, sumlen, hfl, show (s []).length = 0 from rfl, Nat.mul_zero]; omega) (fun t9 k9 => ?_)
            rw [lit_e, s_join0, hfl]
            generalize hSH : (allRows wd T).flatMap shownOf = SH at hsl
            have hshl : (s SH).length ≤ 15000 := by rw [s_len]; omega
            try dsimp only
            repeat' ((fail_if_success (with_reducible show wpAny _ _ (PySem.exec (.For _ _ _ _ _) _) _ _ _)); walk1)
            rename Fr _ _ _ _ => F20
            rename News _ _ _ _ => N20
            have hjm : (jn ((due wd T).map marked)).length ≤ 2000 := by
              have h1 := jn_wsum ((due wd T).map marked)
              have h2 := wsum_marked (due wd T)
              have h3 : wsum (due wd T) = (bodyOf wd T).length + 1 := jn_len (due wd T) (due_ne wd T)
              omega
            refine join_list (News.isList N20 (.tail _ (.tail _ (.head _)))) hS6 (join_size (by omega)) (fun t10 k10 => ?_)
            rw [s_joinN]
            try dsimp only
            repeat' ((fail_if_success (with_reducible show wpAny _ _ (PySem.exec (.For _ _ _ _ _) _) _ _ _)); walk1)
            rename Fr _ _ _ _ => F22
            rename News _ _ _ _ => N22
            have hfree : ∀ a ∈ (due wd T).map marked, 10 ∉ a := by
              intro a ha
              obtain ⟨b, hb, rfl⟩ := List.mem_map.mp ha
              exact marked_free (due_free hT b hb)
            refine decode_spec (X.keeps F22.keep) (Tr.keeps F22.keep) (by show A.depth + 1 < 980; omega) hh (by rw [s_len]; omega) (jn_lb ?_) (fun a ha => ?_) (fun t11 h11 tk11 k11 => ?_)
            · intro a ha
              obtain ⟨b, hb, rfl⟩ := List.mem_map.mp ha
              exact marked_wch (hwB b hb)
            · have := slns_sub ha
              rw [lns_jn (by simp [due_ne]) hfree] at this
              obtain ⟨b, hb, rfl⟩ := List.mem_map.mp this
              obtain ⟨p, hp, rfl⟩ := List.mem_map.mp hb
              rw [rstrip_id (marked_last (written_last (hrok p hp)))]
              exact okGo_marked (okGo_written (hrok p hp))
            rw [decode_marked hT, hSH]
            have F23 := F22.keeps k11
            have N23 := N22.grown k11
            clear F22 N22
            have hesl : Txt.slice (s SH) none (some (-1)) = s SH.dropLast := by rw [s_slice_ns, clip_neg1, List.dropLast_eq_take]
            try dsimp only
            repeat' ((fail_if_success (with_reducible show wpAny _ _ (PySem.exec (.For _ _ _ _ _) _) _ _ _)); walk1)
            · rename ((_ != _) = true) => hq
              rw [hesl] at hq
              exact absurd hq (by simp)
            · rename Fr _ _ _ _ => F24
              rename News _ _ _ _ => N24
              refine hQ _ _ _ F24 rfl (News.pick N24 ?_)
              intro p hp
              rcases List.mem_append.mp hp with hp | hp
              · simp [hown p hp]
              · rcases List.mem_singleton.mp hp with rfl
                simp
end
end Mine
end
section
open PySem PySem.W PyProof.Rows PySem.Calls
set_option maxRecDepth 100000
set_option maxHeartbeats 1000000
set_option linter.unusedVariables false
namespace Mine
theorem clip_two (l : Tx) : l.drop (clip l.length 2) = l.drop 2 := by
  have : clip l.length 2 = min 2 l.length := by unfold clip; omega
  rw [this]
  by_cases h : 2 ≤ l.length
  · rw [Nat.min_eq_left h]
  · rw [Nat.min_eq_right (by omega), List.drop_length, List.drop_eq_nil_iff.mpr (by omega)]
section
variable {w : World} {mg mb : Str → Option Value} {lo : List Str}
theorem kept_len (l : Tx) : (keptL l).length ≤ l.length := by
  unfold keptL
  have := (List.dropWhile_sublist keptW (l := l.reverse)).length_le
  simpa using this
theorem slice_comp {A : Around} {E : Value → Shared → Prop} {st : Shared} {value slice : PySem.Expr} {x : Str} {t ui : Tok} {i : Int} {h0 : Heap} {Q : Value → Shared → Prop} (hI : Kp h0 st.heap) (h : ∀ h' t' k, Kp h0 h' → Q (.str (Txt.slice x (some i) none) t') { st with heap := h', toks := k })
    (hs : subscripted slice false (.str x t) (.ref st.heap.objs.size) = operate [.ref st.heap.objs.size, .str x t] (getItem (.str x t) (.ref st.heap.objs.size)) := by with_unfolding_all rfl)
    (ht : ∀ r, letTemporaryGo value (.str x t) r = pure () := by intro _; with_unfolding_all rfl) (hsz : x.length ≤ sizeLine := by size_fits) :
    wpAny (model PWx w) A (subscriptTail value slice (.str x t) (.ref st.heap.objs.size)) Q E { st with heap := st.heap.push { cls := .type "slice", data := .fields #[.int i ui, .none, .none] } } :=
  tail_of_ItemOn (SBH.sliceItem_sn (P := fun h => Kp h0 h) (fun h ob k b o e => Heap.get?_push_of_some _ (k b o e)) hI h hsz) hs ht
theorem tail_spec {A : Around} {st : Shared} {L : Addr} {T : Tx} {tt : Tok} {h₁ : Heap} {tk : Nat} {m : Str → Option Value} {Q : Flow → Shared → Prop}
    (X : (KF w.params).In st.heap) (Tr : TopRead Qv lo mg mb st.heap) (hroom : A.depth < 900) (hh : A.handled = none) (hu : A.units + 100 < cLine) (hT : OkT T) (hTl : (s T).length ≤ 40)
    (F : Fr st.heap L h₁ m) (ht : m (Str.ofString "text") = some (.str (s T) tt))
    (hQ : ∀ h' tk', Kp st.heap h' → Q (.ret (.bool true)) { st with heap := h', toks := tk' }) :
    wpAny (model PWx w) (A.deeper (lawEnv dLaw.scope L)) (execs lawTail (lawEnv dLaw.scope L)) Q (fun _ _ => False) { st with heap := h₁, toks := tk } := by
  refine castT rfl rfl ?_
  have F1 := knowL [(Str.ofString "text", .str (s T) tt)] F (by simp [ht])
  simp only [lookO] at F1
  have N1 : News st.heap L h₁ [] := News.nil
  clear F
  have hTl' : T.length ≤ 40 := hTl
  have hlm : ∀ l ∈ lns T, l.length ≤ 40 := fun l hl => Nat.le_trans (lns_len hl) hTl'
  have hlc : (lns T).length ≤ 41 := by
    have h1 := lns_wsum T
    have h3 : ∀ t : List Tx, t.length ≤ wsum t := by
      intro t; induction t with
      | nil => simp [wsum]
      | cons a t ih => rw [wsum_cons, List.length_cons]; omega
    have := h3 (lns T); omega
  have hnl : (notedOf T).length ≤ 130 := by
    have h1 := jn_wsum ((lns T).map commentL)
    have h2 := wsum_comment (lns T)
    have h3 := lns_wsum T
    unfold notedOf; omega
  have hns : (s (notedOf T)).length ≤ 130 := hnl
  have hok := lns_ok hT
  -- notes
  repeat' ((fail_if_success (with_reducible show wpAny _ _ (PySem.exec (.Assign _ _ _) _) _ _ _)); walk1)
  refine LCA (h₀ := st.heap) (L := L) (as := lns T) (R := SR) (G := fun l v => SR (commentL l) v) (by assumption) SR.fun (by rfl) rfl hh (by rfl) (by decide) rfl (by decide) (by rfl) (by rfl) (by rfl) (by omega) ?_
  repeat' ((fail_if_success (with_reducible show Exists _)); walk1)
  try dsimp only
  rename (List.map _ _ = Txt.split _ _) => hsp
  rw [lit_nl, s_split] at hsp
  rename StrsAre _ _ => hS1
  rw [hsp] at hS1
  rename Fr _ _ _ _ => F2
  rename News _ _ _ _ => N2
  have I1 := Iters.list (w := w) (News.isList N2 (.head _))
  have e1 := hS1.length
  rw [List.length_map] at e1
  rw [e1] at I1
  refine ⟨_, _, I1, fun i v e => strs_at hS1 e, F2, N2, ?_, ?_⟩
  · rintro C l v s₂ m₂ E' hl ⟨u, rfl⟩ hn hm hk
    have X2 := X.keeps (fun b o e => hk b o (F2.keep b o e))
    have T2 := Tr.keeps (fun b o e => hk b o (F2.keep b o e))
    walk1
    refine gnameF 21 X2 T2 (by rfl) ?_
    repeat walk1
    refine comment_spec X2 T2 (by show A.depth + 1 < 990; omega) (by rw [s_len]; have := hlm l hl; omega) (fun t' h' tk k => ⟨⟨_, rfl⟩, h', tk, rfl, k⟩)
  · intro D1 ys1 n1 h2 tk2 hk2 F3 N3 hp1
    have hS2 : StrsAre ys1 (((lns T).map commentL).map s) := strs_of hp1
    clear F2 N2 hk2 I1
    try dsimp only
    repeat' ((fail_if_success (with_reducible show wpAny _ _ (PySem.eval (.ListComp _ _ _ _) _) _ _ _)); walk1)
    rename Fr _ _ _ _ => F4
    rename News _ _ _ _ => N4
    refine join_list (News.isList N4 (.head _)) hS2 (by rw [lit_nl]; exact join_size (by show (notedOf T).length ≤ 10000; omega)) (fun t3 k3 => ?_)
    rw [lit_nl, s_joinN, show jn ((lns T).map commentL) = notedOf T from rfl]
    try dsimp only
    repeat' ((fail_if_success (with_reducible show wpAny _ _ (PySem.eval (.ListComp _ _ _ _) _) _ _ _)); walk1)
    refine LC (h₀ := st.heap) (L := L) (as := (lns T).map commentL) (R := SR) (G := fun l v => SR (l.drop 2) v) (by assumption) SR.fun hh (by rfl) (by decide) rfl (by decide) (by rfl) (by simp; omega) ?_
    repeat' ((fail_if_success (with_reducible show Exists _)); walk1)
    try dsimp only
    rename Fr _ _ _ _ => F6
    rename News _ _ _ _ => N6
    have I2 := Iters.list (w := w) (News.isList N6 (.head _))
    have e2 := hS2.length
    rw [List.length_map] at e2
    rw [e2] at I2
    refine ⟨_, _, I2, fun i v e => strs_at hS2 e, F6, N6, ?_, ?_⟩
    · rintro C l v s₂ m₂ E' hl ⟨u, rfl⟩ hn hm hk
      have hl2 : (s l).length ≤ 42 := by
        obtain ⟨a, ha, rfl⟩ := List.mem_map.mp hl
        have h1 := marked_len (rstripL a)
        have h2 := rstripL_len a
        have h3 := commentL_eq a
        have h4 := hlm a ha
        rw [s_len, h3]; omega
      clear F6 N6 hk
      repeat' walk1
      refine slice_comp (h0 := s₂.heap) (fun _ _ e => e) (fun h' t' k kp => ⟨⟨t', by rw [s_slice_sn, clip_two]⟩, h', k, rfl, kp⟩)
    · intro D2 ys2 n2 h3 tk3 hk3 F7 N7 hp2
      have hS3 : StrsAre ys2 ((((lns T).map commentL).map (List.drop 2)).map s) := strs_of hp2
      have hfree : ∀ a ∈ (lns T).map rstripL, 10 ∉ a := by
        intro a ha
        obtain ⟨b, hb, rfl⟩ := List.mem_map.mp ha
        exact fun q => (lns_mem b hb).1 (rstrip_mem q)
      rw [show ((lns T).map commentL).map (List.drop 2) = (lns T).map rstripL from by
        rw [List.map_map]; exact List.map_congr_left fun a _ => by show (commentL a).drop 2 = _; rw [commentL_eq, marked_drop]] at hS3
      have hjs : (jn ((lns T).map rstripL)).length ≤ 41 := by
        have h1 := jn_wsum ((lns T).map rstripL)
        have h2 : wsum ((lns T).map rstripL) ≤ wsum (lns T) := by
          have : ∀ t : List Tx, wsum (t.map rstripL) ≤ wsum t := by
            intro t; induction t with
            | nil => simp [wsum]
            | cons a t ih => have := rstripL_len a; rw [List.map_cons, wsum_cons, wsum_cons]; omega
          exact this _
        have h3 := lns_wsum T
        omega
      clear F6 N6 hk3 I2
      try dsimp only
      repeat' ((fail_if_success (with_reducible show wpAny _ _ (PySem.eval (.ListComp _ _ _ _) _) _ _ _)); walk1)
      rename Fr _ _ _ _ => F8
      rename News _ _ _ _ => N8
      refine join_list (News.isList N8 (.head _)) hS3 (join_size (by omega)) (fun t4 k4 => ?_)
      rw [s_joinN]
      try dsimp only
      repeat' ((fail_if_success (with_reducible show wpAny _ _ (PySem.eval (.ListComp _ _ _ _) _) _ _ _)); walk1)
      rename Fr _ _ _ _ => F9
      rename News _ _ _ _ => N9
      refine decode_spec (X.keeps F9.keep) (Tr.keeps F9.keep) (by show A.depth + 1 < 980; omega) hh (by rw [s_len]; omega) (fun c hc hl => ?_) (fun a ha => ?_) (fun t5 h5 tk5 k5 => ?_)
      · rcases jn_mem hc with q | ⟨a, ha, q⟩
        · exact q
        · obtain ⟨b, hb, rfl⟩ := List.mem_map.mp ha
          have := hok b hb c (rstrip_mem q)
          exact okT_lb (T := [c]) (by intro z hz; simp at hz; subst hz; simp [okT, this]) c (by simp) hl
      · have := slns_sub ha
        rw [lns_jn (by simp [lns_ne]) hfree] at this
        obtain ⟨b, hb, rfl⟩ := List.mem_map.mp this
        exact okGo_raw _ _ (Nat.le_refl _) (rstrip_ok (rstrip_ok (hok b hb)))
      rw [decode_stripped]
      have F10 := F9.keeps k5
      have N10 := N9.grown k5
      clear F9 N9
      try dsimp only
      repeat' ((fail_if_success (with_reducible show wpAny _ _ (PySem.eval (.ListComp _ _ _ _) _) _ _ _)); walk1)
      rename Fr _ _ _ _ => F11
      rename News _ _ _ _ => N11
      refine decode_spec (X.keeps F11.keep) (Tr.keeps F11.keep) (by show A.depth + 1 < 980; omega) hh (by omega) (okT_lb hT) (fun a ha => okGo_raw _ _ (Nat.le_refl _) (rstrip_ok (hok a (slns_sub ha)))) (fun t6 h6 tk6 k6 => ?_)
      have F12 := F11.keeps k6
      have N12 := N11.grown k6
      clear F11 N11
      try dsimp only
      repeat' ((fail_if_success (with_reducible show wpAny _ _ (PySem.eval (.ListComp _ _ _ _) _) _ _ _)); walk1)
      · rename ((_ != _) = true) => hq
        exact absurd hq (by simp)
      refine LC (h₀ := st.heap) (L := L) (as := lns T) (R := SR) (G := fun l v => SR (marked (keptL l)) v) (by assumption) SR.fun hh (by rfl) (by decide) rfl (by decide) (by rfl) (by omega) ?_
      repeat' ((fail_if_success (with_reducible show Exists _)); walk1)
      try dsimp only
      rename (List.map _ _ = Txt.split _ _) => hsp2
      rw [s_split] at hsp2
      rename StrsAre _ _ => hS4
      rw [hsp2] at hS4
      rename Fr _ _ _ _ => F13
      rename News _ _ _ _ => N13
      have I3 := Iters.list (w := w) (News.isList N13 (.head _))
      have e3 := hS4.length
      rw [List.length_map] at e3
      rw [e3] at I3
      refine ⟨_, _, I3, fun i v e => strs_at hS4 e, F13, N13, ?_, ?_⟩
      · rintro C l v s₂ m₂ E' hl ⟨u, rfl⟩ hn hm hk
        have X2 := X.keeps (fun b o e => hk b o (F13.keep b o e))
        have T2 := Tr.keeps (fun b o e => hk b o (F13.keep b o e))
        have hl40 := hlm l hl
        walk1
        refine gnameF 96 X2 T2 (by rfl) ?_
        repeat' ((fail_if_success (with_reducible show wpAny _ _ (PySem.eval (.Name (Str.ofString "_law_kept") _) _) _ _ _)); walk1)
        refine gnameF 103 X2 T2 (by rfl) ?_
        repeat walk1
        refine kept_spec X2 T2 (by show A.depth + 1 < 990; omega) (by rw [s_len]; omega) (fun t' h' tk k => ?_)
        have X3 := X2.keeps k
        have T3 := T2.keeps k
        have hkl := kept_len l
        try dsimp only
        repeat walk1
        refine marked_spec X3 T3 (by show A.depth + 1 < 990; omega) (by rw [s_len]; omega) (fun t'' h'' tk' k' => ⟨⟨_, rfl⟩, h'', tk', rfl, fun b o e => k' b o (k b o e)⟩)
      · intro D3 ys3 n3 h7 tk7 hk7 F14 N14 hp3
        have hS5 : StrsAre ys3 (((lns T).map (fun l => marked (keptL l))).map s) := strs_of hp3
        rw [show (lns T).map (fun l => marked (keptL l)) = (lns T).map commentL from List.map_congr_left fun a ha => by rw [kept_eq (hok a ha), commentL_eq]] at hS5
        clear F13 N13 hk7 I3
        try dsimp only
        repeat' ((fail_if_success (with_reducible show wpAny _ _ (PySem.eval (.ListComp _ _ _ _) _) _ _ _)); walk1)
        rename Fr _ _ _ _ => F15
        rename News _ _ _ _ => N15
        refine join_list (News.isList N15 (.head _)) hS5 (join_size (by show (notedOf T).length ≤ 10000; omega)) (fun t8 k8 => ?_)
        rw [s_joinN, show jn ((lns T).map commentL) = notedOf T from rfl]
        try dsimp only
        repeat' ((fail_if_success (with_reducible show wpAny _ _ (PySem.eval (.ListComp _ _ _ _) _) _ _ _)); walk1)
        · rename ((_ != _) = true) => hq
          exact absurd hq (by simp)
        rename Fr _ _ _ _ => F16
        rename News _ _ _ _ => N16
        refine encode_spec (wd := 8) (X.keeps F16.keep) (Tr.keeps F16.keep) (by show A.depth + 1 < 980; omega) hh (by omega) (noted_ok hT) ⟨by omega, by omega⟩ (fun t9 h9 tk9 k9 => ?_)
        have F17 := F16.keeps k9
        have N17 := N16.grown k9
        clear F16 N16
        try dsimp only
        repeat' ((fail_if_success (with_reducible show wpAny _ _ (PySem.eval (.ListComp _ _ _ _) _) _ _ _)); walk1)
        rename Fr _ _ _ _ => F18
        rename News _ _ _ _ => N18
        have hNT := noted_ok hT
        have hrok : ∀ p ∈ allRows 8 (notedOf T), OkC p.1 := allRows_ok hNT
        have hlnsN : lns (bodyOf 8 (notedOf T)) = due 8 (notedOf T) := lns_jn (due_ne 8 (notedOf T)) (due_free hNT)
        have hBN := body_len (w := 8) (T := notedOf T)
        refine decode_spec (X.keeps F18.keep) (Tr.keeps F18.keep) (by show A.depth + 1 < 980; omega) hh (by rw [s_len]; omega) (jn_lb ?_) (fun a ha => ?_) (fun t10 h10 tk10 k10 => ?_)
        · intro a ha
          obtain ⟨p, hp, rfl⟩ := List.mem_map.mp ha
          exact written_wch (hrok p hp)
        · have := slns_sub ha
          rw [hlnsN] at this
          obtain ⟨p, hp, rfl⟩ := List.mem_map.mp this
          rw [rstrip_id (written_last (hrok p hp))]
          exact okGo_written (hrok p hp)
        rw [decode_body hNT]
        have F19 := F18.keeps k10
        have N19 := N18.grown k10
        clear F18 N18
        try dsimp only
        repeat' ((fail_if_success (with_reducible show wpAny _ _ (PySem.eval (.ListComp _ _ _ _) _) _ _ _)); walk1)
        rename Fr _ _ _ _ => F20
        rw [show (s (notedOf T) == s (notedOf T)) = true from by simp]
        exact hQ _ _ F20.keep
end
end Mine
end
section
open PySem PySem.W PyProof.Rows PySem.Calls
set_option maxRecDepth 100000
set_option maxHeartbeats 1000000
set_option linter.unusedVariables false
namespace Mine
section
variable {w : World} {mg mb : Str → Option Value} {lo : List Str}
theorem loopC {A : Around} {st : Shared} {L I a : Addr} {T : Tx} {tt : Tok} {h₁ : Heap} {tk : Nat} {m : Str → Option Value} {ws : List Value} {v0 : Option Value} {R : Result → Shared → Prop} {px : Pos}
    (X : (KF w.params).In st.heap) (Tr : TopRead Qv lo mg mb st.heap) (hroom : A.depth < 900) (hh : A.handled = none) (hu : A.units + 100 < cLine) (hT : OkT T) (hTl : (s T).length ≤ 40)
    (hws : ∀ v ∈ ws, ∃ (wd : Nat) (u : Tok), v = .int wd u ∧ 4 ≤ wd ∧ wd ≤ 12)
    (F : Fr st.heap L h₁ m) (ht : m (Str.ofString "text") = some (.str (s T) tt)) (hit : h₁.IsListIter I a 0) (hl : h₁.IsList a ws.toArray) (hIL : I ≠ L) (haL : a ≠ L) (hI0 : st.heap.get? I = none) (ha0 : st.heap.get? a = none)
    (hIa : a ≠ I) (hIc : I ≠ L + 1) (hac : a ≠ L + 1) (hc0 : st.heap.get? (L + 1) = none) (hcell : h₁.IsCell (L + 1) v0)
    (hR : ∀ h' tk' m', Fr st.heap L h' m' → m' (Str.ofString "text") = some (.str (s T) tt) → R (.ok .next) { st with heap := h', toks := tk' }) :
    codeAny (model PWx w) (A.deeper (lawEnv dLaw.scope L)) (.forLoop (.Name (Str.ofString "width") px) (.ref I) lawForBody [] (lawEnv dLaw.scope L)) R { st with heap := h₁, toks := tk } := by
  refine codeAny_forLoop (fun n s' => ∃ h' tk' m' i v, s' = { st with heap := h', toks := tk' } ∧ Fr st.heap L h' m' ∧ m' (Str.ofString "text") = some (.str (s T) tt) ∧ h'.IsListIter I a i ∧ h'.IsList a ws.toArray ∧ h'.IsCell (L + 1) v ∧ i ≤ ws.length ∧ n = ws.length + 1 - i) ?_ (ws.length + 1)
    ⟨h₁, tk, m, 0, v0, rfl, F, ht, hit, hl, hcell, Nat.zero_le _, rfl⟩
  rintro n s' ⟨H, tk', m', i, v, rfl, F', ht', hit', hl', hc', hi, rfl⟩
  cases hv : ws[i]? with
  | none =>
    refine wpAny_pyNext_list_end hh hit' hl' (by simpa using hv) fun h₂ he₂ => ?_
    refine wpAny_execs_nil (hR h₂ tk' m' ⟨F'.ns.extBut he₂ (Ne.symm hIL), fun b o e => he₂ b o (fun q => by rw [q, hI0] at e; cases e) (F'.keep b o e), F'.above⟩ ht')
  | some x =>
    have hlt : i < ws.length := (List.getElem?_eq_some_iff.mp hv).1
    obtain ⟨wd, u, rfl, hw⟩ := hws x (List.mem_of_getElem? hv)
    refine wpAny_pyNext_list_item hit' hl' (by simpa using hv) fun h₂ hit₂ hs₂ => ?_
    have hc₂ : h₂.IsCell (L + 1) v := hc'.sameBut hs₂ (Ne.symm hIc)
    have F₂ : Fr st.heap L h₂ m' := ⟨F'.ns.sameBut hs₂ (Ne.symm hIL), fun b o e => hs₂.extBut b o (fun q => by rw [q, hI0] at e; cases e) (F'.keep b o e), F'.above⟩
    refine wpAny_assign_Name (wpAny_storeName_cell (c := L + 1) (by rfl) (by rfl) (by rfl) hc₂ (fun h₃ hv₃ hs₃ => ?_))
    have F₃ : Fr st.heap L h₃ m' := ⟨F₂.ns.sameBut hs₃ (Nat.ne_of_lt (Nat.lt_succ_self L)), fun b o e => hs₃.extBut b o (fun q => by rw [q, hc0] at e; cases e) (F₂.keep b o e), F₂.above⟩
    obtain ⟨oc, hoc, hod⟩ := hv₃
    have hit₃ : h₃.IsListIter I a (i + 1) := hit₂.extBut hs₃.extBut hIc
    have hl₃ : h₃.IsList a ws.toArray := (hl'.extBut hs₂.extBut hIa).extBut hs₃.extBut hac
    obtain ⟨oi, hoi, hoi2⟩ := hit₃
    obtain ⟨ol, hol, hol2⟩ := hl₃
    have N₃ : News st.heap L h₃ ([(I, oi), (a, ol)] ++ [(L + 1, oc)]) := by
      intro p hp
      simp only [List.cons_append, List.nil_append, List.mem_cons, List.not_mem_nil, or_false] at hp
      rcases hp with rfl | rfl | rfl
      · exact ⟨hoi, hIL, hI0⟩
      · exact ⟨hol, haL, ha0⟩
      · exact ⟨hoc, Nat.succ_ne_self L, hc0⟩
    refine wpAny_mono (turn_spec (st := st) X Tr hroom hh hu hT hTl hw F₃ ht' N₃ hod (Q := fun f s₃ => f = .next ∧ ∃ h' tk' m', s₃ = { st with heap := h', toks := tk' } ∧ Fr st.heap L h' m' ∧ m' (Str.ofString "text") = some (.str (s T) tt) ∧ News st.heap L h' ([(I, oi), (a, ol)] ++ [(L + 1, oc)]))
      (fun h' tk' m' F4 ht4 N4 => ⟨rfl, h', tk', m', rfl, F4, ht4, N4⟩)) (fun f s₃ q => ?_) (fun _ _ e => e.elim)
    obtain ⟨rfl, h', tk4, m4, rfl, F4, ht4, N4⟩ := q
    exact ⟨ws.length + 1 - (i + 1), by omega, h', tk4, m4, i + 1, _, rfl, F4, ht4, ⟨oi, N4.get (.head _), hoi2⟩, ⟨ol, N4.get (.tail _ (.head _)), hol2⟩, ⟨oc, N4.get (.tail _ (.tail _ (.head _))), hod⟩, hlt, rfl⟩
end
end Mine
end
section
open PySem PySem.W PyProof.Rows PySem.Calls
set_option maxRecDepth 100000
set_option maxHeartbeats 1000000
set_option linter.unusedVariables false
namespace Mine
section
theorem castL {M : Model} {A : Around} {E : Value → Shared → Prop} {s : Shared} {Q : Flow → Shared → Prop} {kd : ScopeKind} {nm : List (Str × NameKind)} {ge co : Bool} {mo : List (Str × Const)} {t i : PySem.Expr} {b o : List Stmt} {p : Pos} {L : Addr} (hs : dLaw.scope = ⟨kd, nm, ge, co, mo⟩) (hb : lawFor = .For t i b o p)
    (h : wpAny M (A.deeper (lawEnv ⟨kd, nm, ge, co, mo⟩ L)) (execs (.For t i b o p :: lawTail) (lawEnv ⟨kd, nm, ge, co, mo⟩ L)) Q E s) :
    wpAny M (A.deeper (lawEnv dLaw.scope L)) (execs (lawFor :: lawTail) (lawEnv dLaw.scope L)) Q E s := by rw [hs, hb]; exact h
variable {w : World} {mg mb : Str → Option Value} {lo : List Str}
theorem law_rest {A : Around} {st : Shared} {L a : Addr} {vs : List Value} {ns : List Int} {T : Tx} {tt : Tok} {h₁ : Heap} {tk : Nat} {m : Str → Option Value} {oc : Obj} {Q : Flow → Shared → Prop}
    (X : (KF w.params).In st.heap) (Tr : TopRead Qv lo mg mb st.heap) (hroom : A.depth < 900) (hh : A.handled = none) (hu : A.units + 100 < cLine) (hl : st.heap.IsList a vs.toArray) (hi : IntsAre vs ns) (hlen : ns.length ≤ 63)
    (hT : OkT T) (hTl : (s T).length ≤ 40) (F : Fr st.heap L h₁ m) (ht : m (Str.ofString "text") = some (.str (s T) tt)) (hsc : m (Str.ofString "script") = some (.ref a)) (N : News st.heap L h₁ [(L + 1, oc)]) (hod : oc.data = .cell none)
    (hQ : ∀ h' tk', Kp st.heap h' → Q (.ret (.bool true)) { st with heap := h', toks := tk' }) :
    wpAny (model PWx w) (A.deeper (lawEnv dLaw.scope L)) (execs (lawFor :: lawTail) (lawEnv dLaw.scope L)) Q (fun _ _ => False) { st with heap := h₁, toks := tk } := by
  refine castL rfl rfl ?_
  have F1 := knowL [(Str.ofString "text", .str (s T) tt), (Str.ofString "script", .ref a)] F (by simp [ht, hsc])
  simp only [lookO] at F1
  clear F
  walk1
  refine wpAny_For ?_
  repeat' ((fail_if_success (with_reducible show wpAny _ _ (PySem.pyIter _) _ _ _)); walk1)
  rename Fr _ _ _ _ => F2
  rename News _ _ _ _ => N2
  refine sumN hh (hl.at fun o e => F2.keep _ o e) hi (fun h9 tk9 t9 hk9 => ?_)
  have F3 := F2.keeps hk9
  have N3 := N2.grown hk9
  clear F2 N2
  generalize hS : ns.sum = S
  try dsimp only
  repeat' ((fail_if_success (with_reducible show wpAny _ _ (PySem.pyIter _) _ _ _)); walk1)
  rename_i D h4 F4 N4 l4
  have hIsl := News.isList N4 (.head _)
  have hLI : L < h4.objs.size := by obtain ⟨_, _, _, e, _⟩ := F4.ns; exact Heap.lt_size e
  have hLst : st.heap.objs.size ≤ L := F4.above
  refine wpAny_pyIter_list hIsl ?_
  refine loopC (st := st) (I := h4.objs.size) (a := D) (ws := [.int (4 + (S.fdiv 4).fmod 4) (tk9 + 1 + 1 + 1 + 1), .int 12 (tk9 + 1 + 1 + 1 + 1 + 1)]) (v0 := none) X Tr hroom hh hu hT hTl ?_ (F4.push _) rfl ⟨_, Heap.get?_push_size _ rfl, rfl, rfl⟩ (hIsl.push _)
    (Nat.ne_of_gt hLI) (N4 _ (.head _)).2.1 (none_ge (Nat.le_of_lt (Nat.lt_of_le_of_lt hLst hLI))) (N4 _ (.head _)).2.2
    (Nat.ne_of_lt (Heap.lt_size (N4.get (.head _)))) (Nat.ne_of_gt (Heap.lt_size (N4.get (.tail _ (.head _))))) (Nat.ne_of_gt l4) (N4 _ (.tail _ (.head _))).2.2 ⟨oc, Heap.get?_push_of_some _ (N4.get (.tail _ (.head _))), hod⟩ (fun h' tk' m' F5 ht5 => ?_)
  · intro v hv
    rcases List.mem_cons.mp hv with rfl | hv
    · have h4 : 0 ≤ (S.fdiv 4).fmod 4 ∧ (S.fdiv 4).fmod 4 < 4 := by rw [Int.fmod_eq_emod_of_nonneg _ (by decide)]; omega
      refine ⟨(4 + (S.fdiv 4).fmod 4).toNat, tk9 + 1 + 1 + 1 + 1, ?_, by omega, by omega⟩
      rw [show (((4 + (S.fdiv 4).fmod 4).toNat : Nat) : Int) = 4 + (S.fdiv 4).fmod 4 by omega]
    · rcases List.mem_singleton.mp hv with rfl
      exact ⟨12, tk9 + 1 + 1 + 1 + 1 + 1, rfl, by decide, by decide⟩
  · exact tail_spec (st := st) X Tr hroom hh hu hT hTl F5 ht5 hQ
end
end Mine
end
section
open PySem PySem.W PyProof.Rows PySem.Calls
set_option maxRecDepth 100000
set_option maxHeartbeats 1000000
set_option linter.unusedVariables false
namespace Mine
section
variable {w : World} {mg mb : Str → Option Value} {lo : List Str}
def IntR (i : Int) (v : Value) : Prop := ∃ u, v = .int i u
theorem IntR.fun (a b : Int) (v : Value) (h : IntR a v) (g : IntR b v) : a = b := by
  obtain ⟨u, rfl⟩ := h; obtain ⟨u', e⟩ := g; cases e; rfl
def PcR (v : Value) : Prop := ∃ l u, v = .str (s l) u ∧ OkT l ∧ l.length ≤ 3
theorem ints_at : ∀ {vs : List Value} {ns : List Int}, IntsAre vs ns → ∀ {i : Nat} {v : Value}, vs[i]? = some v → ∃ a, ns[i]? = some a ∧ IntR a v
  | _, _, .nil, i, v, h => by simp at h
  | _, _, .cons i' t h, 0, v, e => by simp at e; subst e; exact ⟨_, rfl, _, rfl⟩
  | _, _, .cons i' t h, i + 1, v, e => by
    obtain ⟨a, h1, h2⟩ := ints_at h (i := i) (v := v) (by simpa using e)
    exact ⟨a, by simpa using h1, h2⟩
def alphaL : Tx := [97, 32, 9, 10, 61, 233, 160, 35]
theorem lit_alpha : Str.ofString "a \t\n=\u00e9\u00a0#" = s alphaL := by decide +kernel
theorem alpha_at {k : Nat} (h : k < 8) : ∃ c, alphaL[k]? = some c ∧ okT c = true := by
  match k, h with
  | 0, _ | 1, _ | 2, _ | 3, _ | 4, _ | 5, _ | 6, _ | 7, _ => exact ⟨_, rfl, rfl⟩
  | k + 8, h => exact absurd h (by omega)
theorem mul_ok {c k : Nat} (h : k ≤ 3) : MulOk (s [c]) (k : Int) := by
  have h1 : (s [c]).length = 1 := rfl
  refine ⟨by simp; omega, fun q _ => ?_, fun _ _ => ?_⟩
  · rw [h1]
    have : k = 1 ∨ k = 2 ∨ k = 3 := by omega
    rcases this with rfl | rfl | rfl <;> decide
  · rw [h1]; exact short (by rw [Int.toNat_natCast]; omega)
theorem pcs : ∀ {as : List Int} {ys : List Value}, Paired (fun _ v => PcR v) as ys → ∃ ls : List Tx, StrsAre ys (ls.map s) ∧ (∀ l ∈ ls, OkT l ∧ l.length ≤ 3) ∧ ls.length = ys.length
  | _, _, .nil => ⟨[], .nil, by simp, rfl⟩
  | _, _, .cons ⟨l, u, e, h1, h2⟩ t => by
    obtain ⟨ls, h3, h4, h5⟩ := pcs t
    subst e
    refine ⟨l :: ls, .cons _ _ h3, ?_, by simp [h5]⟩
    intro z hz
    rcases List.mem_cons.mp hz with rfl | hz
    · exact ⟨h1, h2⟩
    · exact h4 z hz
theorem flat_ok {ls : List Tx} (h : ∀ l ∈ ls, OkT l ∧ l.length ≤ 3) : OkT ls.flatten ∧ ls.flatten.length ≤ 3 * ls.length := by
  induction ls with
  | nil => exact ⟨by intro c hc; simp at hc, by simp⟩
  | cons a t ih =>
    obtain ⟨h1, h2⟩ := ih fun l hl => h l (by simp [hl])
    obtain ⟨h3, h4⟩ := h a (by simp)
    refine ⟨?_, by simp only [List.flatten_cons, List.length_append, List.length_cons]; omega⟩
    intro c hc
    rw [List.flatten_cons] at hc
    rcases List.mem_append.mp hc with hc | hc
    · exact h3 c hc
    · exact h1 c hc
theorem lit_a : Str.ofString "a " = s [97, 32] := by decide +kernel
theorem lit_sn : Str.ofString " \n" = s [32, 10] := by decide +kernel
theorem lit_tet : Str.ofString "\t=\t" = s [9, 61, 9] := by decide +kernel
theorem ok_app {a b : Tx} (h : OkT a) (hb : b.all okT = true) : OkT (a ++ b) := by
  intro c hc
  rcases List.mem_append.mp hc with hc | hc
  · exact h c hc
  · exact List.all_eq_true.mp hb c hc
theorem law_spec {A : Around} {st : Shared} {a : Addr} {vs : List Value} {ns : List Int} {Q : Value → Shared → Prop} {E : Value → Shared → Prop}
    (X : (KF w.params).In st.heap) (Tr : TopRead Qv lo mg mb st.heap) (hroom : A.depth < 900) (hh : A.handled = none) (hu : A.units + 100 < cLine) (hl : st.heap.IsList a vs.toArray) (hi : IntsAre vs ns) (hlen : ns.length ≤ 63)
    (h : ∀ h' tk, Kp st.heap h' → Q (.bool true) { st with heap := h', toks := tk }) : wpAny (model PWx w) A (call (.ref 108) [.ref a]) Q E st := by
  refine wpAny_call (enterC (binds := [(Str.ofString "script", .ref a)]) X Tr (Nat.lt_trans hroom (by decide)) (by rfl) (by rfl) (by rfl) (by intro x hx; rcases List.mem_singleton.mp hx with rfl; exact .inl (by rfl)) ?_)
  intro h₁ tk F0 Cl0
  generalize hL : st.heap.objs.size = L at F0 Cl0
  have hcell : h₁.IsCell (L + 1) none := Cl0.cell (Str.ofString "width") (L + 1) (by rfl)
  obtain ⟨oc, hoc, hod⟩ := hcell
  have F : Fr st.heap L h₁ _ := knowL [(Str.ofString "script", .ref a)] F0 (by intro p hp; rcases List.mem_singleton.mp hp with rfl; rfl)
  simp only [lookO] at F
  have N : News st.heap L h₁ [(L + 1, oc)] := by
    intro p hp; rcases List.mem_singleton.mp hp with rfl
    exact ⟨hoc, Nat.succ_ne_self L, none_ge (by show st.heap.objs.size ≤ L + 1; rw [hL]; exact Nat.le_succ L)⟩
  clear F0 Cl0 hoc
  obtain ⟨m0, F⟩ : ∃ m0 : Str → Option Value, Fr st.heap L h₁ (fun y => if y = Str.ofString "script" then some (.ref a) else m0 y) := ⟨_, F⟩
  repeat' ((fail_if_success (with_reducible show wpAny _ _ (PySem.eval (.ListComp _ _ _ _) _) _ _ _)); walk1)
  refine LC (as := ns.take 10) (R := IntR) (G := fun _ v => PcR v) F IntR.fun hh (by rfl) (by decide) rfl (by decide) (by rfl) (by simp; omega) ?_
  repeat' ((fail_if_success (with_reducible show Exists _)); walk1)
  dsimp only
  rename Fr _ _ _ _ => F1
  rename News _ _ _ _ => N1
  rename IntsAre _ (List.take 10 ns) => hI1
  have I1 := Iters.list (w := w) (News.isList N1 (.head _))
  rw [hI1.length] at I1
  refine ⟨_, _, I1, fun i v e => ints_at hI1 e, F1, N1, ?_, ?_⟩
  · rintro C x v s₂ m₂ E' hx ⟨u, rfl⟩ hn hm hk
    clear F1 N1 hk
    repeat' walk1
    have h8 : (x.fmod 8).toNat < 8 := by rw [Int.fmod_eq_emod_of_nonneg _ (by decide)]; omega
    have h80 : 0 ≤ x.fmod 8 := by rw [Int.fmod_eq_emod_of_nonneg _ (by decide)]; omega
    obtain ⟨c, hc, hok⟩ := alpha_at h8
    have en : 1 + (x.fdiv 8).fmod 3 = ((1 + (x.fdiv 8).fmod 3).toNat : Int) := by rw [Int.fmod_eq_emod_of_nonneg _ (by decide)]; omega
    have en3 : (1 + (x.fdiv 8).fmod 3).toNat ≤ 3 := by rw [Int.fmod_eq_emod_of_nonneg _ (by decide)]; omega
    have hit : Txt.item (Str.ofString "a \t\n=\u00e9\u00a0#") (x.fmod 8) = s [c] := by rw [lit_alpha]; exact s_item h80 hc
    dsimp only
    rw [hit, en]
    generalize (1 + (x.fdiv 8).fmod 3).toNat = k at en3
    refine SB.mul (mul_ok en3) (fun t' k' => ?_)
    · rw [s_mul]
      exact ⟨⟨_, _, rfl, fun z hz => by rw [List.eq_of_mem_replicate hz]; exact hok, by simpa using en3⟩, _, _, rfl, fun _ _ e => e⟩
  · intro D ys n h' tk hk F2 N2 hp
    clear F1 N1 hk
    obtain ⟨ls, hS, hls, hlsl⟩ := pcs hp
    have hyl : ys.length ≤ 10 := by rw [← hp.length]; simp; omega
    repeat' ((fail_if_success (with_reducible show wpAny _ _ (PySem.exec (.For _ _ _ _ _) _) _ _ _)); walk1)
    have hfl := flat_ok hls
    rw [lit_e]
    refine join_list (News.isList N2 (.head _)) hS (by rw [sumlen, show (s []).length = 0 from rfl, Nat.mul_zero]; have := hfl.2; omega) (fun t' k => ?_)
    rw [s_join0]
    generalize ls.flatten = dr at hfl
    have hdr : (s dr).length ≤ 30 := by rw [s_len]; have := hfl.2; omega
    dsimp only
    repeat' ((fail_if_success (with_reducible show wpAny _ _ (PySem.exec (.For _ _ _ _ _) _) _ _ _)); walk1)
    rename Fr _ _ _ _ => F3
    rename News _ _ _ _ => N3
    refine sumN hh (hl.at fun o e => F3.keep _ o e) hi (fun h9 tk9 t9 hk9 => ?_)
    have F4 := F3.keeps hk9
    have N4 := N3.grown hk9
    clear F3 N3
    generalize hS : ns.sum = S
    dsimp only
    repeat' ((fail_if_success (with_reducible show wpAny _ _ (PySem.execs (.For _ _ _ _ _ :: _) _) _ _ _)); walk1)
    all_goals
      rename Fr _ _ _ _ => F5
      rename News _ _ _ _ => N5
    · refine law_rest (st := st) (T := dr ++ [97, 32]) X Tr hroom hh hu hl hi hlen (ok_app hfl.1 (by decide)) (by rw [s_len, List.length_append]; have := hfl.2; simp; omega) F5 (by rw [← s_app, ← lit_a]; rfl) rfl (News.pick N5 (by intro p hp; rcases List.mem_singleton.mp hp with rfl; simp)) hod (fun h' tk' k => h h' tk' k)
    · refine law_rest (st := st) (T := dr ++ []) X Tr hroom hh hu hl hi hlen (ok_app hfl.1 (by decide)) (by rw [s_len, List.length_append]; have := hfl.2; simp; omega) F5 (by rw [← s_app]; rfl) rfl (News.pick N5 (by intro p hp; rcases List.mem_singleton.mp hp with rfl; simp)) hod (fun h' tk' k => h h' tk' k)
    · refine law_rest (st := st) (T := dr ++ [32, 10]) X Tr hroom hh hu hl hi hlen (ok_app hfl.1 (by decide)) (by rw [s_len, List.length_append]; have := hfl.2; simp; omega) F5 (by rw [← s_app, ← lit_sn]; rfl) rfl (News.pick N5 (by intro p hp; rcases List.mem_singleton.mp hp with rfl; simp)) hod (fun h' tk' k => h h' tk' k)
    · refine law_rest (st := st) (T := dr ++ [9, 61, 9]) X Tr hroom hh hu hl hi hlen (ok_app hfl.1 (by decide)) (by rw [s_len, List.length_append]; have := hfl.2; simp; omega) F5 (by rw [← s_app, ← lit_tet]; rfl) rfl (News.pick N5 (by intro p hp; rcases List.mem_singleton.mp hp with rfl; simp)) hod (fun h' tk' k => h h' tk' k)
end
end Mine
end
open PySem PySem.W PyProof.Rows PySem.Calls
set_option maxRecDepth 100000
set_option maxHeartbeats 4000000
set_option linter.unusedVariables false
theorem PySem.Challenge.cw_re0076_01_holds : PySem.Challenge.rw_re0076_01.Holds := by
  refine Mine.hd ?_
  intro w s₀ s₁ mg mb G Y fa o pm cd doc dV kV ho hd' hcd hD hmg hg args vals as hpre hlay hrd hwl hlo
  have KX := kIn_of Y
  refine Ground.open G ?_
  intro T B D TE TW
  have TR := topRead_of T
  have e1 : mg (Str.ofString "law") = some (.ref 108) := mg_of KX TR.g (by rfl)
  have e2 : mg (Str.ofString "law") = some (.ref fa) := hmg
  rw [e1] at e2
  have e3 : fa = 108 := by injection e2 with e2; injection e2 with e2; exact e2.symm
  subst e3
  wrow_args hpre hlay hrd hwl hlo
  rename Heap.IsList _ _ _ => hL
  rename IntsAre _ _ => hI
  rename (¬ ((63 : Nat) : Int) < _) => hc
  refine Mine.law_spec (w := w) (st := s₁) KX TR (by decide) rfl (by decide) hL hI (by omega) (fun h' tk k => ?_)
  refine GoodW.toG ⟨.inl ⟨.bool true, .bool true, [], rfl, ?_, ?_, ?_, ?_⟩, k, rfl, hg⟩
  · intro cls; rfl
  · exact .bool true
  · exact postW_of (X := (true == true)) (by rfl) (show (WTm.eq .res (.lit (.bool true))).value _ _ = _ from w_eq_bool (w_res rfl) w_lit) rfl
  · exact unshared_nil
