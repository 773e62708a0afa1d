import PyProof.Rows.All
import Wide.All
import OpenK.AllK
import Wide.FinOn
import PySem.Challenge.RW_nb0030_01
set_option Elab.async false

section -- Pl1
open PySem PySem.W PyProof.Rows PySem.Calls PySem.Spec
set_option Elab.async false
namespace Mine
def addrCode (mk c : Nat) : Nat := if c = mk then 46 else if c = 46 then 126 else c
def addr (p : Str) : Str := ⟨(p.cps.toList.map (addrCode (p.cps.toList.getD 0 0))).toArray⟩
theorem slice1 {x : Str} {c : Nat} {r : List Nat} (h : x.cps.toList = c :: r) : Txt.slice x none (some 1) = ⟨#[c]⟩ := by
  have := StrLaws.sliceText_to (x := x) (j := 1) ⟨by decide, by rw [h]; simp; omega⟩
  show StrLaws.sliceText x none (some 1) = _
  rw [this, h]; rfl
theorem head_codes {x : Str} {pre post : List Int} {n : Nat} (h : KStt.codes x = pre ++ (n : Int) :: post) : ∃ c r, x.cps.toList = c :: r := by
  cases hx : x.cps.toList with
  | nil => simp [KStt.codes, hx] at h
  | cons c r => exact ⟨c, r, rfl⟩
theorem str_eq_mk {a : Str} {l : List Nat} (h : a.cps.toList = l) : a = ⟨l.toArray⟩ := by
  cases a; simp at h; subst h; simp
theorem addr_st0 (f : Int → Nat) : Str.ofString "" = ⟨(List.map f []).toArray⟩ ∧ (Str.ofString "").length = ([] : List Int).length := ⟨by rfl, by rfl⟩
theorem addr_app {a b : Str} {pre : List Int} {n : Nat} {f : Int → Nat} (ha : a = ⟨(pre.map f).toArray⟩) (hl : a.length = pre.length) (hb : b = ⟨#[f n]⟩) :
    a ++ b = ⟨((pre ++ [(n : Int)]).map f).toArray⟩ ∧ (a ++ b).length = (pre ++ [(n : Int)]).length := by
  subst ha hb
  refine ⟨?_, ?_⟩
  · show Str.append _ _ = _
    simp [Str.append]
  · show (Str.append _ _).length = _
    simp [Str.append, Str.length]
theorem beq1 {n c : Nat} : ((⟨#[n]⟩ : Str) == ⟨#[c]⟩) = decide (n = c) := by
  by_cases h : n = c
  · subst h; simp
  · have : ((⟨#[n]⟩ : Str) == ⟨#[c]⟩) = false := by
      rw [beq_eq_false_iff_ne]; intro e; injection e with e; simp at e; exact h e
    simp [this, h]
theorem addr_st1 {part a : Str} {pre post : List Int} {n : Nat} (hE : KStt.codes part = pre ++ (n : Int) :: post)
    (ha : a = ⟨(pre.map fun c => addrCode (part.cps.toList.getD 0 0) c.toNat).toArray⟩) (hl : a.length = pre.length)
    (h1 : ((⟨#[n]⟩ : Str) == Txt.slice part none (some 1)) = true) :
    a ++ Str.ofString "." = ⟨((pre ++ [(n : Int)]).map fun c => addrCode (part.cps.toList.getD 0 0) c.toNat).toArray⟩ ∧ (a ++ Str.ofString ".").length = (pre ++ [(n : Int)]).length := by
  obtain ⟨c, r, hx⟩ := head_codes hE
  rw [slice1 hx, beq1] at h1
  have hn : n = c := by simpa using h1
  refine addr_app ha hl ?_
  simp [addrCode, hx, hn]; rfl
theorem addr_st2 {part a : Str} {pre post : List Int} {n : Nat} (hE : KStt.codes part = pre ++ (n : Int) :: post)
    (ha : a = ⟨(pre.map fun c => addrCode (part.cps.toList.getD 0 0) c.toNat).toArray⟩) (hl : a.length = pre.length)
    (h1 : ((⟨#[n]⟩ : Str) == Txt.slice part none (some 1)) = false) (h2 : ((⟨#[n]⟩ : Str) == Str.ofString ".") = true) :
    a ++ Str.ofString "~" = ⟨((pre ++ [(n : Int)]).map fun c => addrCode (part.cps.toList.getD 0 0) c.toNat).toArray⟩ ∧ (a ++ Str.ofString "~").length = (pre ++ [(n : Int)]).length := by
  obtain ⟨c, r, hx⟩ := head_codes hE
  rw [slice1 hx, beq1] at h1
  have e : Str.ofString "." = ⟨#[46]⟩ := by rfl
  rw [e, beq1] at h2
  have hn : n ≠ c := by simpa using h1
  have hn2 : n = 46 := by simpa using h2
  refine addr_app ha hl ?_
  subst hn2
  simp [addrCode, hx, hn]; rfl
theorem addr_st3 {part a : Str} {pre post : List Int} {n : Nat} (hE : KStt.codes part = pre ++ (n : Int) :: post)
    (ha : a = ⟨(pre.map fun c => addrCode (part.cps.toList.getD 0 0) c.toNat).toArray⟩) (hl : a.length = pre.length)
    (h1 : ((⟨#[n]⟩ : Str) == Txt.slice part none (some 1)) = false) (h2 : ((⟨#[n]⟩ : Str) == Str.ofString ".") = false) :
    a ++ (⟨#[n]⟩ : Str) = ⟨((pre ++ [(n : Int)]).map fun c => addrCode (part.cps.toList.getD 0 0) c.toNat).toArray⟩ ∧ (a ++ (⟨#[n]⟩ : Str)).length = (pre ++ [(n : Int)]).length := by
  obtain ⟨c, r, hx⟩ := head_codes hE
  rw [slice1 hx, beq1] at h1
  have e : Str.ofString "." = ⟨#[46]⟩ := by rfl
  rw [e, beq1] at h2
  have hn : n ≠ c := by simpa using h1
  have hn2 : n ≠ 46 := by simpa using h2
  refine addr_app ha hl ?_
  simp [addrCode, hx, hn, hn2]
theorem addr_end {part : Str} {a : Str} (h : a = ⟨((KStt.codes part).map fun c => addrCode (part.cps.toList.getD 0 0) c.toNat).toArray⟩) : a = addr part := by
  subst h
  simp [addr, KStt.codes]
theorem ret_str {Q : Value → Shared → Prop} {x y : Str} {t : Tok} {s : Shared} (e : x = y) (h : Q (.str y t) s) : Q (.str x t) s := e ▸ h
theorem ret_int {Q : Value → Shared → Prop} {x y : Int} {t : Tok} {s : Shared} (e : x = y) (h : Q (.int y t) s) : Q (.int x t) s := e ▸ h
end Mine
end

section -- Pl2
open PySem PySem.W PyProof.Rows PySem.Calls PySem.Spec
set_option Elab.async false
namespace Mine
def worth (l : List Int) : Int := l.foldl (fun a c => a * 10 + (c - 48)) 0
theorem worth_snoc (l : List Int) (c : Int) : worth (l ++ [c]) = worth l * 10 + (c - 48) := by simp [worth]
theorem worth_bd : ∀ (l : List Int) (a : Int) (k : Nat), (∀ c ∈ l, 48 ≤ c ∧ c ≤ 57) → 0 ≤ a → a < 10 ^ k →
    0 ≤ l.foldl (fun a c => a * 10 + (c - 48)) a ∧ l.foldl (fun a c => a * 10 + (c - 48)) a < 10 ^ (k + l.length)
  | [], a, k, _, h0, h1 => ⟨h0, h1⟩
  | c :: r, a, k, h, h0, h1 => by
    have hc := h c (.head _)
    have ih := worth_bd r (a * 10 + (c - 48)) (k + 1) (fun x hx => h x (.tail _ hx)) (by omega) (by rw [Int.pow_succ]; omega)
    rw [List.foldl_cons, List.length_cons]
    have e : k + 1 + r.length = k + (r.length + 1) := by omega
    rw [e] at ih
    exact ih
theorem worth_bound {l : List Int} (h : ∀ c ∈ l, 48 ≤ c ∧ c ≤ 57) (hl : l.length ≤ 10) : 0 ≤ worth l ∧ worth l < 10000000000 := by
  have := worth_bd l 0 0 h (Int.le_refl _) (by decide)
  refine ⟨this.1, Int.lt_of_lt_of_le this.2 ?_⟩
  have e : ((10 ^ (0 + l.length) : Nat) : Int) ≤ ((10 ^ 10 : Nat) : Int) := Int.ofNat_le.mpr (Nat.pow_le_pow_right (by decide) (by omega))
  simpa using e
theorem find_digit {n : Nat} (h : 48 ≤ (n : Int) ∧ (n : Int) ≤ 57) : Txt.find (Str.ofString "0123456789") ⟨#[n]⟩ = (n : Int) - 48 := by
  have : n = 48 ∨ n = 49 ∨ n = 50 ∨ n = 51 ∨ n = 52 ∨ n = 53 ∨ n = 54 ∨ n = 55 ∨ n = 56 ∨ n = 57 := by omega
  rcases this with rfl | rfl | rfl | rfl | rfl | rfl | rfl | rfl | rfl | rfl <;> decide +kernel
theorem worth_st {figs : Str} {pre post : List Int} {n : Nat} {v : Int} (hE : KStt.codes figs = pre ++ (n : Int) :: post) (hl : figs.length ≤ 10)
    (hd : ∀ c ∈ KStt.codes figs, 48 ≤ c ∧ c ≤ 57) (hv : v = worth pre) :
    v * 10 + Txt.find (Str.ofString "0123456789") ⟨#[n]⟩ = worth (pre ++ [(n : Int)]) ∧ 0 ≤ v * 10 + Txt.find (Str.ofString "0123456789") ⟨#[n]⟩ ∧ v * 10 + Txt.find (Str.ofString "0123456789") ⟨#[n]⟩ < 10000000000 := by
  have hn : 48 ≤ (n : Int) ∧ (n : Int) ≤ 57 := hd _ (by rw [hE]; simp)
  have e : v * 10 + Txt.find (Str.ofString "0123456789") ⟨#[n]⟩ = worth (pre ++ [(n : Int)]) := by rw [find_digit hn, worth_snoc, hv]
  have hlen : (KStt.codes figs).length ≤ 10 := by simpa [KStt.codes, Str.length] using hl
  have := worth_bound (l := pre ++ [(n : Int)]) (fun c hc => hd c (by rw [hE]; simp at hc ⊢; rcases hc with h | h <;> simp [h])) (by rw [hE] at hlen; simp at hlen ⊢; omega)
  rw [e]
  exact ⟨rfl, this⟩
end Mine
end

section -- Pl3
open PySem PySem.W PyProof.Rows PySem.Calls
set_option Elab.async false
namespace Mine
/-- the signs of the law's text -/
def Sgn (c : Nat) : Prop := c = 55 ∨ c = 48 ∨ c = 124 ∨ c = 46 ∨ c = 97 ∨ c = 49 ∨ c = 59
abbrev Rsp (part : Str) : Str := Str.ofString "229 on (" ++ part ++ Str.ofString ")"
theorem rsp_list (part : Str) : (Rsp part).cps.toList = [50, 50, 57, 32, 111, 110, 32, 40] ++ (part.cps.toList ++ [41]) := by
  have e1 : (Str.ofString "229 on (").cps.toList = [50, 50, 57, 32, 111, 110, 32, 40] := by decide +kernel
  have e2 : (Str.ofString ")").cps.toList = [41] := by decide +kernel
  show (Str.append (Str.append _ part) _).cps.toList = _
  simp only [Str.append, Array.toList_append, e1, e2, List.append_assoc]
theorem rsp_len (part : Str) : (Rsp part).length = part.length + 9 := by
  have := congrArg List.length (rsp_list part)
  simp [Str.length] at this ⊢; omega
theorem rsp_head (part : Str) : (Txt.slice (Rsp part) none (some 3) != Str.ofString "229") = false := by
  have h := StrLaws.sliceText_to (x := Rsp part) (j := 3) ⟨by decide, by rw [rsp_list]; simp; omega⟩
  have e : Txt.slice (Rsp part) none (some 3) = ⟨#[50, 50, 57]⟩ := by
    show StrLaws.sliceText _ none (some 3) = _
    rw [h, rsp_list]; rfl
  rw [e]; decide +kernel
theorem find_first {x : Str} {c i : Nat} (h : x.cps.toList[i]? = some c) (hn : ∀ k, k < i → x.cps.toList[k]? ≠ some c) : Txt.find x ⟨#[c]⟩ = (i : Int) := by
  rcases find_whole x ⟨#[c]⟩ with ⟨_, hno⟩ | ⟨j, hj, hat, hmin⟩
  · exact absurd ((StrLaws.subAt_one x c i).mpr h) (hno i)
  · rw [hj]
    have hj' := (StrLaws.subAt_one x c j).mp hat
    rcases Nat.lt_trichotomy i j with q | q | q
    · exact absurd ((StrLaws.subAt_one x c i).mpr h) (hmin i q)
    · rw [q]
    · exact absurd hj' (hn j q)
theorem rsp_open (part : Str) : Txt.find (Rsp part) (Str.ofString "(") = 7 := by
  have e : Str.ofString "(" = ⟨#[40]⟩ := by decide +kernel
  rw [e]
  refine find_first (i := 7) (by rw [rsp_list]; rfl) fun k hk => ?_
  rw [rsp_list, List.getElem?_append_left (by simp; omega)]
  have : k = 0 ∨ k = 1 ∨ k = 2 ∨ k = 3 ∨ k = 4 ∨ k = 5 ∨ k = 6 := by omega
  rcases this with rfl | rfl | rfl | rfl | rfl | rfl | rfl <;> decide
theorem rsp_at (part : Str) {i : Nat} (hi : i < part.length) : (Rsp part).cps.toList[8 + i]? = part.cps.toList[i]? := by
  have hl : part.cps.toList.length = part.length := by simp [Str.length]
  have hsz : part.cps.size = part.length := rfl
  rw [rsp_list, List.getElem?_append_right (by simp), List.getElem?_append_left (by simp; omega)]
  congr 1; simp
theorem rsp_close {part : Str} (hs : ∀ c ∈ part.cps.toList, Sgn c) {i : Int} (hi : i = 8) : Txt.find3 (Rsp part) (Str.ofString ")") i = (part.length : Int) + 8 := by
  subst hi
  have e : Str.ofString ")" = ⟨#[41]⟩ := by decide +kernel
  have hl := rsp_len part
  have hpl : part.cps.toList.length = part.length := by simp [Str.length]
  have hsz : part.cps.size = part.length := rfl
  have hgd : ∀ v, (Rsp part).cps.getD v 0 = (Rsp part).cps.toList.getD v 0 := fun v => by simp [Array.getD_eq_getD_getElem?, List.getD_eq_getElem?_getD]
  have hend : (Rsp part).cps.getD (part.length + 8) 0 = 41 := by
    rw [hgd, List.getD_eq_getElem?_getD, rsp_list, List.getElem?_append_right (by simp), List.getElem?_append_right (by simp; omega)]
    simp [hpl]
  have hmid : ∀ v, 8 ≤ v → v < part.length + 8 → (Rsp part).cps.getD v 0 ≠ 41 := fun v h1 h2 he => by
    obtain ⟨k, rfl⟩ : ∃ k, v = 8 + k := ⟨v - 8, by omega⟩
    rw [hgd, List.getD_eq_getElem?_getD, rsp_at part (by omega)] at he
    have hk : k < part.cps.toList.length := by omega
    rw [List.getElem?_eq_getElem hk] at he
    have := hs _ (List.getElem_mem hk)
    simp only [Option.getD_some] at he
    rw [he] at this
    simp [Sgn] at this
  have hf : fromIndex (Rsp part).length 8 = 8 := by unfold fromIndex; simp; omega
  rw [e]
  rcases StrLaws.find3_spec (Rsp part) 41 8 with ⟨_, hno⟩ | ⟨k, hk, h1, h2, h3, h4⟩
  · exact absurd hend (hno _ (by rw [hf]; omega) (by omega))
  · rw [hk]
    rw [hf] at h1 h4
    rcases Nat.lt_trichotomy k (part.length + 8) with q | q | q
    · exact absurd h3 (hmid k h1 q)
    · omega
    · exact absurd hend (h4 _ (by omega) q)
def fst (p : List Nat) : Nat := match p with | [] => 41 | c :: _ => c
def lst (p : List Nat) : Nat := (40 :: p).getLast (by simp)
theorem item_at {x : Str} {i : Int} {n c : Nat} (hi : i = (n : Int)) (h : x.cps.toList[n]? = some c) : Txt.item x i = ⟨#[c]⟩ :=
  item_meets (by omega) (by rw [hi]; simpa using h)
theorem rsp_first (part : Str) {i : Int} (hi : i = 8) : Txt.item (Rsp part) i = ⟨#[fst part.cps.toList]⟩ := by
  refine item_at (n := 8) hi ?_
  rw [rsp_list, List.getElem?_append_right (by simp)]
  cases part.cps.toList <;> rfl
theorem rsp_last (part : Str) {i : Int} (hi : i = (part.length : Int) + 7) : Txt.item (Rsp part) i = ⟨#[lst part.cps.toList]⟩ := by
  have hpl : part.cps.toList.length = part.length := by simp [Str.length]
  have hsz : part.cps.size = part.length := rfl
  refine item_at (n := part.length + 7) (by omega) ?_
  have e : (Rsp part).cps.toList = [50, 50, 57, 32, 111, 110, 32] ++ ((40 :: part.cps.toList) ++ [41]) := by rw [rsp_list]; rfl
  rw [e, List.getElem?_append_right (by simp), List.getElem?_append_left (by simp; omega)]
  have : part.length + 7 - [50, 50, 57, 32, 111, 110, 32].length = (40 :: part.cps.toList).length - 1 := by simp [hpl]
  rw [this, ← List.getLast?_eq_getElem?, List.getLast?_eq_some_getLast (by simp)]
  rfl
theorem rsp_mid (part : Str) {i j : Int} (hi : i = 8) (hj : j = (part.length : Int) + 8) : Txt.slice (Rsp part) (some i) (some j) = part := by
  have hpl : part.cps.toList.length = part.length := by simp [Str.length]
  have hsz : part.cps.size = part.length := rfl
  have hl := rsp_len part
  have hl' : (Rsp part).cps.toList.length = (Rsp part).length := by simp [Str.length]
  subst hi hj
  have h := StrLaws.sliceText_plain (x := Rsp part) (i := 8) (j := (part.length : Int) + 8) ⟨by omega, by omega, by omega⟩
  show StrLaws.sliceText _ _ _ = _
  rw [h, rsp_list]
  have e2 : ((part.length : Int) + 8 - 8).toNat = part.cps.toList.length := by omega
  rw [e2]
  have e3 : (8 : Int).toNat = [50, 50, 57, 32, 111, 110, 32, 40].length := rfl
  rw [e3, List.drop_left, List.take_left]
end Mine
end

section -- U0
open PySem PySem.W PyProof.Rows PySem.Calls
set_option Elab.async false
namespace Mine
/-- the claim's caller stands somewhere on the stack -/
def Und (Γ : Ctx) : Prop := (Γ.code :: Γ.below.map (·.1)).any Code.isCaller = true
def UndB (Γ : Ctx) : Prop := (Γ.below.map (·.1)).any Code.isCaller = true
theorem UndB.und {Γ : Ctx} (h : UndB Γ) : Und Γ := by unfold Und UndB at *; rw [List.any_cons, h, Bool.or_true]
theorem Und.enter {Γ : Ctx} (h : Und Γ) (c : Code) (hd : Option Value) (p : Pos) : UndB (Γ.enter c hd p) := h
theorem UndB.goto {Γ : Ctx} (h : UndB Γ) (c : Code) : UndB (Γ.goto c) := h
/-- wpAny of the contexts that bear the caller -/
def wpU {α : Type} (M : Model) (A : Around) (t : Sem α) (Q : α → Shared → Prop) (E : Value → Shared → Prop) (s : Shared) : Prop :=
  ∀ Γ p, Γ.In A → Und Γ → Sem.wp M Γ t (fun a _ s' => Q a s') (fun e _ s' => E e s') p s
def codeU (M : Model) (A : Around) (c : Code) (R : Result → Shared → Prop) (s : Shared) : Prop :=
  ∀ Γ p, Γ.code = c → Γ.Below A → UndB Γ → wpCode M Γ R p s
section
variable {α β : Type} {M : Model} {A : Around} {E : Value → Shared → Prop} {s : Shared}
theorem wpU.of {t : Sem α} {Q : α → Shared → Prop} (h : wpAny M A t Q E s) : wpU M A t Q E s := fun Γ p hΓ _ => h Γ p hΓ
theorem codeU.of {c : Code} {R : Result → Shared → Prop} (h : codeAny M A c R s) : codeU M A c R s := fun Γ p hc hΓ _ => h Γ p hc hΓ
theorem wpU_mono {t : Sem α} {Q Q' : α → Shared → Prop} {E' : Value → Shared → Prop} (h : wpU M A t Q E s) (hQ : ∀ a s, Q a s → Q' a s) (hE : ∀ e s, E e s → E' e s) : wpU M A t Q' E' s :=
  fun Γ p hΓ hu => Sem.wp_mono M Γ t (fun a _ s => hQ a s) (fun e _ s => hE e s) p s (h Γ p hΓ hu)
theorem wpU_bind {m : Sem α} {f : α → Sem β} {Q : β → Shared → Prop} (h : wpU M A m (fun a s' => wpU M A (f a) Q E s') E s) : wpU M A (m >>= f) Q E s := fun Γ p hΓ hu => by
  rw [Sem.wp_bind']
  exact Sem.wp_mono M Γ m (fun a p' s' h' => h' Γ p' hΓ hu) (fun _ _ _ h' => h') p s (h Γ p hΓ hu)
/-- the first part by wpAny -/
theorem wpU_bindA {m : Sem α} {f : α → Sem β} {Q : β → Shared → Prop} (h : wpAny M A m (fun a s' => wpU M A (f a) Q E s') E s) : wpU M A (m >>= f) Q E s := wpU_bind (.of h)
theorem wpU_pure {a : α} {Q : α → Shared → Prop} (h : Q a s) : wpU M A (pure a) Q E s := fun _ _ _ _ => h
theorem wpU_standAt {pos : Pos} {Q : Unit → Shared → Prop} (h : Q () s) : wpU M A (standAt pos) Q E s := fun _ _ _ _ => h
theorem wpU_point {Q : Unit → Shared → Prop} (h : Q () s) : wpU M A point Q E s := fun _ _ _ _ => h
theorem wpU_of_eq {t t' : Sem α} {Q : α → Shared → Prop} (e : t = t') (h : wpU M A t' Q E s) : wpU M A t Q E s := e ▸ h
theorem wpU_onRaise {m : Sem α} {k : Value → Sem Unit} {Q : α → Shared → Prop} (h : wpU M A m Q (fun e s' => wpAny M A (k e) (fun _ s'' => E e s'') E s') s) : wpU M A (m.onRaise k) Q E s := fun Γ p hΓ hu => by
  rw [Sem.wp_onRaise]
  exact Sem.wp_mono M Γ m (fun _ _ _ h' => h') (fun e p' s' h' => h' Γ p' hΓ) p s (h Γ p hΓ hu)
theorem wpU_attempt {m : Sem α} {Q : Except Value α → Shared → Prop} (h : wpU M A m (fun a => Q (.ok a)) (fun e => Q (.error e)) s) : wpU M A m.attempt Q E s := fun Γ p hΓ hu => by rw [Sem.wp_attempt]; exact h Γ p hΓ hu
theorem wpU_holding {vs : List Value} {m : Sem α} {Q : α → Shared → Prop} (h : wpU M A m Q E s) : wpU M A (holding vs m) Q E s := fun Γ p hΓ hu => by rw [Sem.wp_holding]; exact h Γ p hΓ hu
theorem wpU_runValue {c : Code} {Q : Value → Shared → Prop} (hc : codeU M A c (fun r s' => match r with | .ok (.ret v) => Q v s' | .ok _ => False | .error e => E e s') s) : wpU M A (runValue c) Q E s :=
  fun Γ p hΓ hu => by rw [Sem.wp_runValue]; exact hc _ p rfl (hΓ.enter c none p (by intro x; cases x)) (hu.enter c none p)
theorem wpU_call {f : Value} {pos : List Value} {kw : List (Str × Value)} {Q : Value → Shared → Prop} (hc : codeU M A (.call f ⟨pos, kw⟩) (fun r s' => match r with | .ok (.ret v) => Q v s' | .ok _ => False | .error e => E e s') s) : wpU M A (call f pos kw) Q E s := wpU_runValue hc
theorem wpU_run {c : Code} {h : Option Value} {Q : Flow → Shared → Prop} (hc : codeU M (A.mark h) c (fun r s' => match r with | .ok f => Q f s' | .error e => E e s') s) (hnb : h ≠ some byPass) : wpU M A (run c h) Q E s :=
  fun Γ p hΓ hu => by rw [Sem.wp_run]; exact hc _ p rfl (hΓ.enter c h p hnb) (hu.enter c h p)
theorem codeU_of_tree {c : Code} {R : Result → Shared → Prop}
    (h : wpU M (A.under c) (M.den c) (fun fin s' => match fin with | .done f => R (.ok f) s' | .again c' => c'.quiet = true ∧ codeU M A c' R s') (fun e s' => R (.error e) s') s) : codeU M A c R s := fun Γ p hc hΓ hu => by
  rw [wpCode_iff_wp, hc]
  refine Sem.wp_mono M Γ _ (fun fin p' s' h' => ?_) (fun _ _ _ h' => h') p s (h Γ p (hc ▸ hΓ.in) hu.und)
  cases fin with
  | done f => exact h'
  | again c' => exact ⟨h'.1, h'.2 (Γ.goto c') p' rfl (hΓ.goto c') (hu.goto c')⟩
theorem codeU_loop {c : Code} {R : Result → Shared → Prop} (hq : c.quiet = true) (I : Nat → Shared → Prop)
    (turn : ∀ n s, I n s → wpU M (A.under c) (M.den c) (fun fin s' => match fin with
      | .done f => R (.ok f) s'
      | .again c' => (c' = c ∧ ∃ m, m < n ∧ I m s') ∨ (c'.quiet = true ∧ codeU M A c' R s')) (fun e s' => R (.error e) s') s)
    (n : Nat) (h : I n s) : codeU M A c R s := by
  induction n using Nat.strongRecOn generalizing s with
  | ind n ih =>
    refine codeU_of_tree (wpU_mono (turn n s h) (fun fin s' hf => ?_) fun _ _ h' => h')
    cases fin with
    | done f => exact hf
    | again c' =>
      rcases hf with ⟨rfl, m, hm, hI⟩ | hf
      · exact ⟨hq, ih m hm hI⟩
      · exact hf
end
/-! the control rules on the way to int() -/
section
variable {M : Model} {A : Around} {E : Value → Shared → Prop} {s : Shared} {env : Env}
theorem wpU_execs_cons {st : Stmt} {rest : List Stmt} {Q : Flow → Shared → Prop}
    (h : wpU M A (exec st env) (fun f s' => match f with | .next => wpU M A (execs rest env) Q E s' | f => Q f s') E s) : wpU M A (execs (st :: rest) env) Q E s := fun Γ p hΓ hu => by
  rw [execs_cons, Sem.wp_bind']
  refine Sem.wp_mono M Γ _ (fun f p' s' h' => ?_) (fun _ _ _ h' => h') _ _ (h Γ p hΓ hu)
  cases f <;> first | exact h' Γ p' hΓ hu | exact h'
theorem wpU_If {test : Expr} {body orelse : List Stmt} {pos : Pos} {Q : Flow → Shared → Prop}
    (h : wpU M A (isTrue test env (eval test env)) (fun b s₂ => if b then wpU M A (execs body env) Q E s₂ else wpU M A (execs orelse env) Q E s₂) E s) : wpU M A (exec (.If test body orelse pos) env) Q E s := by
  rw [exec_If]
  refine wpU_bind (wpU_standAt (wpU_bind (wpU_mono h ?_ fun _ _ y => y)))
  rintro (_ | _) s₂ h₂ <;> exact h₂
theorem wpU_isTrue_Compare1 {l r : Expr} {op : CmpOp} {pos : Pos} {whole : Sem Value} {Q : Bool → Shared → Prop}
    (h : wpU M A (eval l env) (fun a s₁ => wpU M A (eval r env) (fun b s₂ => wpAny M A (compareOp op a b) (fun c s₃ => wpAny M A (truthy c) Q E s₃) E s₂) E s₁) E s)
    (hm : behindInMarks op r = false := by with_unfolding_all rfl) : wpU M A (isTrue (.Compare l [op] [r] pos) env whole) Q E s := by
  rw [isTrue_Compare1]
  refine wpU_bind (wpU_mono h (fun a s₁ ha => ?_) fun _ _ y => y)
  rw [markedBehindIn_of_false hm]
  refine wpU_bind (wpU_holding (wpU_mono ha (fun b s₂ hb => ?_) fun _ _ y => y))
  refine wpU_bind (wpU_standAt (wpU_bindA (wpAny_operateT (wpAny_mono hb (fun c s₃ hc => ?_) fun _ _ y => y))))
  exact .of (wpAny_holding hc)
theorem wpU_Call {func : Expr} {args : List Expr} {pos : Pos} {Q : Value → Shared → Prop}
    (h : wpAny M A (eval func env) (fun f s₁ => wpU M A (callWith pos f [] (backTo pos (starEach args env)) []) Q E s₁) E s)
    (he : eval (.Call func args [] pos) env = (do callWith pos (← eval func env) [] (backTo pos (starEach args env)) (backToKw pos (keywordEach [] env))) := by rfl) :
    wpU M A (eval (.Call func args [] pos) env) Q E s := by rw [he]; exact wpU_bindA h
theorem wpU_Return_some {e : Expr} {pos : Pos} {Q : Flow → Shared → Prop} (h : wpU M A (eval e env) (fun v => Q (.ret v)) E s) : wpU M A (exec (.Return (some e) pos) env) Q E s := by
  rw [exec_Return_some]
  exact wpU_bind (wpU_standAt (wpU_bind (wpU_mono h (fun _ _ q => wpU_pure q) fun _ _ y => y)))
theorem wpU_Assign_Name {x : Str} {pos' pos : Pos} {value : Expr} {Q : Flow → Shared → Prop}
    (h : wpU M A (eval value env) (fun v s₁ => wpAny M A (storeName env x v) (fun _ => Q .next) E s₁) E s)
    (hs : swapsWith value (some (.Name x pos')) pos.line env = pure false := by rfl) : wpU M A (exec (.Assign [.Name x pos'] value pos) env) Q E s := by
  rw [exec_Assign_Name env x pos' value pos hs]
  refine wpU_bind (wpU_standAt (wpU_bind (wpU_mono h (fun v s₁ hv => ?_) fun _ _ y => y)))
  exact wpU_bind (wpU_standAt (wpU_bindA (wpAny_bindName (wpAny_mono hv (fun _ _ q => wpU_pure q) fun _ _ y => y))))
theorem wpU_tryStmt_except {body orelse : Sem Flow} {h₀ : ExceptHandler} {hs : List ExceptHandler} {Q : Flow → Shared → Prop}
    (h : wpU M A body (fun f s₁ => match f with | .next => wpAny M A orelse Q E s₁ | f => Q f s₁)
      (fun e s₁ => wpAny M A (noteFrame e env) (fun _ s₂ => wpAny M A (setFlight e none) (fun _ s₃ => wpAny M A (handleBy e env (h₀ :: hs)) Q E s₃) E s₂) E s₁) s) :
    wpU M A (tryStmt false body (h₀ :: hs) orelse [] env) Q E s := by
  unfold tryStmt
  simp only [List.isEmpty_nil, if_true, List.isEmpty_cons, Bool.false_and, Bool.false_eq_true, if_false]
  refine wpU_bind (wpU_attempt (wpU_mono h (fun f s₁ h₁ => ?_) fun e s₁ h₁ => ?_))
  · cases f <;> first | exact .of h₁ | exact .of (wpAny_pure h₁)
  · exact .of (wpAny_bind (wpAny_mono h₁ (fun _ _ h₂ => wpAny_bind h₂) fun _ _ x => x))
end
end Mine
end

section -- U1
open PySem PySem.W PyProof.Rows PySem.Calls
set_option Elab.async false
set_option maxRecDepth 100000
namespace Mine
section
variable {M : Model} {A : Around} {E : Value → Shared → Prop} {s : Shared} {env : Env}
theorem wpU_onRaise' {α : Type} {m : Sem α} {k : Value → Sem Unit} {Q : α → Shared → Prop} (h : wpU M A m Q (fun e s' => wpAny M A (k e) (fun _ s'' => E e s'') E s') s) : wpU M A (m.onRaise k) Q E s := wpU_onRaise h
theorem wpU_callWith_function {pos : Pos} {a : Addr} {o : Obj} {fd : FuncData} {args : List (Bool × Sem Value)} {Q : Value → Shared → Prop} (hns : args.any (·.1) = false)
    (h : wpAny M A (evalArgs (.ref a) true args []) (fun x s₁ => (s₁.heap.get? a = some o ∧ o.data = .func fd) ∧ wpU M A (call (.ref a) x.pos x.kw) Q E s₁) E s) :
    wpU M A (callWith pos (.ref a) [] args []) Q E s := by
  unfold callWith
  refine wpU_bindA (wpAny_holding (wpAny_mono h (fun x s₁ h₁ => wpU_bind (wpU_standAt ?_)) fun _ _ x => x))
  have tail : ∀ {t : Sem Value}, wpU M A t Q E s₁ → wpU M A (t >>= fun r => holding [r] point >>= fun _ => pure r) Q E s₁ :=
    fun ht => wpU_bind (wpU_mono ht (fun r s₂ hr => .of (wpAny_bind (wpAny_holding (wpAny_point (wpAny_pure hr))))) fun _ _ x => x)
  simp only [List.any_nil, Bool.or_false, hns, List.nil_append]
  refine wpU_bindA (m := keeperOf (.ref a)) ?_
  unfold keeperOf
  refine wpAny_bind (wpAny_load h₁.1.1 ?_)
  rw [h₁.1.2]
  refine wpAny_pure ?_
  dsimp only
  split
  · exact tail h₁.2
  · refine tail ?_
    unfold callMarked
    exact fun Γ p hΓ hu => by rw [Sem.wp_keep]; exact h₁.2 Γ p hΓ hu
theorem wpU_callWith_def {pos : Pos} {f : Addr} {o : Obj} {fd : FuncData} {e : Expr} {rest : List Expr} {Q : Value → Shared → Prop} (hdat : o.data = .func fd)
    (h : wpAny M A (spliced (backTo pos (starEach (e :: rest) env))) (fun vs s₁ => s₁.heap.get? f = some o ∧ wpU M A (call (.ref f) vs) Q E s₁) E s)
    (he : starEach (e :: rest) env = (false, eval e env) :: starEach rest env := by rfl) (hplain : (backTo pos (starEach rest env)).any (·.1) = false := by rfl) :
    wpU M A (callWith pos (.ref f) [] (backTo pos (starEach (e :: rest) env)) []) Q E s := by
  rw [he] at h ⊢
  exact wpU_callWith_function (o := o) (fd := fd) (by show (false || (backTo pos (starEach rest env)).any (·.1)) = false; rw [hplain]; rfl) (evalArgs_plain (wpAny_mono h (fun vs s₁ h₁ => ⟨⟨h₁.1, hdat⟩, h₁.2⟩) fun _ _ x => x))
theorem wpU_callWith_type {pos : Pos} {T : String} {args : List (Bool × Sem Value)} {Q : Value → Shared → Prop} (hplain : args.any (·.1) = false)
    (h : wpAny M A (evalArgs (.type T) true args []) (fun a s₁ => wpU M A (call (.type T) a.pos a.kw) Q E s₁) E s) : wpU M A (callWith pos (.type T) [] args []) Q E s := by
  unfold callWith
  refine wpU_bindA (wpAny_holding (wpAny_mono h (fun a s₁ h₁ => wpU_bind (wpU_standAt ?_)) fun _ _ x => x))
  simp only [hplain, List.any_nil, Bool.or_false, List.nil_append]
  refine wpU_bindA (wpAny_pure ?_)
  exact wpU_bind (wpU_mono h₁ (fun r s₂ hr => .of (wpAny_bind (wpAny_holding (wpAny_point (wpAny_pure hr))))) fun _ _ x => x)
theorem wpU_callWith_type1 {pos : Pos} {T : String} {e : Expr} {rest : List Expr} {Q : Value → Shared → Prop}
    (h : wpAny M A (spliced (backTo pos (starEach (e :: rest) env))) (fun vs s₁ => wpU M A (call (.type T) vs) Q E s₁) E s)
    (he : starEach (e :: rest) env = (false, eval e env) :: starEach rest env := by rfl)
    (hplain : (backTo pos (starEach rest env)).any (·.1) = false := by rfl) :
    wpU M A (callWith pos (.type T) [] (backTo pos (starEach (e :: rest) env)) []) Q E s := by
  rw [he] at h ⊢
  exact wpU_callWith_type (by show (false || (backTo pos (starEach rest env)).any (·.1)) = false; rw [hplain]; rfl) (evalArgs_plain h)
end
section
variable {prog : Program} {w : World} {A : Around} {s : Shared} {R : Result → Shared → Prop}
theorem codeU_func {body : List Stmt} {env : Env}
    (h : wpU (model prog w) (A.deeper env) (execs body env) (fun f s' => R (.ok (.ret (match f with | .ret v => v | _ => .none))) s')
      (fun e s' => wpAny (model prog w) (A.deeper env) (leaving env e) (fun _ s'' => R (.error e) s'') (fun e' s'' => R (.error e') s'') s') s) :
    codeU (model prog w) A (.func body env) R s := by
  refine codeU_of_tree ?_
  show wpU _ (A.deeper env) (do point; match ← (execs body env).onRaise (leaving env) with | .ret v => ret v | _ => ret .none) _ _ s
  refine wpU_bind (wpU_point (wpU_bind (wpU_onRaise' (wpU_mono h (fun f s' h' => ?_) fun _ _ h' => h'))))
  cases f <;> exact wpU_pure h'
theorem codeU_call_function {a : Addr} {args : Args} {o : Obj} {fd : FuncData} {body : List Stmt} (hroom : A.depth < recursionLimit)
    (ho : s.heap.get? a = some o) (hd' : o.data = .func fd) (hco : fd.scope.isCoroutine = false) (hgen : fd.scope.isGenerator = false) (hbody : fd.body = .stmts body) (hcd : s.heap.CodeRec fd.code fd.qualname)
    (h : wpAny (model prog w) A.in1 (bindArgs fd args) (fun binds s₁ =>
      wpAny (model prog w) A.in1 (newFunctionEnv fd.scope fd.globals fd.closure binds (fd.qualname ++ ".<locals>.") (some a) fd.code none fd.builtins)
        (fun env s₂ => s₂.heap.NoLimit ∧ codeU (model prog w) A (.func body env) R s₂) (fun e s' => R (.error e) s') s₁) (fun e s' => R (.error e) s') s) :
    codeU (model prog w) A (.call (.ref a) args) R s := by
  refine codeU_of_tree ?_
  show wpU _ A.in1 (callAny (.ref a) args) _ _ s
  simp only [callAny]
  refine wpU_bindA (wpAny_load ho ?_)
  obtain ⟨c, oc, vs, tq, hc, hoc, hdc, hq⟩ := hcd
  simp only [hd', callFunction, hco, hgen, hbody, hc]
  rw [hc] at h
  refine wpU_bindA (m := field (.ref c) 1) (wpAny_field hoc hdc hq (wpU_bindA (wpAny_pure ?_)))
  exact wpU_bindA (wpAny_mono h (fun binds s₁ h₁ => wpU_bindA (wpAny_mono h₁ (fun env s₂ h₂ => wpU_bindA (wpAny_enterFrame h₂.1 hroom
    (wpU_pure (And.intro rfl h₂.2)))) fun _ _ h' => h')) fun _ _ h' => h')
theorem codeU_call_def {a : Addr} {o : Obj} {fd : FuncData} {body : List Stmt} {args : Args} {binds : List (Str × Value)}
    (hroom : A.depth < recursionLimit) (ho : s.heap.get? a = some o) (hdata : o.data = .func fd) (hlim : s.heap.NoLimit) (hcd : s.heap.CodeRec fd.code fd.qualname)
    (hbody : fd.body = .stmts body) (hbind : BindsTo s fd args binds)
    (hcell : ∀ x ∈ fd.scope.names, x.2 ≠ .cell) (hloc : ∀ x ∈ binds, fd.scope.names.lookup x.1 = some .local)
    (h : ∀ h₀, h₀.Ns s.heap.objs.size (fun x => binds.reverse.lookup x) → (∀ b o, s.heap.get? b = some o → h₀.get? b = some o) →
      wpU (model prog w) (A.deeper (callEnv fd s.heap.objs.size a)) (execs body (callEnv fd s.heap.objs.size a)) (fun f s' => R (.ok (.ret (match f with | .ret v => v | _ => .none))) s')
        (fun e s' => wpAny (model prog w) (A.deeper (callEnv fd s.heap.objs.size a)) (leaving (callEnv fd s.heap.objs.size a) e) (fun _ s'' => R (.error e) s'') (fun e' s'' => R (.error e') s'') s')
        { s with heap := h₀, toks := s.toks + binds.length })
    (hco : fd.scope.isCoroutine = false := by rfl) (hgen : fd.scope.isGenerator = false := by rfl) (hk : fd.scope.kind = .function := by rfl) :
    codeU (model prog w) A (.call (.ref a) args) R s := by
  refine codeU_call_function hroom ho hdata hco hgen hbody hcd (hbind _ _ _ _ ?_)
  refine wpAny_newFunctionEnv hcell hloc (fun h₀ hns₀ hsb₀ => ⟨hlim.fresh _ hsb₀, codeU_func (h h₀ hns₀ fun b o e => ?_)⟩) hk
  exact hsb₀.extBut b o (Nat.ne_of_lt (Heap.lt_size e)) (Heap.get?_push_of_some _ e)
end
end Mine
end

section -- U2
open PySem PySem.W PyProof.Rows PySem.Calls
set_option Elab.async false
set_option maxRecDepth 100000
namespace Mine
/-- what the ledger is for a heap whose new objects are hidden: the old frame's own names stand apart -/
theorem news_under {h₀ h g : Heap} {L M : Addr} {news : List (Addr × Obj)} (hn : ∀ b, g.get? b = none → h₀.get? b = none) (hL : ∃ o, g.get? L = some o) (N : News g M h news) : News h₀ L h news := fun q hq => by
  obtain ⟨e1, -, e3⟩ := N q hq
  refine ⟨e1, ?_, hn _ e3⟩
  rintro rfl
  obtain ⟨o, ho⟩ := hL
  exact absurd (e3.symm.trans ho) (by simp)
theorem none_under {h g : Heap} (st : h.StaysIn g) {b : Addr} (e : g.get? b = none) : h.get? b = none := by
  rcases hb : h.get? b with _ | o
  · rfl
  · exact absurd (e.symm.trans (st _ _ hb)) (by simp)
section
variable {prog : Program} {w : World} {A₀ A : Around} {s : Shared} {base h₀ : Heap} {outer : List Env} {L a : Addr} {m : Str → Option Value} {cn : Str} {cs : Scope} {ccd : Value} {news : List (Addr × Obj)} {K : Frag} {p : Program} {loose : List Str} {mean : ExcName → Option Value} {mg mb : Str → Option Value}
    {R : Result → Shared → Prop} {name qual : Str} {params : Arguments} {body : List Stmt} {scope : Scope} {dV kV doc pm cdv ct oc : Value} {an od : Option Addr} {osl : Array (Option Value)} {f : Addr} {args : Args} {binds : List (Str × Value)}
/-- a def of the text is entered with the caller's new objects hidden; whatever holds at its end (Z) is turned into R by «back» -/
theorem codeU_enter (F : Fr h₀ L s.heap m) (X₀ : K.In h₀) (N : News h₀ L s.heap news) (T : Top p loose mean mg mb h₀)
    (ho : K.lookup f = some ⟨oc, od, .func (fnOf name qual params body scope dV kV doc pm an cdv ct), osl⟩) (hcd : codeIn K cdv qual = true) (hroom : A.depth < recursionLimit)
    (hbind : BindsTo s (fnOf name qual params body scope dV kV doc pm an cdv ct) args binds) (hloc : ∀ y ∈ binds, scope.names.lookup y.1 = some .local) (Z : Value → Shared → Prop) (back : ∀ v s', Z v s' → R (.ok (.ret v)) s')
    (h : ∀ h₁, Fr (hideAll s.heap (news.map (·.1))) s.heap.objs.size h₁ (fun y => binds.reverse.lookup y) → News (hideAll s.heap (news.map (·.1))) s.heap.objs.size h₁ news →
      wpU (model prog w) (A.deeper (envOf qual scope s.heap.objs.size f cdv)) (execs body (envOf qual scope s.heap.objs.size f cdv)) (fun fl s' => Z (match fl with | .ret v => v | _ => .none) s')
        (fun e s' => wpAny (model prog w) (A.deeper (envOf qual scope s.heap.objs.size f cdv)) (leaving (envOf qual scope s.heap.objs.size f cdv) e) (fun _ s'' => R (.error e) s'') (fun e' s'' => R (.error e') s'') s')
        { s with heap := h₁, toks := s.toks + binds.length })
    (hco : scope.isCoroutine = false) (hgen : scope.isGenerator = false) (hk : scope.kind = .function) (hcell : ∀ x ∈ scope.names, x.2 ≠ .cell) : codeU (model prog w) A (.call (.ref f) args) R s := by
  have X := X₀.keeps F.keep
  refine codeU_call_def (hlim := T.nolimit.keeps F.keep) (hcd := codeRec_of X hcd) (fd := fnOf name qual params body scope dV kV doc pm an cdv ct) hroom (X _ _ ho) rfl (hbody := rfl) hbind hcell hloc ?_ hco hgen hk
  intro h₁ hns hk₁
  refine wpU_mono (h h₁ ⟨hns, fun b o e => hk₁ b o (of_hideAll _ e), Nat.le_of_eq (hideAll_size _ _)⟩ fun q hq => ?_) (fun _ _ z => back _ _ z) fun _ _ y => y
  obtain ⟨e1, -, -⟩ := N q hq
  exact ⟨hk₁ _ _ e1, Nat.ne_of_lt (Heap.lt_size e1), hideAll_none _ (List.mem_map_of_mem hq)⟩
/-- out of the law's frame, of a def that tries -/
theorem codeU_defS0 (B : Below A₀ base [] h₀) (F : Fr h₀ L s.heap m) (X₀ : K.In h₀) (N : News h₀ L s.heap news) (T : Top p loose mean mg mb h₀) (hA : A.frames = some [envOf cn cs L a ccd])
    (ho : K.lookup f = some ⟨oc, od, .func (fnOf name qual params body scope dV kV doc pm an cdv ct), osl⟩) (hcd : codeIn K cdv qual = true) (hroom : A.depth < recursionLimit)
    (hbind : BindsTo s (fnOf name qual params body scope dV kV doc pm an cdv ct) args binds) (hloc : ∀ y ∈ binds, scope.names.lookup y.1 = some .local)
    (h : ∀ g L' h₁, Fr h₀ L g m → Fr g L' h₁ (fun y => binds.reverse.lookup y) → News g L' h₁ news → Below A base [envOf cn cs L a ccd] g → K.In g → Top p loose mean mg mb g → KtsDicts ([envOf cn cs L a ccd].filterMap (·.frame)) g →
      wpU (model prog w) (A.deeper (envOf qual scope L' f cdv)) (execs body (envOf qual scope L' f cdv))
        (fun fl s' => LeaveS0 ([envOf cn cs L a ccd].filterMap (·.frame)) h₀ L m g R (match fl with | .ret v => v | _ => .none) s')
        (fun e s' => wpAny (model prog w) (A.deeper (envOf qual scope L' f cdv)) (leaving (envOf qual scope L' f cdv) e) (fun _ s'' => R (.error e) s'') (fun e' s'' => R (.error e') s'') s')
        { s with heap := h₁, toks := s.toks + binds.length })
    (hck : cs.kind = .function) (hco : scope.isCoroutine = false) (hgen : scope.isGenerator = false) (hk : scope.kind = .function)
    (hcell : ∀ x ∈ scope.names, x.2 ≠ .cell) : codeU (model prog w) A (.call (.ref f) args) R s := by
  obtain ⟨oL, es, ep, hLg, hLd, hN, hNs, st, BG⟩ := kts_enter (s := s) B F N hA hck
  have one : ∀ b ∈ [envOf cn cs L a ccd].filterMap (·.frame), b = L := fun b hb => (kts_mem hb).resolve_right (fun z => nomatch z)
  refine codeU_enter F X₀ N T ho hcd hroom hbind hloc _ ?back (fun h₁ F₁ N₁ => h _ _ h₁ ⟨hN _ hLg, st, F.above⟩ F₁ N₁ BG (X₀.keeps st) (T.keeps st) fun b hb => ⟨oL, es, ep, one b hb ▸ hLg, hLd⟩) hco hgen hk hcell
  rintro v s' ⟨g', M, m', new, tu, F', N', k⟩
  obtain ⟨sl, hs⟩ := tu.up hLg
  have apart : ∀ b o, h₀.get? b = some o → b ∉ [envOf cn cs L a ccd].filterMap (·.frame) := fun b o e hb => by
    rw [one b hb, kts_self F] at e
    exact absurd e (by simp)
  have st' : h₀.StaysIn g' := fun b o e => tu.other b o (st b o e) (apart b o e)
  exact k ⟨hNs sl _ (F'.keep _ _ hs), fun b o e => F'.keep b o (st' b o e), F.above⟩ (news_under (fun _ e => none_under st' e) ⟨_, hs⟩ N')
/-- out of a def that tries, of a def that does not: it hands back as any plain def does (groundX), and raises into the caller's try -/
theorem codeU_defS (B : Below A₀ base outer h₀) (F : Fr h₀ L s.heap m) (X₀ : K.In h₀) (N : News h₀ L s.heap news) (T : Top p loose mean mg mb h₀) (D : KtsDicts (outer.filterMap (·.frame)) h₀) (hA : A.frames = some (envOf cn cs L a ccd :: outer))
    (ho : K.lookup f = some ⟨oc, od, .func (fnOf name qual params body scope dV kV doc pm an cdv ct), osl⟩) (hcd : codeIn K cdv qual = true) (hroom : A.depth < recursionLimit)
    (hbind : BindsTo s (fnOf name qual params body scope dV kV doc pm an cdv ct) args binds) (hloc : ∀ y ∈ binds, scope.names.lookup y.1 = some .local)
    (h : ∀ g L' h₁, Fr h₀ L g m → Fr g L' h₁ (fun y => binds.reverse.lookup y) → News g L' h₁ news → Below A base (envOf cn cs L a ccd :: outer) g → K.In g → Top p loose mean mg mb g → KtsDicts ((envOf cn cs L a ccd :: outer).filterMap (·.frame)) g →
      wpU (model prog w) (A.deeper (envOf qual scope L' f cdv)) (execs body (envOf qual scope L' f cdv))
        (fun fl s' => LeaveK h₀ L m g R (match fl with | .ret v => v | _ => .none) s')
        (fun e s' => wpAny (model prog w) (A.deeper (envOf qual scope L' f cdv)) (leaving (envOf qual scope L' f cdv) e) (fun _ s'' => R (.error e) s'') (fun e' s'' => R (.error e') s'') s')
        { s with heap := h₁, toks := s.toks + binds.length })
    (hck : cs.kind = .function) (hco : scope.isCoroutine = false) (hgen : scope.isGenerator = false) (hk : scope.kind = .function)
    (hcell : ∀ x ∈ scope.names, x.2 ≠ .cell) : codeU (model prog w) A (.call (.ref f) args) R s := by
  obtain ⟨FG, BG, st, lv⟩ := groundX (s := s) (R := R) (env := envOf cn cs L a ccd) B F N hA rfl hck
  obtain ⟨oL, es, ep, hLg, hLd, -, -⟩ := FG.ns
  refine codeU_enter F X₀ N T ho hcd hroom hbind hloc _ lv (fun h₁ F₁ N₁ => h _ _ h₁ FG F₁ N₁ BG (X₀.keeps st) (T.keeps st) fun b hb => ?_) hco hgen hk hcell
  rcases kts_mem hb with rfl | hb
  · exact ⟨oL, es, ep, hLg, hLd⟩
  · obtain ⟨o, es', n, e, d⟩ := D b hb
    exact ⟨o, es', n, st _ _ e, d⟩
end
end Mine
end

section -- U3
open PySem PySem.W PyProof.Rows PySem.Calls PySem.NumText
set_option Elab.async false
set_option maxRecDepth 100000
namespace Mine
section
variable {M : Model} {A : Around} {E : Value → Shared → Prop} {s : Shared}
theorem wpU_markTheRefusal {own : List String} {e : Value} {Q : Unit → Shared → Prop} (h : Q () s) : wpU M A (markTheRefusal own e) Q E s := fun Γ p hΓ hu => by
  have hf : pythonCodeMadeTheCall own (((Γ.code, p) :: Γ.below).map (·.1)) = false := by
    unfold pythonCodeMadeTheCall
    have key : ∀ b c d : Bool, b = true → (!b && c && d) = false := by decide
    exact key _ _ _ hu
  unfold markTheRefusal
  rw [Sem.wp_bind']
  show Sem.wp M Γ (if pythonCodeMadeTheCall own (((Γ.code, p) :: Γ.below).map (·.1)) = true then _ else _) _ _ p s
  rw [hf]
  exact h
end
section
variable {prog : Program} {w : World} {A : Around} {E : Value → Shared → Prop} {s : Shared}
theorem wpU_ite_false {α : Type} {c : Prop} [Decidable c] {a b : Sem α} {M : Model} {Q : α → Shared → Prop} (hc : ¬ c) (h : wpU M A b Q E s) : wpU M A (if c then a else b) Q E s := by rw [if_neg hc]; exact h
theorem wpU_ite_true {α : Type} {c : Prop} [Decidable c] {a b : Sem α} {M : Model} {Q : α → Shared → Prop} (hc : c) (h : wpU M A a Q E s) : wpU M A (if c then a else b) Q E s := by rw [if_pos hc]; exact h
set_option maxHeartbeats 2000000 in
/-- int() of a text that is no numeral: it raises, and no mark is set under the caller -/
theorem wpU_text_bad {x : Str} {u : Tok} {text : List Nat} {Q : Value → Shared → Prop} (hs : (text.takeWhile (· != 0)).length ≤ 640)
    (hr : (int_private% "readNumeral") 0 10 (text.takeWhile (· != 0)) = int_private% "Numeral.invalid" ∨ ∃ i, (int_private% "readNumeral") 0 10 (text.takeWhile (· != 0)) = (int_private% "Numeral.value") i ∧ ¬ ((text.takeWhile (· != 0)).length == text.length) = true)
    (hh : A.handled = none) (hx : (reprText x).length ≤ sizeLine)
    (h : ∀ h' tk e, Heap.NewExc s.heap h' e "ValueError" → E (.ref e) { s with heap := h', toks := tk }) : wpU (model prog w) A ((int_private% "intFromText") (.str x u) text 10) Q E s := by
  have hlen : (Str.ofString (toString "invalid literal for int() with base " ++ toString 10 ++ toString ": ") ++ (⟨(reprText x).cps.extract 0 200⟩ : Str)).length ≤ sizeLine := by
    show (Str.append _ _).length ≤ sizeLine
    have e : (Str.ofString (toString "invalid literal for int() with base " ++ toString 10 ++ toString ": ")).cps.size = 40 := by decide +kernel
    simp only [Str.append, Str.length, Array.size_append, Array.size_extract, e, sizeLine_eq]
    omega
  rcases hr with hr | ⟨i, hr, hne⟩
  · with_unfolding_all refine wpU_of_eq (if_pos hs) ?_
    rw [pure_bind]
    dsimp only
    rw [hr]
    dsimp only
    refine wpU_bindA ?_
    with_unfolding_all refine wpAny_pure (a := none) ?_
    refine wpU_ite_false (by simp) ?_
    refine wpU_bindA (wpAny_rule ?_)
    refine wpU_bindA ?_
    with_unfolding_all refine wpAny_pure (a := none) ?_
    dsimp only
    refine wpU_bindA (wpAny_pyRepr_str ?_ hx)
    refine wpU_bindA (wpAny_mkStr ?_ hlen)
    refine wpU_bindA (wpAny_newExc_plain plainExc_ValueError (fun h' e hm => ?_))
    refine wpU_bind (wpU_markTheRefusal ?_)
    exact .of (wpAny_raiseNew_none hh (h h' _ e hm.newExc))
  · with_unfolding_all refine wpU_of_eq (if_pos hs) ?_
    rw [pure_bind]
    dsimp only
    rw [hr]
    dsimp only
    rw [if_neg hne]
    refine wpU_bindA (wpAny_rule ?_)
    refine wpU_bindA ?_
    with_unfolding_all refine wpAny_pure (a := none) ?_
    dsimp only
    refine wpU_bindA (wpAny_pyRepr_str ?_ hx)
    refine wpU_bindA (wpAny_mkStr ?_ hlen)
    refine wpU_bindA (wpAny_newExc_plain plainExc_ValueError (fun h' e hm => ?_))
    refine wpU_bind (wpU_markTheRefusal ?_)
    exact .of (wpAny_raiseNew_none hh (h h' _ e hm.newExc))
theorem wpU_intFromObject {x : Str} {u : Tok} {Q : Value → Shared → Prop} (h : wpU (model prog w) A ((int_private% "intFromText") (.str x u) (numTextOf x) 10) Q E s) :
    wpU (model prog w) A ((int_private% "intFromObject") (.str x u)) Q E s := by
  with_unfolding_all refine wpU_bindA ?_
  refine wpAny_callSpecial?_none (typeIs_str _ _ _) KIN.str_int ?_
  dsimp only
  refine wpU_bindA ?_
  refine wpAny_specialOf (typeIs_str _ _ _) KIN.str_idx ?_
  refine wpU_ite_false (by simp) ?_
  refine wpU_bindA ?_
  refine wpAny_specialOf (typeIs_str _ _ _) KIN.str_trunc ?_
  dsimp only
  refine wpU_bindA ?_
  with_unfolding_all refine wpAny_pure (a := some (numTextOf x)) ?_
  exact h
theorem wpU_int_new {x : Str} {u : Tok} {Q : Fin → Shared → Prop} (h : wpU (model prog w) A ((int_private% "intFromObject") (.str x u)) (fun v s' => Q (.done (.ret v)) s') E s) :
    wpU (model prog w) A (Builtin.«int.__new__» ⟨[.type "int", .str x u], []⟩) Q E s := by
  unfold Builtin.«int.__new__»
  dsimp only
  refine wpU_bindA ?_
  refine wpAny_of_eq (a := true) rfl ?_
  refine wpU_ite_false (by simp) ?_
  refine wpU_bindA ?_
  refine wpAny_of_eq F.conv_sub_int ?_
  refine wpU_ite_false (by simp) ?_
  refine wpU_bindA ?_
  refine wpAny_of_eq F.madeHere_int ?_
  refine wpU_ite_false (by simp) ?_
  refine wpU_ite_false (by simp) ?_
  refine wpU_bindA ?_
  refine wpAny_pure ?_
  refine wpU_bind (wpU_mono h (fun v s' hq => ?_) fun _ _ y => y)
  refine wpU_ite_true (by simp) ?_
  exact wpU_pure hq
end
end Mine
end

section -- U4
open PySem PySem.W PyProof.Rows PySem.Calls PySem.NumText
set_option Elab.async false
set_option maxRecDepth 100000
namespace Mine
section
variable {prog : Program} {w : World} {A : Around} {E : Value → Shared → Prop} {s : Shared} {R : Result → Shared → Prop}
theorem codeU_builtin {id : String} {args : Args} {b : Builtin} (hb : entryFor table id = some b)
    (h : wpU (model prog w) (A.under (.builtin id args)) (b args) (fun fin s' => match fin with | .done f => R (.ok f) s' | .again c' => c'.quiet = true ∧ codeU (model prog w) A c' R s') (fun e s' => R (.error e) s') s) :
    codeU (model prog w) A (.builtin id args) R s := by
  refine codeU_of_tree ?_
  show wpU _ _ (match entryFor table id with | some b => b args | none => unsupported ((withoutEnding? id "#data").getD id)) _ _ s
  rw [hb]; exact h
theorem codeU_call_builtin {id : String} {args : Args} {b : Builtin} (hq : plainId id = true) (hb : entryFor table id = some b) (hc : checkBuiltinCall id args = pure ())
    (h : wpU (model prog w) A.in1 (b args) (fun fin s' => match fin with | .done f => R (.ok f) s' | .again c' => c'.quiet = true ∧ codeU (model prog w) A c' R s') (fun e s' => R (.error e) s') s) :
    codeU (model prog w) A (.call (.builtin id) args) R s := by
  refine codeU_of_tree ?_
  show wpU _ A.in1 (do checkBuiltinCall id args; again (.builtin id args)) _ _ s
  rw [hc]
  refine wpU_bindA (wpAny_pure ?_)
  refine wpU_pure (And.intro (plainId_quiet hq args) (codeU_builtin hb ?_))
  rw [Around.under_plainId hq args]; exact h
set_option maxHeartbeats 2000000 in
theorem wpU_int_bad {x : Str} {u : Tok} {Q : Value → Shared → Prop} (hh : A.handled = none) (hl : x.length ≤ 640) (hn : PySem.intText? x = none) (hx : (reprText x).length ≤ sizeLine)
    (h : ∀ h' tk e, Heap.NewExc s.heap h' e "ValueError" → E (.ref e) { s with heap := h', toks := tk }) : wpU (model prog w) A (call (.type "int") [.str x u]) Q E s := by
  have hs : (numSeenOf x).length ≤ 640 := Nat.le_trans (seen_length x) hl
  have hr : (int_private% "readNumeral") 0 10 (numSeenOf x) = int_private% "Numeral.invalid" ∨ ∃ i, (int_private% "readNumeral") 0 10 (numSeenOf x) = (int_private% "Numeral.value") i ∧ ¬ ((numSeenOf x).length == (numTextOf x).length) = true := by
    rcases read0 x hs with ⟨m, h1, _⟩ | ⟨_, h2⟩
    · rw [hn] at h1; cases h1
    · exact h2
  refine wpU_call (codeU_of_tree ?_)
  show wpU _ _ (callAny (.type "int") _) _ _ _
  refine wpU_pure ⟨Code.quiet_builtin _ (by decide +kernel), codeU_builtin F.entry_type_call ?_⟩
  rw [Around.under_plain (weight_type_call_type "int" [.str x u] []) (units_type_call_type "int" [.str x u] [])]
  have ft := F.called_int
  obtain ⟨c, tl, hmro⟩ := ft.mro
  unfold Builtin.«type.__call__»
  dsimp only
  refine wpU_ite_false (by rw [ft.notType]; simp) ?_
  refine wpU_ite_false (by have hcc := ft.canCreate; rw [hcc]; exact Bool.false_ne_true) ?_
  refine wpU_bindA ?_
  refine wpAny_of_eq (F.typeCall_int_1 (.str x u)) ?_
  refine wpU_bindA ?_
  refine wpAny_of_eq hmro ?_
  refine wpU_ite_false (by simp) ?_
  refine wpU_bindA ?_
  refine wpAny_of_eq ft.made ?_
  dsimp only
  refine wpU_bindA (wpAny_pure ?_)
  refine wpU_bind (wpU_holding (wpU_call (codeU_call_builtin ft.plain F.entry_int_new (F.newCall_int_1 (.str x u)) (wpU_int_new (wpU_intFromObject ?_)))))
  exact wpU_text_bad hs hr hh hx h
end
end Mine
end

section -- UH
open PySem PySem.W PyProof.Rows PySem.Calls
set_option Elab.async false
set_option maxRecDepth 100000
namespace Mine
abbrev callerC : Code := .builtin "claim.caller" {}
theorem und_caller : Und ⟨callerC, none, none, [], none⟩ := by unfold Und; decide +kernel
/-- a thread under the claim's caller that hands back by wpU: its run, and where it stands then -/
theorem runsU {prog : Program} {w : World} {t : Sem Fin} {s : Shared} {P : Value → Shared → Prop} (hz : s.asleep)
    (h : wpU (model prog w) callerA t (fun fin s' => ∃ v, fin = .done (.ret v) ∧ P v s' ∧ AllBare s'.gens) (fun _ _ => False) s) :
    ∃ n v s' s'', schedN (denote table) prog w n (.single s ⟨t, callerC, default, []⟩) = .halted (.done (.ret v)) s' ∧ P v s'' ∧ s'.heap = s''.heap ∧ s'.os = s''.os ∧ s'.heap.life = s.heap.life := by
  have key := wp_halts_full (M := model prog w) (R := fun r s' => ∃ v, r = .ok (.ret v) ∧ P v s') (c := callerC) (p := default) hz
    (Sem.wp_mono _ _ _ (fun _ _ s' q => by
      obtain ⟨v, rfl, hv, hb⟩ := q
      exact ⟨⟨v, rfl, hv⟩, leftWithCleanup_false_of_bare hb⟩) (fun _ _ _ q => q.elim) _ _ (h _ default caller_in und_caller))
  obtain ⟨n, _, s'', s', hs, hr, hf, v, rfl, hv⟩ := key
  have e := Shared.forget_eq hf
  exact ⟨n, v, s', s'', hs, hv, e.1, e.2.2.2.1, runN_life _ _ _ hr⟩
/-- the arguments as they are laid -/
theorem laysU {r : RowW} {q : Program} {loose : List Str} {XP : (Str → Option Value) → Heap → Prop} {w : World} {s : Shared} {mg mb : Str → Option Value} {args : List WData} {ord : List DictEntry → List DictEntry}
    (G : Ground q loose r.records XP w s mg mb s.heap) (hg : s.gens = #[]) (hpre : r.claim.pre args = true) (hlay : WData.layableAll args = true) (hord : ∀ l, (ord l).Perm l) :
    ∃ vs s₁ as, layAllW r.records (classAt s.heap) w.params ord args s = some (vs, s₁) ∧ Laid r.records w s s₁ args vs as ∧ s₁.heap.life = s.heap.life := by
  have hsome := layAllW_isSome (P := w.params) (ord := ord) G.has args r.args s (pre_splitW hpre).1
  rcases e : layAllW r.records (classAt s.heap) w.params ord args s with _ | ⟨vs, s₁⟩
  · rw [e] at hsome; cases hsome
  · have al := layAllW_rest _ _ _ e
    obtain ⟨as, r1, r2, r3⟩ := reads_layAllW hord _ _ _ e hlay s₁.heap fun _ _ x => x
    exact ⟨vs, s₁, as, rfl, { laid := ⟨ord, hord, e⟩, reads := r1, within := r2, old := r3, keeps := layAllW_keeps _ _ _ e, gens := al.1.trans hg, os := al.2.2.1 }, al.2.2.2⟩
/-- what is asked of the law's walk: a call of it, under the caller, hands back as the claim says; it never raises -/
abbrev WalkU (q : Program) (loose : List Str) (XP : (Str → Option Value) → Heap → Prop) (YP : World → Heap → Prop) (r : RowW) (d : DefRec) (kwd : List (Str × Expr)) : Prop :=
  ∀ (w : World) (s₀ s₁ : Shared) (mg mb : Str → Option Value) (_ : Ground q loose r.records XP w s₀ mg mb s₁.heap) (_ : YP w s₁.heap) (a : Addr) (o : Obj) (pm cd doc dV kV : Value) (_ : s₁.heap.get? a = some o)
    (_ : o.data = .func { docDef d.name d.params d.body d.scope pm cd doc with defaults := dV, kwdefaults := kV }) (_ : s₁.heap.CodeRec cd d.name) (_ : Dflts mg s₁.heap d.params kwd dV kV) (_ : mg d.name = some (.ref a)) (_ : s₁.gens = #[])
    (args : List WData) (vals : List Value) (as : List Addr) (_ : r.claim.pre args = true) (_ : WData.layableAll args = true) (_ : ReadsAllW r.records (classAt s₀.heap) s₁.heap vals args as) (_ : WellAll w.params s₁.heap vals args) (_ : ∀ a ∈ as, (a == sysModules) = false),
    wpU (model r.prog w) callerA (call (.ref a) vals) (fun v s' => GoodW r.claim (classAt s₀.heap) (ExcName.means s₀.heap) args s₁ (.ok (.ret v)) s') (fun _ _ => False) s₁
end Mine
open Mine in
/-- the head for wpU; the library's line open_top, run inside «namespace MineHd», takes it by this name -/
theorem MineHd.PySem.W.holds_open {r : OpenRow} {q : Program} {loose : List Str} {Xt : Shared → Bool} {XP : (Str → Option Value) → Heap → Prop} {α : Type} {Yf : Shared → α} {Ya : World → α} {YP : World → Heap → Prop} {d : DefRec} {kwd : List (Str × Expr)} {N : Nat}
    (left : LeftO r.prog q loose Xt Yf Ya N) (hY : ∀ w s, Yf s = Ya w → YP w s.heap) (hYk : ∀ w h h', YP w h → (∀ b o, h.get? b = some o → h'.get? b = some o) → YP w h')
    (hX : ∀ s, Xt s = true → XP (s.heap.nsMap mainGlobals) s.heap) (hXk : ∀ mg h h', XP mg h → (∀ b o, h.get? b = some o → h'.get? b = some o) → XP mg h')
    (hdef : defOf q r.name = some (d, kwd)) (hp : r.prog.theDef r.name = some (d.params, d.body, d.scope)) (hk : kwWritten? d.params.kwonlyargs d.params.kw_defaults = some kwd) (hRf : ∀ s, Xt s = true → RecFacts r.records s.heap) (hwr : (!r.writes || r.records.isEmpty) = true)
    (k1 : r.wellSaid = true) (ok : (chainsOk q && opensWell r.prog && (frees r.toRowW && r.within.isEmpty)) = true) (hb : r.prog.bare) (hw : r.toRowW.promised)
    (call : WalkU q loose XP YP r.toRowW d kwd) : r.Holds := by
  simp only [Bool.and_eq_true] at ok
  obtain ⟨⟨hch, hop⟩, hfr, hin⟩ := ok
  obtain ⟨f1, f2, f3, f4, f5⟩ := frees_parts hfr
  have top := fun w => left.behind (XP := fun mg h => XP mg h ∧ RecFacts r.records h) (fun s e => ⟨hX s e, hRf s e⟩) hch w
  have mk : r.toRowW.claim.makers = [] := by show r.makers.map _ = []; rw [f5]; rfl
  refine ⟨k1, hw, ⟨hb, hop, mk⟩, hw.witness, fun w => ⟨(top w).1, fun s hs => ?_⟩⟩
  obtain ⟨s₀, e1, e2, s₁, ran, asleep, gens, ns, G, y⟩ := (top w).2 s hs
  have recs := G.X.2
  have G₀ : Ground q loose [] XP w s₁ (s₁.heap.nsMap mainGlobals) (s₁.heap.nsMap builtinsNs) s₁.heap := { T := G.T, B := G.B, D := G.D, TE := G.TE, TD := G.TD, W := G.W, X := G.X.1, cls := G.cls, has := G.has, apart := G.apart, once := G.once, K := G.K }
  have G₁ := recs.ground G₀
  have gens : s₁.gens = #[] := by simpa using gens
  refine ⟨s₀, e1, e2, s₁, ran, ?defs, recs.1, recs.2.1, ?from'⟩
  case defs =>
    intro n hn
    have : n = r.name := by
      by_cases hpin : r.pinned = true <;> simp [hpin] at hn
      exact hn
    rw [this]
    exact pinned_of_view ns G₀ hdef hp hk
  case from' =>
    intro args hpre hlay ord hord
    obtain ⟨vs, s₂, as, el, L, life⟩ := laysU G₁ gens hpre hlay hord
    have G₂ := G₁.keeps hXk L.keeps
    obtain ⟨a, o, pm, cd, doc, dV, kV, h1, h2, h3, h4, h5⟩ := G₂.fn hdef
    have walk := call w s₁ s₂ _ _ G₂ (hYk _ _ _ (hY w s₁ y) L.keeps) a o pm cd doc dV kV h2 h3 h4 h5 (defOf_name hdef ▸ h1) L.gens args vs as hpre hlay L.reads L.well (L.low G₁.low)
    have run := runsU (prog := r.prog) (w := w) (s := s₂) (P := fun v s' => GoodW r.toRowW.claim (classAt s₁.heap) (ExcName.means s₁.heap) args s₂ (.ok (.ret v)) s')
      (t := do match ← nsGet mainNs r.name with
        | some f => do ret (← PySem.call f vs)
        | none => unsupported "claim.caller:no-such-global")
      (Shared.asleep_of_life life asleep)
      (wpU_bindA (wpAny_nsGet G₂.T.g (by
        rw [h1]
        exact wpU_bind (wpU_mono walk (fun v s' g => wpU_pure ⟨v, rfl, g, .of_eq g.2.2.2⟩) fun _ _ z => z))))
    obtain ⟨n, v, s', s'', hrun, good, eh, eo, el'⟩ := run
    obtain ⟨ends, os, -⟩ := good.toG.laid f1 (List.isEmpty_iff.mp hin) (ident_freeW f2 f3 f4) L
    have old := good.toG.2.1.old
    refine ⟨vs, s₂, el, n, _, s', hrun, .inl ?_, fun _ i x hx => ?_, fun hwrites => ?_, ?_, Shared.rest_eq (eo.trans os)⟩
    · rcases ends.congr eh with ⟨u, z, d1, d2, d3, d4, d5⟩ | ⟨_, _, _, z, _⟩
      · injection z with z
        injection z with z
        subst z
        exact ⟨_, rfl, d1, d2, d3, fun b o y _ => d4 b o y, d5⟩
      · cases z
    · rw [gens] at hx; simp at hx
    · rw [eh]
      exact ⟨namesKept_of ran ns _ L.keeps old, noTable hwr hwrites⟩
    · rw [el', life]
end

section -- Top2
open PySem PySem.W PyProof.Rows
set_option Elab.async false
namespace MineHd
set_option maxRecDepth 100000 in
set_option maxHeartbeats 8000000 in
open_top hd for PySem.Challenge.rw_nb0030_01
end MineHd
end

section -- Con0
open PySem PySem.W PyProof.Rows PySem.Calls PySem.Spec
set_option Elab.async false
namespace Mine
/-- what a call of the text's def at f, on vs, hands back: R of the new objects and the value -/
def Con (w : World) (mean : ExcName → Option Value) (mg mb : Str → Option Value) (f : Addr) (vs : List Value) (R : List (Addr × Obj) → Value → Prop) : Prop :=
  ∀ (dp un : Nat) (gd : Option (List Code)) (cn : Str) (cs : Scope) (a : Addr) (ccd : Value) (cl : List (Str × Addr)) (outer : List Env) (A₀ : Around) (base h₀ : Heap) (L : Addr) (m : Str → Option Value) (news : List (Addr × Obj)) (s : Shared)
    (Q E : Value → Shared → Prop),
    Below A₀ base outer h₀ → Fr h₀ L s.heap m → (MineHd.hd.heap_39 w.params).In h₀ → News h₀ L s.heap news → Top MineHd.hd.view_39 (looseW MineHd.hd.view_39 [Str.ofString "IPV4_RE"]) mean mg mb h₀ → cs.kind = .function → dp + 5 < recursionLimit → un + 40 < cLine →
    (∀ r tl h' tk', Fr h₀ L h' m → News h₀ L h' (tl ++ news) → R tl r → Q r { s with heap := h', toks := tk' }) →
    wpAny (model PySem.Challenge.rw_nb0030_01.row.prog w) (ktrTop dp un gd cn cs L a ccd cl outer) (call (.ref f) vs) Q E s
/-- the same for a call out of the law's own frame -/
def ConL (w : World) (mean : ExcName → Option Value) (mg mb : Str → Option Value) (f : Addr) (vs : List Value) (R : List (Addr × Obj) → Value → Prop) : Prop :=
  ∀ (cn : Str) (cs : Scope) (a : Addr) (ccd : Value) (base h₀ : Heap) (L : Addr) (m : Str → Option Value) (news : List (Addr × Obj)) (s : Shared)
    (Q E : Value → Shared → Prop),
    Below callerA base [] h₀ → Fr h₀ L s.heap m → (MineHd.hd.heap_39 w.params).In h₀ → News h₀ L s.heap news → Top MineHd.hd.view_39 (looseW MineHd.hd.view_39 [Str.ofString "IPV4_RE"]) mean mg mb h₀ → cs.kind = .function →
    (∀ r tl h' tk', Fr h₀ L h' m → News h₀ L h' (tl ++ news) → R tl r → Q r { s with heap := h', toks := tk' }) →
    wpAny (model PySem.Challenge.rw_nb0030_01.row.prog w) (callerA.deeper (envOf cn cs L a ccd)) (call (.ref f) vs) Q E s
theorem con_use {w : World} {mean : ExcName → Option Value} {mg mb : Str → Option Value} {f : Addr} {vs : List Value} {R : List (Addr × Obj) → Value → Prop} (C : Con w mean mg mb f vs R)
    {dp un : Nat} {gd : Option (List Code)} {cn : Str} {cs : Scope} {a : Addr} {ccd : Value} {cl : List (Str × Addr)} {outer : List Env} {A₀ : Around} {base h₀ : Heap} {L : Addr} {m : Str → Option Value} {news : List (Addr × Obj)} {s : Shared}
    {Q E : Value → Shared → Prop}
    (B : Below A₀ base outer h₀) (F : Fr h₀ L s.heap m) (X : (MineHd.hd.heap_39 w.params).In h₀) (N : News h₀ L s.heap news) (T : Top MineHd.hd.view_39 (looseW MineHd.hd.view_39 [Str.ofString "IPV4_RE"]) mean mg mb h₀) (hk : cs.kind = .function) (hd : dp + 5 < recursionLimit) (hu : un + 40 < cLine)
    (ret : ∀ r tl h' tk', Fr h₀ L h' m → News h₀ L h' (tl ++ news) → R tl r → Q r { s with heap := h', toks := tk' }) :
    wpAny (model PySem.Challenge.rw_nb0030_01.row.prog w) (ktrTop dp un gd cn cs L a ccd cl outer) (call (.ref f) vs) Q E s := C _ _ _ _ _ _ _ _ _ _ _ _ _ _ _ _ _ _ B F X N T hk hd hu ret
theorem conL_use {w : World} {mean : ExcName → Option Value} {mg mb : Str → Option Value} {f : Addr} {vs : List Value} {R : List (Addr × Obj) → Value → Prop} (C : ConL w mean mg mb f vs R)
    {cn : Str} {cs : Scope} {a : Addr} {ccd : Value} {base h₀ : Heap} {L : Addr} {m : Str → Option Value} {news : List (Addr × Obj)} {s : Shared}
    {Q E : Value → Shared → Prop}
    (B : Below callerA base [] h₀) (F : Fr h₀ L s.heap m) (X : (MineHd.hd.heap_39 w.params).In h₀) (N : News h₀ L s.heap news) (T : Top MineHd.hd.view_39 (looseW MineHd.hd.view_39 [Str.ofString "IPV4_RE"]) mean mg mb h₀) (hk : cs.kind = .function)
    (ret : ∀ r tl h' tk', Fr h₀ L h' m → News h₀ L h' (tl ++ news) → R tl r → Q r { s with heap := h', toks := tk' }) :
    wpAny (model PySem.Challenge.rw_nb0030_01.row.prog w) (callerA.deeper (envOf cn cs L a ccd)) (call (.ref f) vs) Q E s := C _ _ _ _ _ _ _ _ _ _ _ _ B F X N T hk ret
theorem wpU_callWith_K {M : Model} {A : Around} {E : Value → Shared → Prop} {s : Shared} {env : Env} {K : Frag} {pos : Pos} {f : Addr} {oc : Value} {od : Option Addr} {fd : FuncData} {osl : Array (Option Value)} {e : Expr} {rest : List Expr} {Q : Value → Shared → Prop}
    (ho : K.lookup f = some ⟨oc, od, .func fd, osl⟩)
    (h : wpAny M A (spliced (backTo pos (starEach (e :: rest) env))) (fun vs s₁ => K.In s₁.heap ∧ wpU M A (call (.ref f) vs) Q E s₁) E s)
    (he : starEach (e :: rest) env = (false, eval e env) :: starEach rest env := by rfl) (hplain : (backTo pos (starEach rest env)).any (·.1) = false := by rfl) :
    wpU M A (callWith pos (.ref f) [] (backTo pos (starEach (e :: rest) env)) []) Q E s :=
  wpU_callWith_def (o := ⟨oc, od, .func fd, osl⟩) rfl (wpAny_mono h (fun _ _ x => ⟨x.1 _ _ ho, x.2⟩) fun _ _ y => y) he hplain
/-- a call out of the law's own frame, under the claim's caller -/
def ConU (w : World) (mean : ExcName → Option Value) (mg mb : Str → Option Value) (f : Addr) (vs : List Value) (R : List (Addr × Obj) → Value → Prop) : Prop :=
  ∀ (cn : Str) (cs : Scope) (a : Addr) (ccd : Value) (base h₀ : Heap) (L : Addr) (m : Str → Option Value) (news : List (Addr × Obj)) (s : Shared)
    (Q E : Value → Shared → Prop),
    Below callerA base [] h₀ → Fr h₀ L s.heap m → (MineHd.hd.heap_39 w.params).In h₀ → News h₀ L s.heap news → Top MineHd.hd.view_39 (looseW MineHd.hd.view_39 [Str.ofString "IPV4_RE"]) mean mg mb h₀ →
    (MineHd.hd.heap_39 w.params).In base → Top MineHd.hd.view_39 (looseW MineHd.hd.view_39 [Str.ofString "IPV4_RE"]) mean mg mb base → cs.kind = .function →
    (∀ r tl h' tk', Fr h₀ L h' m → News h₀ L h' (tl ++ news) → R tl r → Q r { s with heap := h', toks := tk' }) →
    wpU (model PySem.Challenge.rw_nb0030_01.row.prog w) (callerA.deeper (envOf cn cs L a ccd)) (call (.ref f) vs) Q E s
end Mine
end

section -- Lin
open PySem PySem.W PyProof.Rows PySem.Calls
set_option Elab.async false
namespace Mine
section
variable {prog : Program} {w : World} {A : Around} {E : Value → Shared → Prop} {s : Shared} {Q : Value → Shared → Prop} {x y : Str} {t u v : Tok} {h₀ : Heap} {L : Addr} {m : Str → Option Value} {news : List (Addr × Obj)}
theorem ne_known {b : Bool} (e : (x != y) = b) (h : Q (.bool b) s) : wpAny (model prog w) A (compareOp .NotEq (.str x t) (.str y u)) Q E s := ne_str (e ▸ h)
theorem find_known {k : Int} (e : Txt.find x y = k) (h : Q (.int k s.toks) { s with toks := s.toks + 1 }) : wpAny (model prog w) A (call (.builtin "str.find") [.str x t, .str y u]) Q E s := SC.find (e ▸ h)
theorem find3_known {i k : Int} (e : Txt.find3 x y i = k) (h : Q (.int k s.toks) { s with toks := s.toks + 1 }) : wpAny (model prog w) A (call (.builtin "str.find") [.str x t, .str y u, .int i v]) Q E s := SC.find3 (e ▸ h)
theorem item_known {value slice : Expr} {i : Int} {c : Nat} (h1 : 0 ≤ i) (h2 : i < x.length) (hx : x.length ≤ 1000) (e : Txt.item x i = ⟨#[c]⟩) (h : Q (.str ⟨#[c]⟩ s.toks) { s with toks := s.toks + 1 })
    (hs : subscripted slice false (Value.str x t) (Value.int i u) = operate [Value.str x t, Value.int i u] (getItem (Value.str x t) (Value.int i u)) := by rfl)
    (ht : ∀ r, letTemporaryGo value (Value.str x t) r = pure () := by intro _; rfl) :
    wpAny (model prog w) A (subscriptTail value slice (.str x t) (.int i u)) Q E s :=
  item_str (fitsSsize_of (N := 9223372036854775808) (by omega) (by omega) (Int.le_refl _)) (by omega) h2 (fun _ => e ▸ h) hs ht
theorem slice_known {value slice : Expr} {i j : Int} {ui uj : Tok} (F : Fr h₀ L s.heap m) (N : News h₀ L s.heap news) (e : Txt.slice x (some i) (some j) = y)
    (h : ∀ (h' : Heap) (t' : Tok) (k : Nat), Fr h₀ L h' m → News h₀ L h' news → Q (.str y t') { s with heap := h', toks := k })
    (hsz : x.length ≤ sizeLine)
    (hs : subscripted slice false (Value.str x t) (Value.ref s.heap.objs.size) = operate [Value.ref s.heap.objs.size, Value.str x t] (getItem (Value.str x t) (Value.ref s.heap.objs.size)) := by rfl)
    (ht : ∀ r, letTemporaryGo value (Value.str x t) r = pure () := by intro _; rfl) :
    wpAny (model prog w) A (subscriptTail value slice (.str x t) (.ref s.heap.objs.size)) Q E { s with heap := s.heap.push { cls := .type "slice", data := .fields #[.int i ui, .int j uj, .none] } } :=
  slice_strN_ss F N (fun h' t' k F' N' => e ▸ h h' t' k F' N') hs ht hsz
end
theorem split_known {prog : Program} {w : World} {A : Around} {E : Value → Shared → Prop} {s : Shared} {Q : Value → Shared → Prop} {x y z : Str} {t u : Tok} {h₀ : Heap} {L : Addr} {m : Str → Option Value} {news : List (Addr × Obj)}
    (F : Fr h₀ L s.heap m) (N : News h₀ L s.heap news) (e : x = z) (hy : (y.length == 0) = false) (hsz : z.length ≤ 1000)
    (h : ∀ (D : Addr) (l : List (Str × Tok)) (h' : Heap) (k : Nat), List.map (fun x => x.fst) l = Txt.split z y → Fr h₀ L h' m →
      News h₀ L h' ((D, { cls := Value.type "list", data := Data.seq (strValues l).toArray }) :: news) → Q (.ref D) { s with heap := h', toks := k }) :
    wpAny (model prog w) A (call (.builtin "str.split") [.str x t, .str y u]) Q E s := by
  subst e
  exact splitN1A F N hy (fun l h' k e1 _ _ _ F' N' => h _ l h' k e1 F' N') (by rw [sizeLine_eq]; omega)
theorem news_pick3 {h₀ h : Heap} {L : Addr} {x y z : Addr × Obj} {news : List (Addr × Obj)} (N : News h₀ L h (x :: y :: z :: news)) : News h₀ L h ([x] ++ news) := fun p hp => by
  rcases List.mem_cons.mp hp with rfl | hp
  · exact N _ (.head _)
  · exact N _ (.tail _ (.tail _ (.tail _ hp)))
theorem addr_len (part : Str) : (addr part).length = part.length := by simp [addr, Str.length]
theorem addr_len10 {part : Str} (h : part.length ≤ 10) : (addr part).length ≤ 10 := by rw [addr_len]; exact h
abbrev cut (part : Str) : Str := Txt.slice (addr part) none (some (-1))
theorem cut_len {part : Str} (h : part.length ≤ 10) : (cut part).length ≤ 10 := Nat.le_trans (Txt.slice_le _ _ _) (addr_len10 h)
theorem slice_mem {x : Str} {l u : Option Int} : ∀ c ∈ (Txt.slice x l u).cps.toList, c ∈ x.cps.toList := fun c hc => by
  unfold Txt.slice at hc
  split at hc
  · exact hc
  · simp only [List.mem_filterMap] at hc
    obtain ⟨i, _, hi⟩ := hc
    exact List.mem_of_getElem? (by simpa using hi)
theorem addr_no10 {part : Str} (hs : ∀ c ∈ part.cps.toList, Sgn c) : ∀ c ∈ (addr part).cps.toList, c ≠ 10 := fun c hc => by
  simp only [addr, List.mem_map] at hc
  obtain ⟨d, hd, rfl⟩ := hc
  have := hs d hd
  unfold addrCode Sgn at *
  split
  · decide
  · split
    · decide
    · omega
theorem cut_no10 {part : Str} (hs : ∀ c ∈ part.cps.toList, Sgn c) : ∀ c ∈ (cut part).cps.toList, c ≠ 10 := fun c hc => addr_no10 hs c (slice_mem c hc)
inductive Ans where
  | marks
  | figs
  | val (n : Int)
abbrev pair (part : Str) (n : Int) (t t' : Tok) : Obj := { cls := .type "tuple", data := .seq #[.str part t, .int n t'] }
def Res (part : Str) (tl : List (Addr × Obj)) (r : Value) : Ans → Prop
  | .marks => tl = [] ∧ ∃ t, r = .str (Str.ofString "marks") t
  | .figs => tl = [] ∧ ∃ t, r = .str (Str.ofString "figures") t
  | .val n => ∃ a t t', tl = [(a, pair part n t t')] ∧ r = .ref a
def pcs (part : Str) : List Str := Txt.split part ⟨#[fst part.cps.toList]⟩
def ans (part : Str) : Ans :=
  if fst part.cps.toList = lst part.cps.toList then
    (if (pcs part).length = 5 then (match PySem.intText? ((pcs part).getD 3 ⟨#[]⟩) with | some n => .val n | none => .figs) else .marks)
  else .marks
theorem ans_ne {part : Str} (h : ((⟨#[fst part.cps.toList]⟩ : Str) != ⟨#[lst part.cps.toList]⟩) = true) : ans part = .marks := by
  have : ¬ fst part.cps.toList = lst part.cps.toList := fun e => by rw [e] at h; simp at h
  unfold ans; rw [if_neg this]
theorem ans_len {part : Str} {l : List (Str × Tok)} (h : List.map (fun x => x.fst) l = Txt.split part ⟨#[fst part.cps.toList]⟩) (hl : (l.length : Int) ≠ 5) : ans part = .marks := by
  have e : (pcs part).length = l.length := by rw [pcs, ← h, List.length_map]
  have : ¬ (pcs part).length = 5 := fun q => hl (by omega)
  unfold ans; rw [if_neg this]; split <;> rfl
theorem eq_of_ne {a b : Nat} (h : ((⟨#[a]⟩ : Str) != ⟨#[b]⟩) = false) : a = b := by
  have h' : (!((⟨#[a]⟩ : Str) == ⟨#[b]⟩)) = false := h
  rw [beq1] at h'
  simpa using h'
theorem toList_append (a b : Str) : (a ++ b).cps.toList = a.cps.toList ++ b.cps.toList := by
  show (Str.append a b).cps.toList = _
  simp [Str.append]
theorem mem_join (sep : Str) : ∀ (ws : List Str) (y : Str), y ∈ ws → ∀ c ∈ y.cps.toList, c ∈ (Str.join sep ws).cps.toList
  | [], _, h, _, _ => nomatch h
  | [a], y, h, c, hc => by
    rcases List.mem_cons.mp h with rfl | h
    · exact hc
    · exact nomatch h
  | a :: b :: r, y, h, c, hc => by
    have e : Str.join sep (a :: b :: r) = a ++ sep ++ Str.join sep (b :: r) := rfl
    rw [e, toList_append, toList_append]
    rcases List.mem_cons.mp h with rfl | h
    · simp [hc]
    · have := mem_join sep (b :: r) y h c hc
      simp [this]
theorem piece_mem {x sep y : Str} (h : y ∈ Txt.split x sep) : ∀ c ∈ y.cps.toList, c ∈ x.cps.toList := by
  have := mem_join sep (Txt.split x sep) y h
  rw [StrLaws.join_split] at this
  exact this
theorem Sgn.small {c : Nat} (h : Sgn c) : c < 128 := by unfold Sgn at h; omega
theorem ans_item {part y : Str} {l : List (Str × Tok)} (h : List.map (fun x => x.fst) l = Txt.split part ⟨#[fst part.cps.toList]⟩) (hl : (l.length : Int) = 5)
    (hy : (List.map (fun x => x.fst) l)[Int.toNat 3]? = some y) (hf : ((⟨#[fst part.cps.toList]⟩ : Str) != ⟨#[lst part.cps.toList]⟩) = false) :
    ans part = (match PySem.intText? y with | some n => .val n | none => .figs) := by
  have e : (pcs part).length = 5 := by rw [pcs, ← h, List.length_map]; omega
  have e3 : (pcs part).getD 3 ⟨#[]⟩ = y := by rw [pcs, ← h, List.getD_eq_getElem?_getD]; exact congrArg (fun o => Option.getD o _) hy
  unfold ans; rw [if_pos (by have := eq_of_ne hf; exact this), if_pos e, e3]
theorem item_in {part y : Str} {l : List (Str × Tok)} (h : List.map (fun x => x.fst) l = Txt.split part ⟨#[fst part.cps.toList]⟩) (hy : (List.map (fun x => x.fst) l)[Int.toNat 3]? = some y) :
    y ∈ Txt.split part ⟨#[fst part.cps.toList]⟩ := by rw [← h]; exact List.mem_of_getElem? hy
theorem item_len {part y : Str} {l : List (Str × Tok)} (h : List.map (fun x => x.fst) l = Txt.split part ⟨#[fst part.cps.toList]⟩) (hy : (List.map (fun x => x.fst) l)[Int.toNat 3]? = some y) (hp : part.length ≤ 10) :
    y.length ≤ 640 := by have := part_short (item_in h hy); omega
theorem item_repr {part y : Str} {l : List (Str × Tok)} (h : List.map (fun x => x.fst) l = Txt.split part ⟨#[fst part.cps.toList]⟩) (hy : (List.map (fun x => x.fst) l)[Int.toNat 3]? = some y) (hp : part.length ≤ 10)
    (hs : ∀ c ∈ part.cps.toList, Sgn c) : (reprText y).length ≤ sizeLine := by
  have h1 := part_short (item_in h hy)
  have h2 := StrLaws.reprText_len y fun c hc => Nat.lt_trans (hs c (piece_mem (item_in h hy) c hc)).small (by decide)
  rw [sizeLine_eq]; omega
end Mine
end

section -- Con6
open PySem PySem.W PyProof.Rows PySem.Calls PySem.Spec
set_option Elab.async false
namespace Mine
set_option maxRecDepth 100000 in
set_option maxHeartbeats 8000000 in
theorem con_read (w : World) (mean : ExcName → Option Value) (mg mb : Str → Option Value) (part : Str) (tk : Tok) (hlen : part.length ≤ 10) (hsg : ∀ c ∈ part.cps.toList, Sgn c) :
    ConU w mean mg mb 122 [.str part tk] (fun tl r => Res part tl r (ans part)) := by
  k_with_none
  k_with "compareOp NotEq str str" => refine ne_known (rsp_head part) ?_
  k_with "call builtin:str.find" => first | refine find_known (rsp_open part) ?_ | refine find3_known (rsp_close hsg (by omega)) ?_
  k_with "subscriptTail Name BinOp str int" => first | refine item_known (by omega) (by rw [rsp_len]; omega) (by rw [rsp_len]; omega) (rsp_first part (by omega)) ?_ | refine item_known (by omega) (by rw [rsp_len]; omega) (by rw [rsp_len]; omega) (rsp_last part (by omega)) ?_
  k_with "call builtin:str.split" => ((with_reducible rename Fr _ _ _ _ => F'); (with_reducible rename News _ _ _ _ => N'); (refine split_known (s := ⟨_, _, _, _, _⟩) F' N' (rsp_mid part (by omega) (by omega)) (by rfl) (by omega) ?_); intro D9 l9 h9 k9 e9 F9 N9)
  w_on
  unfold ConU
  k_fill
  intro cn cs a ccd base h₀ L m news s Q E B F X N T XB TB hk hret
  refine wpU_call ?_
  k_dflt (refine' codeU_defS0 ?k1 ?k2 ?k3 ?k4 ?k5 ?kA ?k6 ?k7 ?k8 ?k9 ?kB ?_ ?cK ?c2 ?c3 ?c4 ?c5; (case kA => exact rfl); (case k2 => k_asm); (case k1 => k_asm); (case k3 => k_asm); (case k4 => k_asm); (case k5 => k_asm); (case k6 => k_is); (case k7 => k_is); (case k8 => k_room); (case k9 => first | exact binds_K (by k_in) rfl (by k_is) rfl rfl rfl | exact BindsTo.of_eq rfl | fail "kts_go: no rule for these arguments"); (case kB => exact locs rfl); (case cK => assumption); (case c2 => exact rfl); (case c3 => exact rfl); (case c4 => exact rfl); (case c5 => decide); k_whole; intro g' L' h' FG' F' N' B' X' T' D'; (try dsimp only))
  refine wpU_execs_cons ?_
  refine wpU_of_eq (arm_exec_Try ..) (wpU_bind (wpU_standAt (wpU_tryStmt_except ?_)))
  refine wpU_execs_cons (wpU_Return_some (wpU_Call ?_))
  k_steps
  k_dflt (refine' wpU_callWith_K (K := MineHd.hd.heap_39 w.params) ?k1 ?_; (case k1 => k_is))
  k_steps
  refine wpU_call ?_
  k_dflt (refine' codeU_defS ?k1 ?k2 ?k3 ?k4 ?k5 ?D ?kA ?k6 ?k7 ?k8 ?k9 ?kB ?_ ?cK ?c2 ?c3 ?c4 ?c5; (case kA => exact rfl); (case k2 => k_asm); (case k1 => k_asm); (case D => assumption); (case k3 => k_asm); (case k4 => k_asm); (case k5 => k_asm); (case k6 => k_is); (case k7 => k_is); (case k8 => k_room); (case k9 => first | exact binds_K (by k_in) rfl (by k_is) rfl rfl rfl | exact BindsTo.of_eq rfl | fail "kts_go: no rule for these arguments"); (case kB => exact locs rfl); (case cK => exact rfl); (case c2 => exact rfl); (case c3 => exact rfl); (case c4 => exact rfl); (case c5 => decide); k_whole; intro g2 L2 h2 FG2 F2 N2 B2 X2 T2 D2; (try dsimp only))
  refine wpU_execs_cons (.of ?_)
  k_steps
  dsimp only
  refine wpU_execs_cons (.of ?_)
  k_steps
  dsimp only
  refine wpU_execs_cons (.of ?_)
  k_steps
  dsimp only
  refine wpU_execs_cons (.of ?_)
  k_steps
  dsimp only
  refine wpU_execs_cons (.of ?_)
  k_steps
  dsimp only
  refine wpU_execs_cons (.of ?_)
  k_steps
  · refine hret _ [] _ _ (by k_asm) (by refine' cb_drop ?cbN ?cbS; (case cbN => assumption); (case cbS => kcj_all)) ?_
    rw [ans_ne (by assumption)]
    exact ⟨rfl, _, rfl⟩
  dsimp only
  refine wpU_execs_cons (.of ?_)
  k_steps
  dsimp only
  refine wpU_execs_cons (.of ?_)
  k_steps
  · refine hret _ [] _ _ (by k_asm) (by refine' cb_drop ?cbN ?cbS; (case cbN => assumption); (case cbS => kcj_all)) ?_
    rw [ans_len (by assumption) (by assumption)]
    exact ⟨rfl, _, rfl⟩
  dsimp only
  refine wpU_execs_cons (.of ?_)
  k_steps
  dsimp only
  refine wpU_execs_cons (wpU_Assign_Name (wpU_Call ?_))
  k_steps
  refine wpU_callWith_type1 ?_
  k_steps
  have hA := ans_item (part := part) (by assumption) (by assumption) (by assumption) (by assumption)
  have hY1 := item_len (part := part) (by assumption) (by assumption) (by assumption)
  have hY2 := item_repr (part := part) (by assumption) (by assumption) (by assumption) (by assumption)
  revert hA
  split
  · rename_i n hn
    intro hA
    refine .of (KIN.call_text hn hY1 ?_)
    k_steps
    dsimp only
    refine wpU_execs_cons (.of ?_)
    k_steps
    refine hret _ _ _ _ (by k_asm) (news_pick3 (by assumption)) ?_
    rw [hA]
    exact ⟨_, _, _, rfl, rfl⟩
  · rename_i hn
    intro hA
    refine wpU_int_bad rfl hY1 hn hY2 (fun h8 tk8 e8 X8 => ?_)
    dsimp only
    k_steps
    refine hret _ [] _ _ (by k_asm) (by refine' cb_drop ?cbN ?cbS; (case cbN => assumption); (case cbS => kcj_all)) ?_
    rw [hA]
    exact ⟨rfl, _, rfl⟩
end Mine
end

section -- Fa1
open PySem PySem.W PyProof.Rows PySem.Calls PySem.Spec
set_option Elab.async false
set_option maxRecDepth 100000
namespace Mine
theorem pa_pat : PlainAttrs "re.Pattern" :=
  ⟨⟨"object.__getattribute__", by rw [typeLookup_type, builtinLookup_eq_fast]; kernel_rfl, by decide +kernel⟩, by rw [typeLookup_type, builtinLookup_eq_fast]; kernel_rfl⟩
theorem slot_search : Slot "re.Pattern" "search" "re.Pattern.search" :=
  .of (owner := "re.Pattern") (n := "search") (by rw [typeLookup_type, builtinLookup_eq_fast]; kernel_rfl) (by decide +kernel) (by decide +kernel) (by decide +kernel)
    (by first | exact .inl (by decide +kernel) | exact .inr (by decide +kernel)) (by rw [isSubtype_type]; kernel_rfl)
theorem entry_search : entryFor table "re.Pattern.search" = some Builtin.«re.Pattern.search» := entryFor_of_tree (by kernel_rfl)
theorem ty_search : typeOf (.builtin "re.Pattern.search") = pure (.type "method_descriptor") := by kernel_rfl
theorem args_search (a b : Value) : argsOk "re.Pattern.search" ⟨[a, b], []⟩ := by
  unfold argsOk; kernel_rfl
theorem pa_match : PlainAttrs "re.Match" :=
  ⟨⟨"object.__getattribute__", by rw [typeLookup_type, builtinLookup_eq_fast]; kernel_rfl, by decide +kernel⟩, by rw [typeLookup_type, builtinLookup_eq_fast]; kernel_rfl⟩
theorem slot_span : Slot "re.Match" "span" "re.Match.span" :=
  .of (owner := "re.Match") (n := "span") (by rw [typeLookup_type, builtinLookup_eq_fast]; kernel_rfl) (by decide +kernel) (by decide +kernel) (by decide +kernel)
    (by first | exact .inl (by decide +kernel) | exact .inr (by decide +kernel)) (by rw [isSubtype_type]; kernel_rfl)
theorem entry_span : entryFor table "re.Match.span" = some Builtin.«re.Match.span» := entryFor_of_tree (by kernel_rfl)
theorem ty_span : typeOf (.builtin "re.Match.span") = pure (.type "method_descriptor") := by kernel_rfl
theorem args_span (a b : Value) : argsOk "re.Match.span" ⟨[a, b], []⟩ := by
  unfold argsOk; kernel_rfl
end Mine
end

section -- Re1
open PySem
set_option Elab.async false
set_option maxRecDepth 100000
namespace Mine
open PySem.Sre (M)
/-- the compiled \.\d+$ -/
abbrev Cd : Array Nat := #[14, 8, 1, 2, 4294967295, 1, 1, 46, 0, 16, 46, 24, 9, 1, 4294967295, 13, 4, 8, 0, 0, 1, 6, 5, 1]
/-- a state of the machine in this search -/
abbrev St (text : Array Nat) (lim start pc pos handed : Nat) (om : Bool) (frames : List Sre.Frame) (weight : Nat) (answer : Option Bool) (seen : Sre.Seen) (out : Option Sre.Outcome) : M :=
  { code := Cd, text := text, lim := lim, start := start, lastStart := lim, wholeText := false, mustAdvance := false, pc := pc, pos := pos, handed := handed, outermost := om, marks := #[], lastmark := -1, lastindex := -1,
    loops := #[], inner := none, frames := frames, weight := weight, answer := answer, seen := seen, outcome := out }
/-- it ends in r within n steps -/
def Ends (m : M) (P : M → Prop) (n : Nat) : Prop := ∃ k, k ≤ n ∧ P (M.runFor k m) ∧ (M.runFor k m).outcome.isSome = true
theorem Ends.step {m : M} {P : M → Prop} {n : Nat} (ho : m.outcome = none) (h : Ends m.step P n) : Ends m P (n + 1) := by
  obtain ⟨k, hk, hp, hs⟩ := h
  have e : M.runFor (k + 1) m = M.runFor k m.step := by
    show (if m.outcome.isSome then m else M.runFor k m.step) = _
    rw [ho]; rfl
  exact ⟨k + 1, by omega, by rw [e]; exact hp, by rw [e]; exact hs⟩
theorem Ends.now {m : M} {P : M → Prop} {n : Nat} (hp : P m) (hs : m.outcome.isSome = true) : Ends m P n := ⟨0, Nat.zero_le _, hp, hs⟩
theorem Ends.mono {m : M} {P : M → Prop} {n n' : Nat} (h : Ends m P n) (hn : n ≤ n') : Ends m P n' := by
  obtain ⟨k, hk, h⟩ := h
  exact ⟨k, Nat.le_trans hk hn, h⟩
abbrev fS (s : Nat) (first : Bool) : Sre.Frame := { wait := .nextStart, pc := 9, pos := s, outermost := first }
section
variable {text : Array Nat} {lim start pos handed w : Nat} {om : Bool} {fr : List Sre.Frame} {seen : Sre.Seen}
theorem step_lit_out (h : pos ≥ lim) : ∃ seen', (St text lim start 9 pos handed om fr w none seen none).step = St text lim start 9 pos handed om fr w (some false) seen' none := by
  refine ⟨seen.add 16, ?_⟩
  show (if pos ≥ lim then _ else _) = _
  rw [if_pos h]; rfl
theorem step_lit_no (h : ¬ pos ≥ lim) (hc : (text.getD pos 0 == 46) = false) : ∃ seen', (St text lim start 9 pos handed om fr w none seen none).step = St text lim start 9 pos handed om fr w (some false) seen' none := by
  refine ⟨seen.add 16, ?_⟩
  show (if pos ≥ lim then _ else (match (Except.ok (text.getD pos 0 == 46, seen.add 16) : Except String (Bool × Sre.Seen)) with | .error why => _ | .ok (false, seen) => _ | .ok (true, seen) => _)) = _
  rw [if_neg h, hc]
  rfl
theorem step_lit_yes (h : ¬ pos ≥ lim) (hc : (text.getD pos 0 == 46) = true) : ∃ seen', (St text lim start 9 pos handed om fr w none seen none).step = St text lim start 11 (pos + 1) handed om fr w none seen' none := by
  refine ⟨seen.add 16, ?_⟩
  show (if pos ≥ lim then _ else (match (Except.ok (text.getD pos 0 == 46, seen.add 16) : Except String (Bool × Sre.Seen)) with | .error why => _ | .ok (false, seen) => _ | .ok (true, seen) => _)) = _
  rw [if_neg h, hc]
  rfl
end
end Mine
end

section -- Re2
open PySem
set_option Elab.async false
set_option maxRecDepth 100000
namespace Mine
open PySem.Sre (M)
theorem acc_digit (c : Nat) (seen : Sre.Seen) : ∃ seen', Sre.accepts Cd 15 c seen = .ok (Sre.isDigit c, seen') := by
  have e : Sre.accepts Cd 15 c seen = (do
      if ← (Except.ok (Sre.isDigit c != false) : Except String Bool) then pure (true, ((seen.add 8).add 55)) else (Except.ok (false, ((seen.add 8).add 55).add 0) : Except String (Bool × Sre.Seen))) := rfl
  rw [e]
  cases Sre.isDigit c
  · exact ⟨_, rfl⟩
  · exact ⟨_, rfl⟩
def dg (text : Array Nat) : Nat → Nat → Nat
  | 0, _ => 0
  | k + 1, p => if Sre.isDigit (text.getD p 0) then dg text k (p + 1) + 1 else 0
theorem run_dg (text : Array Nat) : ∀ (k p found : Nat) (seen : Sre.Seen), ∃ seen', Sre.run Cd text 15 k p found seen = .ok (found + dg text k p, seen')
  | 0, _, found, seen => ⟨seen, rfl⟩
  | k + 1, p, found, seen => by
    obtain ⟨s1, h1⟩ := acc_digit (text.getD p 0) seen
    have e : Sre.run Cd text 15 (k + 1) p found seen = (do
        let (yes, seen) ← Sre.accepts Cd 15 (text.getD p 0) seen
        if yes then Sre.run Cd text 15 k (p + 1) (found + 1) seen else pure (found, seen)) := rfl
    rw [e, h1]
    cases hd : Sre.isDigit (text.getD p 0)
    · refine ⟨s1, ?_⟩
      show Except.ok (found, s1) = _
      unfold dg; rw [hd]; rfl
    · obtain ⟨s2, h2⟩ := run_dg text k (p + 1) (found + 1) s1
      refine ⟨s2, ?_⟩
      show Sre.run Cd text 15 k (p + 1) (found + 1) s1 = _
      rw [h2]
      have e2 : dg text (k + 1) p = dg text k (p + 1) + 1 := by rw [dg, if_pos hd]
      rw [e2]
      have e3 : found + 1 + dg text k (p + 1) = found + (dg text k (p + 1) + 1) := by omega
      rw [e3]
abbrev K0 : Sre.Kept := { lastmark := -1, lastindex := -1, whole := false, marks := #[] }
abbrev fG (pos : Nat) (om : Bool) (n : Int) : Sre.Frame := { wait := .giveBack, pc := 11, pos := pos, outermost := om, count := n, kept := K0 }
section
variable {text : Array Nat} {lim start pos handed w : Nat} {om : Bool} {fr : List Sre.Frame} {seen : Sre.Seen}
theorem step_rep_room (h : (1 : Int) > (lim : Int) - pos) : ∃ seen', (St text lim start 11 pos handed om fr w none seen none).step = St text lim start 11 pos handed om fr w (some false) seen' none := by
  refine ⟨seen.add 24, ?_⟩
  show (if ((1 : Nat) : Int) > (lim : Int) - pos then _ else _) = _
  rw [if_pos (by simpa using h)]; rfl
theorem step_rep_none (h : ¬ (1 : Int) > (lim : Int) - pos) (hd : dg text (min 4294967295 ((lim : Int) - pos).toNat) pos < 1) :
    ∃ seen', (St text lim start 11 pos handed om fr w none seen none).step = St text lim start 11 pos handed om fr w (some false) seen' none := by
  obtain ⟨s2, h2⟩ := run_dg text (min 4294967295 ((lim : Int) - pos).toNat) pos 0 ((seen.add 24).add 13)
  refine ⟨s2, ?_⟩
  show (if ((1 : Nat) : Int) > (lim : Int) - pos then _ else (match Sre.run Cd text 15 (min 4294967295 ((lim : Int) - pos).toNat) pos 0 ((seen.add 24).add 13) with | .error why => _ | .ok (n, seen) => if n < 1 then _ else _)) = _
  rw [if_neg (by simpa using h), h2]
  show (if 0 + dg text (min 4294967295 ((lim : Int) - pos).toNat) pos < 1 then _ else _) = _
  rw [if_pos (by omega)]; rfl
theorem step_rep_some (h : ¬ (1 : Int) > (lim : Int) - pos) (hd : ¬ dg text (min 4294967295 ((lim : Int) - pos).toNat) pos < 1) (hw : w = 1) :
    ∃ seen', (St text lim start 11 pos handed om fr w none seen none).step =
      St text lim start 21 (pos + dg text (min 4294967295 ((lim : Int) - pos).toNat) pos) (pos + dg text (min 4294967295 ((lim : Int) - pos).toNat) pos) om (fG (pos + dg text (min 4294967295 ((lim : Int) - pos).toNat) pos) om (dg text (min 4294967295 ((lim : Int) - pos).toNat) pos) :: fr) 2 none seen' none := by
  subst hw
  obtain ⟨s2, h2⟩ := run_dg text (min 4294967295 ((lim : Int) - pos).toNat) pos 0 ((seen.add 24).add 13)
  refine ⟨s2, ?_⟩
  show (if ((1 : Nat) : Int) > (lim : Int) - pos then _ else (match Sre.run Cd text 15 (min 4294967295 ((lim : Int) - pos).toNat) pos 0 ((seen.add 24).add 13) with | .error why => _ | .ok (n, seen) => if n < 1 then _ else _)) = _
  rw [if_neg (by simpa using h), h2]
  generalize dg text (min 4294967295 ((lim : Int) - pos).toNat) pos = n at *
  show (if 0 + n < 1 then _ else _) = _
  rw [if_neg (by omega), Nat.zero_add]
  rfl
theorem step_at_yes (h : pos = lim) : ∃ seen', (St text lim start 21 pos handed om fr w none seen none).step = St text lim start 23 pos handed om fr w none seen' none := by
  refine ⟨(seen.add 6).add 48, ?_⟩
  show (if (pos == lim || (pos + 1 == lim && text.getD pos 0 == 10)) = true then _ else _) = _
  rw [if_pos (by simp [h])]; rfl
theorem step_at_no (h : pos ≠ lim) (h10 : text.getD pos 0 ≠ 10) : ∃ seen', (St text lim start 21 pos handed om fr w none seen none).step = St text lim start 21 pos handed om fr w (some false) seen' none := by
  refine ⟨(seen.add 6).add 48, ?_⟩
  show (if (pos == lim || (pos + 1 == lim && text.getD pos 0 == 10)) = true then _ else _) = _
  have e1 : (text.getD pos 0 == 10) = false := by rw [beq_eq_false_iff_ne]; exact h10
  have e2 : (pos == lim) = false := by rw [beq_eq_false_iff_ne]; exact h
  rw [if_neg (by rw [e1, e2, Bool.and_false]; decide)]; rfl
theorem step_succ : ∃ seen', (St text lim start 23 pos handed om fr w none seen none).step = St text lim start 23 pos pos om fr w (some true) seen' none := by
  refine ⟨seen.add 1, ?_⟩
  show (if (om && ((false && pos != lim) || (false && pos == start))) = true then _ else _) = _
  rw [if_neg (by simp)]; rfl
theorem step_back_yes {p2 : Nat} {n : Int} {pc2 pos2 : Nat} : (St text lim start pc2 pos2 handed om (fG p2 om n :: fr) 2 (some true) seen none).step = St text lim start 11 p2 handed om fr 1 (some true) seen none := rfl
theorem step_back_end {p2 : Nat} {n : Int} {pc2 pos2 : Nat} (h : n - 1 < 1) : (St text lim start pc2 pos2 handed om (fG p2 om n :: fr) 2 (some false) seen none).step = St text lim start 11 p2 handed om fr 1 (some false) seen none := by
  show (if n - 1 < ((1 : Nat) : Int) then _ else _) = _
  rw [if_pos (by simpa using h)]; rfl
theorem step_back_more {p2 : Nat} {n : Int} {pc2 pos2 : Nat} (h : ¬ n - 1 < 1) : (St text lim start pc2 pos2 handed om (fG p2 om n :: fr) 2 (some false) seen none).step = St text lim start 21 (p2 - 1) (p2 - 1) om (fG (p2 - 1) om (n - 1) :: fr) 2 none seen none := by
  show (if n - 1 < ((1 : Nat) : Int) then _ else _) = _
  rw [if_neg (by simpa using h)]; rfl
theorem step_start_yes {s0 : Nat} {b : Bool} {pc2 pos2 : Nat} : (St text lim start pc2 pos2 handed om [fS s0 b] 1 (some true) seen none).step = St text lim start 9 s0 handed b [] 0 (some true) seen none := rfl
theorem step_start_next {s0 : Nat} {b : Bool} {pc2 pos2 : Nat} (h : s0 < lim) : (St text lim start pc2 pos2 handed om [fS s0 b] 1 (some false) seen none).step = St text lim (s0 + 1) 9 (s0 + 1) (s0 + 1) false [fS (s0 + 1) false] 1 none seen none := by
  show (if s0 < lim then _ else _) = _
  rw [if_pos h]; rfl
theorem step_start_end {s0 : Nat} {b : Bool} {pc2 pos2 : Nat} (h : ¬ s0 < lim) : (St text lim start pc2 pos2 handed om [fS s0 b] 1 (some false) seen none).step = St text lim start 9 s0 handed b [] 0 (some false) seen none := by
  show (if s0 < lim then _ else _) = _
  rw [if_neg h]; rfl
theorem step_over {yes : Bool} {pc2 pos2 : Nat} : (St text lim start pc2 pos2 handed om [] w (some yes) seen none).step = St text lim start pc2 pos2 handed om [] w (some yes) seen (some (if yes then .matched else .failed)) := rfl
end
end Mine
end

section -- Re3
open PySem
set_option Elab.async false
set_option maxRecDepth 100000
namespace Mine
open PySem.Sre (M)
theorem dg_le (text : Array Nat) : ∀ k p, dg text k p ≤ k
  | 0, _ => Nat.le_refl _
  | k + 1, p => by
    unfold dg
    split
    · have := dg_le text k (p + 1); omega
    · omega
/-- the pattern fits from s on: a point, then figures to the end -/
def HitAt (text : Array Nat) (lim s : Nat) : Prop := s + 1 < lim ∧ text.getD s 0 = 46 ∧ dg text (lim - (s + 1)) (s + 1) = lim - (s + 1)
section
variable {text : Array Nat} {lim start handed : Nat} {om : Bool} {P : M → Prop}
theorem back_loop (h10 : ∀ i, text.getD i 0 ≠ 10) (fr : List Sre.Frame) (N : Nat) (hN : ∀ pc pos hd seen, Ends (St text lim start pc pos hd om fr 1 (some false) seen none) P N) :
    ∀ (n : Nat) (p : Nat) (hd : Nat) (seen : Sre.Seen), p < lim → Ends (St text lim start 21 p hd om (fG p om ((n : Nat) + 1 : Int) :: fr) 2 none seen none) P (N + 2 * (n + 1))
  | 0, p, hd, seen, hp => by
    obtain ⟨s1, e1⟩ := step_at_no (text := text) (lim := lim) (start := start) (pos := p) (handed := hd) (w := 2) (om := om) (fr := fG p om ((0 : Nat) + 1 : Int) :: fr) (seen := seen) (by omega) (h10 p)
    refine Ends.step rfl ?_
    rw [e1]
    refine Ends.step rfl ?_
    rw [step_back_end (by decide)]
    exact (hN _ _ _ _).mono (by omega)
  | n + 1, p, hd, seen, hp => by
    obtain ⟨s1, e1⟩ := step_at_no (text := text) (lim := lim) (start := start) (pos := p) (handed := hd) (w := 2) (om := om) (fr := fG p om ((n + 1 : Nat) + 1 : Int) :: fr) (seen := seen) (by omega) (h10 p)
    have e : N + 2 * (n + 1 + 1) = N + 2 * (n + 1) + 1 + 1 := by omega
    rw [e]
    refine Ends.step rfl ?_
    rw [e1]
    refine Ends.step rfl ?_
    rw [step_back_more (by omega)]
    have e2 : ((n + 1 : Nat) : Int) + 1 - 1 = (n : Int) + 1 := by omega
    rw [e2]
    exact back_loop h10 fr N hN n (p - 1) (p - 1) s1 (by omega)
theorem try_fail (h10 : ∀ i, text.getD i 0 ≠ 10) (hl : lim ≤ 1000) {s : Nat} (hs : s ≤ lim) (hno : ¬ HitAt text lim s) (N : Nat)
    (hN : ∀ pc pos hd seen, Ends (St text lim start pc pos hd om [fS s om] 1 (some false) seen none) P N) (seen : Sre.Seen) :
    Ends (St text lim start 9 s handed om [fS s om] 1 none seen none) P (N + 2 * lim + 4) := by
  by_cases h1 : s ≥ lim
  · obtain ⟨s1, e1⟩ := step_lit_out (text := text) (lim := lim) (start := start) (pos := s) (handed := handed) (w := 1) (om := om) (fr := [fS s om]) (seen := seen) h1
    refine Ends.step (n := N + 2 * lim + 3) rfl ?_
    rw [e1]
    exact (hN _ _ _ _).mono (by omega)
  cases hc : (text.getD s 0 == 46)
  · obtain ⟨s1, e1⟩ := step_lit_no (text := text) (lim := lim) (start := start) (pos := s) (handed := handed) (w := 1) (om := om) (fr := [fS s om]) (seen := seen) h1 hc
    refine Ends.step (n := N + 2 * lim + 3) rfl ?_
    rw [e1]
    exact (hN _ _ _ _).mono (by omega)
  obtain ⟨s1, e1⟩ := step_lit_yes (text := text) (lim := lim) (start := start) (pos := s) (handed := handed) (w := 1) (om := om) (fr := [fS s om]) (seen := seen) h1 hc
  refine Ends.step (n := N + 2 * lim + 3) rfl ?_
  rw [e1]
  by_cases h2 : (1 : Int) > (lim : Int) - ((s + 1 : Nat) : Int)
  · obtain ⟨s2, e2⟩ := step_rep_room (text := text) (lim := lim) (start := start) (pos := s + 1) (handed := handed) (w := 1) (om := om) (fr := [fS s om]) (seen := s1) h2
    refine Ends.step (n := N + 2 * lim + 2) rfl ?_
    rw [e2]
    exact (hN _ _ _ _).mono (by omega)
  have hk : min 4294967295 ((lim : Int) - ((s + 1 : Nat) : Int)).toNat = lim - (s + 1) := by omega
  by_cases h3 : dg text (min 4294967295 ((lim : Int) - ((s + 1 : Nat) : Int)).toNat) (s + 1) < 1
  · obtain ⟨s2, e2⟩ := step_rep_none (text := text) (lim := lim) (start := start) (pos := s + 1) (handed := handed) (w := 1) (om := om) (fr := [fS s om]) (seen := s1) h2 h3
    refine Ends.step (n := N + 2 * lim + 2) rfl ?_
    rw [e2]
    exact (hN _ _ _ _).mono (by omega)
  obtain ⟨s2, e2⟩ := step_rep_some (text := text) (lim := lim) (start := start) (pos := s + 1) (handed := handed) (w := 1) (om := om) (fr := [fS s om]) (seen := s1) h2 h3 rfl
  refine Ends.step (n := N + 2 * lim + 2) rfl ?_
  rw [e2]
  rw [hk] at h3 ⊢
  have hle := dg_le text (lim - (s + 1)) (s + 1)
  have hc46 : text.getD s 0 = 46 := by simpa using hc
  have hlt : s + 1 + dg text (lim - (s + 1)) (s + 1) < lim := by
    rcases Nat.lt_or_ge (s + 1 + dg text (lim - (s + 1)) (s + 1)) lim with q | q
    · exact q
    · exact absurd ⟨by omega, hc46, by omega⟩ hno
  generalize dg text (lim - (s + 1)) (s + 1) = n at *
  obtain ⟨n', rfl⟩ : ∃ n', n = n' + 1 := ⟨n - 1, by omega⟩
  have := back_loop (start := start) (om := om) (P := P) h10 [fS s om] N hN n' (s + 1 + (n' + 1)) (s + 1 + (n' + 1)) s2 hlt
  have e3 : (((n' + 1 : Nat)) : Int) = (n' : Int) + 1 := by omega
  rw [e3]
  exact this.mono (by omega)
theorem try_hit (hl : lim ≤ 1000) {s : Nat} (hh : HitAt text lim s) (seen : Sre.Seen) :
    Ends (St text lim s 9 s handed om [fS s om] 1 none seen none) (fun r => r.outcome = some .matched ∧ r.start = s ∧ r.handed = lim ∧ r.lastindex = -1) 7 := by
  obtain ⟨q1, q2, q3⟩ := hh
  obtain ⟨s1, e1⟩ := step_lit_yes (text := text) (lim := lim) (start := s) (pos := s) (handed := handed) (w := 1) (om := om) (fr := [fS s om]) (seen := seen) (by omega) (by rw [q2]; rfl)
  have h2 : ¬ (1 : Int) > (lim : Int) - ((s + 1 : Nat) : Int) := by omega
  have hk : min 4294967295 ((lim : Int) - ((s + 1 : Nat) : Int)).toNat = lim - (s + 1) := by omega
  obtain ⟨s2, e2⟩ := step_rep_some (text := text) (lim := lim) (start := s) (pos := s + 1) (handed := handed) (w := 1) (om := om) (fr := [fS s om]) (seen := s1) h2 (by rw [hk, q3]; omega) rfl
  rw [hk, q3] at e2
  have hp : s + 1 + (lim - (s + 1)) = lim := by omega
  rw [hp] at e2
  obtain ⟨s3, e3⟩ := step_at_yes (text := text) (lim := lim) (start := s) (pos := lim) (handed := lim) (w := 2) (om := om) (fr := [fG lim om ((lim - (s + 1) : Nat) : Int), fS s om]) (seen := s2) rfl
  obtain ⟨s4, e4⟩ := step_succ (text := text) (lim := lim) (start := s) (pos := lim) (handed := lim) (w := 2) (om := om) (fr := [fG lim om ((lim - (s + 1) : Nat) : Int), fS s om]) (seen := s3)
  refine Ends.step rfl ?_
  rw [e1]
  refine Ends.step rfl ?_
  rw [e2]
  refine Ends.step rfl ?_
  rw [e3]
  refine Ends.step rfl ?_
  rw [e4]
  refine Ends.step rfl ?_
  rw [step_back_yes]
  refine Ends.step rfl ?_
  rw [step_start_yes]
  refine Ends.step rfl ?_
  rw [step_over]
  exact Ends.now ⟨rfl, rfl, rfl, rfl⟩ rfl
/-- what the search ends in -/
def Found (text : Array Nat) (lim s : Nat) (r : M) : Prop :=
  (∃ q, s ≤ q ∧ HitAt text lim q ∧ (∀ q', s ≤ q' → q' < q → ¬ HitAt text lim q') ∧ r.outcome = some .matched ∧ r.start = q ∧ r.handed = lim ∧ r.lastindex = -1) ∨ ((∀ q, s ≤ q → ¬ HitAt text lim q) ∧ r.outcome = some .failed)
theorem Ends.imp {m : M} {P P' : M → Prop} {n : Nat} (h : Ends m P n) (hi : ∀ r, P r → P' r) : Ends m P' n := by
  obtain ⟨k, hk, hp, hs⟩ := h
  exact ⟨k, hk, hi _ hp, hs⟩
theorem search_from (h10 : ∀ i, text.getD i 0 ≠ 10) (hl : lim ≤ 1000) : ∀ (d s : Nat) (om : Bool) (seen : Sre.Seen), lim = s + d →
    Ends (St text lim s 9 s s om [fS s om] 1 none seen none) (Found text lim s) ((d + 1) * (2 * lim + 10))
  | 0, s, om, seen, hd => by
    have hno : ∀ q, s ≤ q → ¬ HitAt text lim q := fun q hq h => by have := h.1; omega
    refine (try_fail (N := 2) h10 hl (by omega) (hno s (Nat.le_refl _)) (fun pc pos hd' seen => ?_) seen).mono (by omega)
    refine Ends.step rfl ?_
    rw [step_start_end (by omega)]
    refine Ends.step rfl ?_
    rw [step_over]
    exact Ends.now (.inr ⟨hno, rfl⟩) rfl
  | d + 1, s, om, seen, hd => by
    by_cases hh : HitAt text lim s
    · refine ((try_hit hl hh seen).imp fun r hr => .inl ⟨s, Nat.le_refl _, hh, fun q' h1 h2 => absurd h1 (by omega), hr⟩).mono ?_
      have : (d + 1 + 1) * (2 * lim + 10) = (d + 1) * (2 * lim + 10) + (2 * lim + 10) := Nat.succ_mul _ _
      omega
    · have e : (d + 1 + 1) * (2 * lim + 10) = (d + 1) * (2 * lim + 10) + (2 * lim + 10) := Nat.succ_mul _ _
      rw [e]
      refine (try_fail (N := (d + 1) * (2 * lim + 10) + 1) h10 hl (by omega) hh (fun pc pos hd' seen => ?_) seen).mono (by omega)
      refine Ends.step rfl ?_
      rw [step_start_next (by omega)]
      refine (search_from h10 hl d (s + 1) false seen (by omega)).imp fun r hr => ?_
      rcases hr with ⟨q, h1, h2, h3, h4⟩ | ⟨h1, h2⟩
      · refine .inl ⟨q, by omega, h2, fun q' k1 k2 => ?_, h4⟩
        rcases Nat.eq_or_lt_of_le k1 with z | z
        · exact z ▸ hh
        · exact h3 q' z k2
      · refine .inr ⟨fun q k1 => ?_, h2⟩
        rcases Nat.eq_or_lt_of_le k1 with z | z
        · exact z ▸ hh
        · exact h1 q z
end
end Mine
end

section -- Re4
open PySem
set_option Elab.async false
set_option maxRecDepth 100000
namespace Mine
theorem runFor_some {m : Sre.M} (h : m.outcome.isSome = true) : ∀ n, Sre.M.runFor n m = m
  | 0 => rfl
  | n + 1 => by show (if m.outcome.isSome then m else _) = m; rw [if_pos h]
theorem runFor_add : ∀ (a b : Nat) (m : Sre.M), Sre.M.runFor (a + b) m = Sre.M.runFor b (Sre.M.runFor a m)
  | 0, b, m => by rw [Nat.zero_add]; rfl
  | a + 1, b, m => by
    have e : a + 1 + b = (a + b) + 1 := by omega
    rw [e]
    cases h : m.outcome.isSome
    · show (if m.outcome.isSome then m else Sre.M.runFor (a + b) m.step) = Sre.M.runFor b (if m.outcome.isSome then m else Sre.M.runFor a m.step)
      rw [h]
      exact runFor_add a b m.step
    · rw [runFor_some h, runFor_some h, runFor_some h]
section
variable {M : Model} {A : Around} {E : Value → Shared → Prop} {s : Shared}
theorem drive {P : Sre.M → Prop} {Q : Sre.M → Shared → Prop} (hQ : ∀ r, P r → r.outcome.isSome = true → Q r s) : ∀ (turns n : Nat) (m : Sre.M), Ends m P n → n + 1 ≤ 4 * turns → wpAny M A (Builtin.Re.reDrive turns m) Q E s
  | 0, n, m, _, hn => absurd hn (by omega)
  | turns + 1, n, m, h, hn => by
    obtain ⟨k, hk, hp, hs⟩ := h
    show wpAny M A (if (Sre.M.runFor 4 m).outcome.isSome then pure (Sre.M.runFor 4 m) else do rule "sre.turn"; Builtin.Re.reDrive turns (Sre.M.runFor 4 m)) Q E s
    cases h4 : (Sre.M.runFor 4 m).outcome.isSome
    · rw [if_neg (by simp)]
      refine wpAny_bind (wpAny_rule ?_)
      have hgt : 4 < k := by
        rcases Nat.lt_or_ge 4 k with q | q
        · exact q
        · have e : Sre.M.runFor 4 m = Sre.M.runFor k m := by
            have : 4 = k + (4 - k) := by omega
            rw [this, runFor_add, runFor_some hs]
          rw [e, hs] at h4; cases h4
      have e : Sre.M.runFor k m = Sre.M.runFor (k - 4) (Sre.M.runFor 4 m) := by rw [← runFor_add]; congr 1; omega
      rw [e] at hp hs
      exact drive hQ turns (n - 4) _ ⟨k - 4, by omega, hp, hs⟩ (by omega)
    · rw [if_pos rfl]
      refine wpAny_pure ?_
      have e : Sre.M.runFor 4 m = Sre.M.runFor k m := by
        rcases Nat.lt_or_ge 4 k with q | q
        · have : k = 4 + (k - 4) := by omega
          rw [this, runFor_add, runFor_some h4]
        · have : 4 = k + (4 - k) := by omega
          rw [this, runFor_add, runFor_some hs]
      rw [e]
      exact hQ _ hp hs
theorem rules_loop {b : Nat → Bool} {f : Nat → String} {Q : PUnit → Shared → Prop} (hQ : Q PUnit.unit s) : ∀ l : List Nat, wpAny M A (forIn l PUnit.unit fun i _ => (do
    if b i then rule (f i)
    pure (ForInStep.yield PUnit.unit) : Sem (ForInStep PUnit))) Q E s
  | [] => wpAny_pure hQ
  | i :: r => by
    rw [List.forIn_cons]
    refine wpAny_bind ?_
    cases hb : b i
    · exact wpAny_pure (rules_loop hQ r)
    · exact wpAny_bind (wpAny_rule (wpAny_pure (rules_loop hQ r)))
theorem runToEnd {P : Sre.M → Prop} {m : Sre.M} {n : Nat} {Q : Option Sre.M → Shared → Prop} (h : Ends m P n) (hn : n ≤ 10000000)
    (hy : ∀ r, P r → r.outcome = some .matched → Q (some r) s) (hno : ∀ r, P r → r.outcome = some .failed → Q none s) (hP : ∀ r, P r → r.outcome = some .matched ∨ r.outcome = some .failed) :
    wpAny M A (Builtin.Re.reRunToEnd m) Q E s := by
  unfold Builtin.Re.reRunToEnd
  refine wpAny_bind (drive (P := P) (fun r hr hs => ?_) (2 ^ 64) n m h (by omega))
  refine wpAny_bind (wpAny_mono (rules_loop (Q := fun _ s' => s' = s) rfl _) (fun _ s' e => ?_) fun _ _ x => x)
  subst e
  rcases hP r hr with q | q
  · rw [q]; exact wpAny_pure (hy r hr q)
  · rw [q]; exact wpAny_pure (hno r hr q)
end
end Mine
end

section -- Re5
open PySem PyProof.Rows
set_option Elab.async false
set_option maxRecDepth 100000
namespace Mine
abbrev patObj : Obj := { cls := Value.type "re.Pattern", data := Data.fields #[Value.str (Str.ofString "\\.\\d+$") 361, Value.int 256 388, Value.int 0 0, Value.none, Value.none, Value.ref 86, Value.int 0 0] }
abbrev codeObj : Obj := { cls := Value.type "tuple", data := Data.seq #[Value.int 14 0, Value.int 8 0, Value.int 1 0, Value.int 2 0, Value.int 4294967295 0, Value.int 1 0,
              Value.int 1 0, Value.int 46 0, Value.int 0 0, Value.int 16 0, Value.int 46 0, Value.int 24 0,
              Value.int 9 0, Value.int 1 0, Value.int 4294967295 0, Value.int 13 0, Value.int 4 0, Value.int 8 0,
              Value.int 0 0, Value.int 0 0, Value.int 1 0, Value.int 6 0, Value.int 5 0, Value.int 1 0] }
theorem named_eq (x : Str) (t : Tok) : Builtin.Re.reNamed "re.Pattern.search" "search" ["string", "pos", "endpos"] 1 [Value.str x t] [] = pure [some (Value.str x t), none, none] := by rfl
section
variable {M : Model} {A : Around} {E : Value → Shared → Prop} {s : Shared}
theorem target {x : Str} {t : Tok} {Q : Builtin.Re.ReTarget → Shared → Prop} (h87 : s.heap.get? 87 = some patObj) (h86 : s.heap.get? 86 = some codeObj)
    (h : Q { pattern := .ref 87, string := .str x t, code := Cd, text := x.cps, kind := 0, groups := 0, pos := 0, lim := min 9223372036854775807 x.cps.size } s) :
    wpAny M A (Builtin.Re.reTarget "re.Pattern.search" "search" ⟨[.ref 87, .str x t], []⟩) Q E s := by
  unfold Builtin.Re.reTarget
  dsimp only
  rw [named_eq]
  refine wpAny_bind (wpAny_pure ?_)
  dsimp only
  refine wpAny_bind (wpAny_pure ?_)
  refine wpAny_bind (wpAny_pure ?_)
  refine wpAny_bind (wpAny_fieldsOf h87 rfl ?_)
  refine wpAny_bind (wpAny_pure (a := (x.cps, 0)) ?_)
  refine wpAny_ite_false rfl ?_
  refine wpAny_ite_false rfl ?_
  refine wpAny_bind (wpAny_pure (a := ()) ?_)
  refine wpAny_bind ?_
  refine wpAny_bind (m := seqItems? (.ref 86)) ?_
  refine wpAny_bind (wpAny_load h86 ?_)
  refine wpAny_pure ?_
  refine wpAny_pure ?_
  refine wpAny_pure ?_
  have e : min (Int.toNat 0) x.cps.size = 0 := by simp
  have e2 : min (2 ^ 63 - 1 : Int).toNat x.cps.size = min 9223372036854775807 x.cps.size := rfl
  have ec : Array.map (fun (x : Int) => x.toNat) (Array.map Builtin.Re.reRawOf #[Value.int 14 0, Value.int 8 0, Value.int 1 0, Value.int 2 0, Value.int 4294967295 0, Value.int 1 0,
              Value.int 1 0, Value.int 46 0, Value.int 0 0, Value.int 16 0, Value.int 46 0, Value.int 24 0,
              Value.int 9 0, Value.int 1 0, Value.int 4294967295 0, Value.int 13 0, Value.int 4 0, Value.int 8 0,
              Value.int 0 0, Value.int 0 0, Value.int 1 0, Value.int 6 0, Value.int 5 0, Value.int 1 0]) = Cd := by decide +kernel
  dsimp only [Option.getD_some]
  rw [ec, e]
  exact h
theorem forSearch_short {text : Array Nat} {lim : Nat} (h : lim < 2) : Ends (Sre.forSearch Cd text 0 0 lim false) (fun r => r.outcome = some .failed) 1 := by
  have e : Sre.forSearch Cd text 0 0 lim false = { code := Cd, text := text, lim := lim, start := 0, lastStart := 0, wholeText := false, mustAdvance := false, pc := 9, pos := 0, handed := 0, outermost := true, marks := #[], lastmark := -1, lastindex := -1, loops := #[], inner := none, frames := [], weight := 0, answer := some false, seen := ({} : Sre.Seen).add 14, outcome := none } := by
    show (if 0 > lim || lim - 0 < 2 then _ else _) = _
    rw [if_pos (by simp; omega)]; rfl
  rw [e]
  exact Ends.step rfl (Ends.now rfl rfl)
theorem forSearch_long {text : Array Nat} {lim : Nat} (h : ¬ lim < 2) : Sre.forSearch Cd text 0 0 lim false = St text lim 0 9 0 0 true [fS 0 true] 1 none (({} : Sre.Seen).add 14) none := by
  show (if 0 > lim || lim - 0 < 2 then _ else _) = _
  rw [if_neg (by simp; omega)]; rfl
end
abbrev spanObj (q lim : Nat) : Obj := { cls := .type "tuple", data := .seq #[.int q 0, .int lim 0] }
abbrev matchObj (x : Str) (t : Tok) (lim : Nat) (b : Addr) : Obj := { cls := .type "re.Match", data := .fields #[.str x t, .ref 87, .int 0 0, .int lim 0, .int (-1) 0, .ref b] }
section
variable {prog : Program} {w : World} {A : Around} {E : Value → Shared → Prop} {s : Shared} {h₀ : Heap} {L : Addr} {m : Str → Option Value} {news : List (Addr × Obj)}
theorem search_call {x : Str} {t : Tok} {Q : Value → Shared → Prop} (F : Fr h₀ L s.heap m) (N : News h₀ L s.heap news) (h87 : s.heap.get? 87 = some patObj) (h86 : s.heap.get? 86 = some codeObj)
    (hx : x.length ≤ 1000) (h10 : ∀ c ∈ x.cps.toList, c ≠ 10)
    (hno : (∀ q, ¬ HitAt x.cps x.length q) → Q .none s)
    (hyes : ∀ q, HitAt x.cps x.length q → (∀ q', q' < q → ¬ HitAt x.cps x.length q') → ∀ a b h', Fr h₀ L h' m → News h₀ L h' ((a, matchObj x t x.length b) :: (b, spanObj q x.length) :: news) → Q (.ref a) { s with heap := h' }) :
    wpAny (model prog w) A (call (.builtin "re.Pattern.search") [.ref 87, .str x t]) Q E s := by
  have hlim : min 9223372036854775807 x.cps.size = x.length := by
    have : x.cps.size = x.length := rfl
    omega
  have h10' : ∀ i, x.cps.getD i 0 ≠ 10 := fun i e => by
    rw [Array.getD_eq_getD_getElem?] at e
    cases hi : x.cps[i]? with
    | none => rw [hi] at e; simp at e
    | some c => rw [hi] at e; exact h10 c (by rw [Array.getElem?_eq_some_iff] at hi; obtain ⟨hlt, rfl⟩ := hi; simp) e
  refine wpAny_call (codeAny_call_builtin slot_search.plain entry_search (slot_search.check _ _ _ _ _ _ _ _ ⟨_, h87, rfl⟩ (args_search _ _) ?_))
  unfold Builtin.«re.Pattern.search»
  refine wpAny_bind (target h87 h86 ?_)
  dsimp only
  rw [hlim]
  unfold Builtin.Re.reAnswer
  refine wpAny_bind ?_
  have key : Ends (Sre.forSearch Cd x.cps 0 0 x.length false) (Found x.cps x.length 0) ((x.length + 1) * (2 * x.length + 10)) := by
    by_cases h2 : x.length < 2
    · have hn : ∀ q, 0 ≤ q → ¬ HitAt x.cps x.length q := fun q _ hq => by have := hq.1; omega
      refine ((forSearch_short h2).imp fun r hr => .inr ⟨hn, hr⟩).mono ?_
      have h1 := Nat.mul_le_mul (Nat.le_add_left 1 x.length) (Nat.le_add_left 10 (2 * x.length))
      omega
    · rw [forSearch_long h2]
      exact search_from h10' hx x.length 0 true _ (by omega)
  refine runToEnd key ?_ (fun r hr ho => ?_) (fun r hr ho => ?_) (fun r hr => ?_)
  · have h1 : (x.length + 1) * (2 * x.length + 10) ≤ 1001 * 2010 := Nat.mul_le_mul (by omega) (by omega)
    omega
  · rcases hr with ⟨q, _, hq, hmin, _, hst, hhd, hli⟩ | ⟨_, hf⟩
    · dsimp only
      refine wpAny_bind ?_
      unfold Builtin.Re.reNewMatch
      dsimp only
      refine wpAny_ite_false rfl ?_
      rw [hst, hhd, hli]
      refine wpAny_bind ?_
      refine newTuple_N F N (fun h1 F1 N1 => ?_) (by rw [sizeLine_eq]; simp)
      unfold newFields
      refine wpAny_newObj_type ?_
      refine wpAny_pure ?_
      exact hyes q hq (fun q' hlt => hmin q' (Nat.zero_le _) hlt) _ _ _ (F1.push _) (N1.push F1 _)
    · rw [ho] at hf; cases hf
  · rcases hr with ⟨q, _, hq, hmin, hm, _⟩ | ⟨hnone, hf⟩
    · rw [ho] at hm; cases hm
    · exact wpAny_pure (hno fun q => hnone q (Nat.zero_le _))
  · rcases hr with ⟨q, _, _, _, hm, _⟩ | ⟨_, hf⟩
    · exact .inl hm
    · exact .inr hf
end
end Mine
end

section -- Fa2
open PySem PySem.W PyProof.Rows PySem.Calls
set_option Elab.async false
set_option maxRecDepth 100000
namespace Mine
theorem lk_string : typeLookup (.type "re.Match") "string" = pure (some (.builtin "re.Match.string")) := by rw [typeLookup_type, builtinLookup_eq_fast]; kernel_rfl
theorem ty_string : typeOf (.builtin "re.Match.string") = pure (.type "member_descriptor") := by kernel_rfl
theorem lk_match_bool : typeLookup (.type "re.Match") "__bool__" = pure none := by rw [typeLookup_type, builtinLookup_eq_fast]; kernel_rfl
theorem lk_match_len : typeLookup (.type "re.Match") "__len__" = pure none := by rw [typeLookup_type, builtinLookup_eq_fast]; kernel_rfl
theorem slot_md_get : Slot "member_descriptor" "__get__" "member_descriptor.__get__" :=
  .of (owner := "member_descriptor") (n := "__get__") (by rw [typeLookup_type, builtinLookup_eq_fast]; kernel_rfl) (by decide +kernel) (by decide +kernel) (by decide +kernel)
    (by first | exact .inl (by decide +kernel) | exact .inr (by decide +kernel)) (by rw [isSubtype_type]; kernel_rfl)
theorem slot_md_set : Slot "member_descriptor" "__set__" "member_descriptor.__set__" :=
  .of (owner := "member_descriptor") (n := "__set__") (by rw [typeLookup_type, builtinLookup_eq_fast]; kernel_rfl) (by decide +kernel) (by decide +kernel) (by decide +kernel)
    (by first | exact .inl (by decide +kernel) | exact .inr (by decide +kernel)) (by rw [isSubtype_type]; kernel_rfl)
theorem slot_match_ga : Slot "re.Match" "__getattribute__" "object.__getattribute__" :=
  .of (owner := "object") (n := "__getattribute__") (by rw [typeLookup_type, builtinLookup_eq_fast]; kernel_rfl) (by decide +kernel) (by decide +kernel) (by decide +kernel)
    (by first | exact .inl (by decide +kernel) | exact .inr (by decide +kernel)) (by rw [isSubtype_type]; kernel_rfl)
theorem entry_md_get : entryFor table "member_descriptor.__get__" = some Builtin.«member_descriptor.__get__» := entryFor_of_tree (by kernel_rfl)
theorem entry_string : entryFor table "re.Match.string" = some Builtin.«re.Match.string» := entryFor_of_tree (by kernel_rfl)
end Mine
end

section -- Re6
open PySem PySem.W PyProof.Rows PySem.Calls
set_option Elab.async false
set_option maxRecDepth 100000
namespace Mine
theorem entry_md_get_obj : entryFor table ("member_descriptor.__get__" ++ "#obj") = some Builtin.«member_descriptor.__get__#obj» := entryFor_of_tree (by kernel_rfl)
theorem sub_string_owner : isSubtype (.type "re.Match") (.type (".".intercalate ("re.Match.string".cutAt '.').dropLast)) = pure true := by
  have : ".".intercalate ("re.Match.string".cutAt '.').dropLast = "re.Match" := by decide +kernel
  rw [this, isSubtype_type]; kernel_rfl
section
variable {prog : Program} {w : World} {A : Around} {E : Value → Shared → Prop} {h : Heap} {g : Array GenState} {d : Drawn} {t : Nat} {os : OsState} {a : Addr} {x : Str} {u : Tok} {n : Nat} {b : Addr}
theorem string_get {R : Result → Shared → Prop} (ha : h.get? a = some (matchObj x u n b)) (hq : R (.ok (.ret (.str x u))) ⟨h, g, d, t, os⟩) :
    codeAny (model prog w) A (.builtin ("member_descriptor.__get__" ++ "#obj") ⟨[.builtin "re.Match.string", .ref a], []⟩) R ⟨h, g, d, t, os⟩ := by
  have hT : (⟨h, g, d, t, os⟩ : Shared).TypeIs (.ref a) "re.Match" := ⟨_, ha, rfl⟩
  have hT5 : (⟨h, g, d, t, os⟩ : Shared).TypeIs (.builtin "re.Match.string") "member_descriptor" := ty_string
  have f8 := sub_string_owner
  refine codeAny_builtin entry_md_get_obj ?_
  repeat (any_goals (first | assumption | wp_step))
  refine ⟨Code.quiet_builtin _ (by decide +kernel), codeAny_builtin entry_string ?_⟩
  repeat (any_goals (first | assumption | wp_step))
theorem args_md_get (a b c : Value) : argsOk "member_descriptor.__get__" ⟨[a, b, c], []⟩ := by unfold argsOk; kernel_rfl
theorem string_get2 {R : Result → Shared → Prop} (ha : h.get? a = some (matchObj x u n b)) (hq : R (.ok (.ret (.str x u))) ⟨h, g, d, t, os⟩) :
    codeAny (model prog w) A (.call (.builtin "member_descriptor.__get__") ⟨[.builtin "re.Match.string", .ref a, .type "re.Match"], []⟩) R ⟨h, g, d, t, os⟩ := by
  have hT : (⟨h, g, d, t, os⟩ : Shared).TypeIs (.ref a) "re.Match" := ⟨_, ha, rfl⟩
  have hT5 : (⟨h, g, d, t, os⟩ : Shared).TypeIs (.builtin "re.Match.string") "member_descriptor" := ty_string
  have f8 := sub_string_owner
  refine codeAny_call_builtin slot_md_get.plain entry_md_get (slot_md_get.check _ _ _ _ _ _ _ _ hT5 (args_md_get _ _ _) ?_)
  repeat (any_goals (first | assumption | wp_step))
  refine ⟨Code.quiet_builtin _ (by decide +kernel), codeAny_builtin entry_string ?_⟩
  repeat (any_goals (first | assumption | wp_step))
theorem string_entry {tk : Tok} {Q : Fin → Shared → Prop} (ha : h.get? a = some (matchObj x u n b)) (hq : Q (.done (.ret (.str x u))) ⟨h, g, d, t, os⟩) :
    wpAny (model prog w) A (Builtin.«object.__getattribute__» ⟨[.ref a, .str "string" tk], []⟩) Q E ⟨h, g, d, t, os⟩ := by
  have hT : (⟨h, g, d, t, os⟩ : Shared).TypeIs (.ref a) "re.Match" := ⟨_, ha, rfl⟩
  have hT5 : (⟨h, g, d, t, os⟩ : Shared).TypeIs (.builtin "re.Match.string") "member_descriptor" := ty_string
  have f4 := lk_string
  have f5 := ty_string
  have f6 := slot_md_get.lookup
  have f7 := slot_md_set.lookup
  repeat (any_goals (first | assumption | wp_step))
  refine string_get2 ha ?_
  repeat (any_goals (first | assumption | wp_step))
theorem string_call {tk : Tok} {R : Result → Shared → Prop} (ha : h.get? a = some (matchObj x u n b)) (hq : R (.ok (.ret (.str x u))) ⟨h, g, d, t, os⟩) :
    codeAny (model prog w) A (.call (.builtin "object.__getattribute__") ⟨[.ref a, .str "string" tk], []⟩) R ⟨h, g, d, t, os⟩ :=
  codeAny_call_builtin slot_match_ga.plain F.entry_object_getattribute (slot_match_ga.check _ _ _ _ _ _ _ _ (show (⟨h, g, d, t, os⟩ : Shared).TypeIs (.ref a) "re.Match" from ⟨_, ha, rfl⟩) (F.args_object_getattribute_2 _ _) (string_entry ha hq))
theorem string_by {tk : Tok} {Q : Value → Shared → Prop} (ha : h.get? a = some (matchObj x u n b)) (hq : Q (.str x u) ⟨h, g, d, t, os⟩) : wpAny (model prog w) A (getAttrBy (.ref a) (.str "string" tk) true true) Q E ⟨h, g, d, t, os⟩ := by
  have hT : (⟨h, g, d, t, os⟩ : Shared).TypeIs (.ref a) "re.Match" := ⟨_, ha, rfl⟩
  have f2 := slot_match_ga.lookup
  have f3 := slot_match_ga.bind (.ref a)
  repeat (any_goals (first | assumption | wp_step))
  refine string_call ha ?_
  repeat (any_goals (first | assumption | wp_step))
end
end Mine
end

section -- Re7
open PySem PySem.W PyProof.Rows PySem.Calls
set_option Elab.async false
set_option maxRecDepth 100000
namespace Mine
section
variable {prog : Program} {w : World} {A : Around} {E : Value → Shared → Prop} {s : Shared} {a b : Addr} {x : Str} {u v : Tok} {n q : Nat} {h₀ : Heap} {L : Addr} {m : Str → Option Value} {news : List (Addr × Obj)}
theorem string_attr {Q : Value → Shared → Prop} (ha : s.heap.get? a = some (matchObj x u n b)) (hq : Q (.str x u) { s with toks := s.toks + 1 }) : wpAny (model prog w) A (getAttr (.ref a) (Str.ofString "string") true) Q E s := by
  unfold getAttr
  refine wpAny_bind (wpAny_mkText ?_)
  exact string_by ha hq
theorem truthy_match {Q : Bool → Shared → Prop} (ha : s.heap.get? a = some (matchObj x u n b)) (hq : Q true s) : wpAny (model prog w) A (truthy (.ref a)) Q E s := by
  unfold truthy
  refine wpAny_bind (wpAny_callSpecial?_none ⟨_, ha, rfl⟩ lk_match_bool ?_)
  dsimp only
  refine wpAny_bind (wpAny_specialOf ⟨_, ha, rfl⟩ lk_match_len ?_)
  exact wpAny_pure hq
theorem meth_search {pl : Sem Bool} {Q : Value × List Value → Shared → Prop} (h87 : s.heap.get? 87 = some patObj) (h : Q (.builtin "re.Pattern.search", [.ref 87]) s) : wpAny (model prog w) A (getMethod (.ref 87) (Str.ofString "search") pl) Q E s :=
  getMethod_builtin ⟨_, h87, rfl⟩ pa_pat slot_search ty_search (fun a e => by cases e; exact ⟨_, h87, rfl⟩) h
theorem meth_span {pl : Sem Bool} {Q : Value × List Value → Shared → Prop} (ha : s.heap.get? a = some (matchObj x u n b)) (h : Q (.builtin "re.Match.span", [.ref a]) s) : wpAny (model prog w) A (getMethod (.ref a) (Str.ofString "span") pl) Q E s :=
  getMethod_builtin ⟨_, ha, rfl⟩ pa_match slot_span ty_span (fun c e => by cases e; exact ⟨_, ha, rfl⟩) h
theorem span_call {Q : Value → Shared → Prop} (F : Fr h₀ L s.heap m) (N : News h₀ L s.heap news) (ha : s.heap.get? a = some (matchObj x u n b)) (hb : s.heap.get? b = some (spanObj q n))
    (h : ∀ D h' k t1 t2, Fr h₀ L h' m → News h₀ L h' ((D, { cls := .type "tuple", data := .seq #[.int (q : Int) t1, .int (n : Int) t2] }) :: news) → Q (.ref D) { s with heap := h', toks := k }) :
    wpAny (model prog w) A (call (.builtin "re.Match.span") [.ref a, .int 0 v]) Q E s := by
  refine wpAny_call (codeAny_call_builtin slot_span.plain entry_span (slot_span.check _ _ _ _ _ _ _ _ ⟨_, ha, rfl⟩ (args_span _ _) ?_))
  unfold Builtin.«re.Match.span»
  refine wpAny_bind ?_
  unfold Builtin.Re.reOneGroup
  refine wpAny_bind (wpAny_pure (a := (Value.ref a, [Value.int 0 v])) ?_)
  dsimp only
  refine wpAny_bind ?_
  unfold Builtin.Re.reFound
  refine wpAny_bind (wpAny_fieldsOf ha rfl ?_)
  refine wpAny_bind ?_
  refine wpAny_bind (m := seqItems? (.ref b)) ?_
  refine wpAny_bind (wpAny_load hb ?_)
  refine wpAny_pure ?_
  refine wpAny_pure ?_
  refine wpAny_pure ?_
  refine wpAny_bind ?_
  have e1 : (Array.map Builtin.Re.reRawOf ((some #[Value.int (q : Int) 0, Value.int (n : Int) 0]).getD #[])) = #[(q : Int), (n : Int)] := by simp [Builtin.Re.reRawOf]
  rw [e1]
  unfold Builtin.Re.reGroupNumber
  refine wpAny_bind (wpAny_pure (a := some 0) ?_)
  refine wpAny_ite_true rfl ?_
  refine wpAny_bind (wpAny_pure (a := (0 : Int)) ?_)
  refine wpAny_ite_false rfl ?_
  refine wpAny_pure ?_
  refine wpAny_pure ?_
  refine wpAny_bind (wpAny_mkInt ?_)
  refine wpAny_bind (wpAny_mkInt ?_)
  refine wpAny_bind ?_
  refine newTuple_N F N (fun h1 F1 N1 => ?_) (by rw [sizeLine_eq]; simp)
  exact wpAny_pure (h _ _ _ _ _ F1 N1)
end
end Mine
end

section -- Lin2
open PySem PySem.W PyProof.Rows PySem.Calls
set_option Elab.async false
namespace Mine
section
variable {prog : Program} {w : World} {A : Around} {E : Value → Shared → Prop} {s : Shared} {K : Frag} {a b : Addr} {x : Str} {t u v : Tok} {n q : Nat} {h₀ : Heap} {L : Addr} {m : Str → Option Value} {news : List (Addr × Obj)}
theorem meth_searchK {pl : Sem Bool} {Q : Value × List Value → Shared → Prop} (F : Fr h₀ L s.heap m) (X : K.In h₀) (hK : K.lookup 87 = some patObj) (h : Q (.builtin "re.Pattern.search", [.ref 87]) s) :
    wpAny (model prog w) A (getMethod (.ref 87) (Str.ofString "search") pl) Q E s := meth_search (X.keeps F.keep _ _ hK) h
theorem search_callK {Q : Value → Shared → Prop} (F : Fr h₀ L s.heap m) (X : K.In h₀) (N : News h₀ L s.heap news) (hK7 : K.lookup 87 = some patObj) (hK6 : K.lookup 86 = some codeObj)
    (hx : x.length ≤ 1000) (h10 : ∀ c ∈ x.cps.toList, c ≠ 10)
    (hno : (∀ q, ¬ HitAt x.cps x.length q) → Q .none s)
    (hyes : ∀ q, HitAt x.cps x.length q → (∀ q', q' < q → ¬ HitAt x.cps x.length q') → ∀ a b h', Fr h₀ L h' m → News h₀ L h' ((a, matchObj x t x.length b) :: (b, spanObj q x.length) :: news) → Q (.ref a) { s with heap := h' }) :
    wpAny (model prog w) A (call (.builtin "re.Pattern.search") [.ref 87, .str x t]) Q E s :=
  search_call F N (X.keeps F.keep _ _ hK7) (X.keeps F.keep _ _ hK6) hx h10 hno hyes
theorem truthy_matchN {Q : Bool → Shared → Prop} (N : News h₀ L s.heap news) (ha : (a, matchObj x u n b) ∈ news) (hq : Q true s) : wpAny (model prog w) A (truthy (.ref a)) Q E s := truthy_match (N.get ha) hq
theorem meth_spanN {pl : Sem Bool} {Q : Value × List Value → Shared → Prop} (N : News h₀ L s.heap news) (ha : (a, matchObj x u n b) ∈ news) (h : Q (.builtin "re.Match.span", [.ref a]) s) :
    wpAny (model prog w) A (getMethod (.ref a) (Str.ofString "span") pl) Q E s := meth_span (N.get ha) h
theorem string_attrN {Q : Value → Shared → Prop} (N : News h₀ L s.heap news) (ha : (a, matchObj x u n b) ∈ news) (hq : Q (.str x u) { s with toks := s.toks + 1 }) : wpAny (model prog w) A (getAttr (.ref a) (Str.ofString "string") true) Q E s := string_attr (N.get ha) hq
theorem span_callN {Q : Value → Shared → Prop} (F : Fr h₀ L s.heap m) (N : News h₀ L s.heap news) (ha : (a, matchObj x u n b) ∈ news) (hb : (b, spanObj q n) ∈ news)
    (h : ∀ D h' k t1 t2, Fr h₀ L h' m → News h₀ L h' ((D, { cls := .type "tuple", data := .seq #[.int (q : Int) t1, .int (n : Int) t2] }) :: news) → Q (.ref D) { s with heap := h', toks := k }) :
    wpAny (model prog w) A (call (.builtin "re.Match.span") [.ref a, .int 0 v]) Q E s := span_call F N (N.get ha) (N.get hb) h
end
end Mine
end

section -- Con1
open PySem PySem.W PyProof.Rows PySem.Calls PySem.Spec
set_option Elab.async false
namespace Mine
set_option maxRecDepth 100000 in
set_option maxHeartbeats 8000000 in
theorem con_address (w : World) (mean : ExcName → Option Value) (mg mb : Str → Option Value) (part : Str) (tk : Tok) (hlen : part.length ≤ 10) :
    Con w mean mg mb 101 [.str part tk] (fun tl r => tl = [] ∧ ∃ t, r = .str (addr part) t) := by
  k_with_none
  k_with "pyIter str" => k_state (fun (pre : List Int) (address : Str) => address = ⟨(pre.map fun c => addrCode (part.cps.toList.getD 0 0) c.toNat).toArray⟩ ∧ address.length = pre.length) "address"
  k_with "state" => first | exact addr_st0 _ | exact addr_st1 (by assumption) (by assumption) (by assumption) (by assumption) | exact addr_st2 (by assumption) (by assumption) (by assumption) (by assumption) (by assumption) | exact addr_st3 (by assumption) (by assumption) (by assumption) (by assumption) (by assumption)
  w_on
  unfold Con
  k_fill
  intro dp un gd cn cs a ccd cl outer A₀ base h₀ L m news s Q E B F X N T hk hd hu hret
  refine wpAny_call ?_
  k_dflt ktr_enter
  k_steps
  refine ret_str (addr_end (by assumption)) ?_
  exact hret _ [] _ _ (by k_asm) (by k_asm) ⟨rfl, _, rfl⟩
end Mine
end

section -- Con3
open PySem PySem.W PyProof.Rows PySem.Calls PySem.Spec
set_option Elab.async false
namespace Mine
set_option maxRecDepth 100000 in
set_option maxHeartbeats 8000000 in
theorem con_liberal (w : World) (mean : ExcName → Option Value) (mg mb : Str → Option Value) (text : Str) (tk : Tok) (hlen : text.length ≤ 10) (h10 : ∀ c ∈ text.cps.toList, c ≠ 10) :
    Con w mean mg mb 94 [.str text tk] (fun tl r => tl = [] ∧ (((∃ q, HitAt text.cps text.length q) ∧ r = .bool false) ∨ ((∀ q, ¬ HitAt text.cps text.length q) ∧ r = .bool true))) := by
  k_with_none
  k_with "getMethod ref" => k_dflt (refine' meth_searchK (K := MineHd.hd.heap_39 w.params) ?k1 ?k2 ?k3 ?_; (case k1 => k_asm); (case k2 => k_asm); (case k3 => k_is))
  k_with "call builtin:re.Pattern.search" => (k_dflt (refine' search_callK (K := MineHd.hd.heap_39 w.params) ?k1 ?k2 ?k3 ?k4 ?k5 ?kx ?k10 ?kno ?kyes; (case k1 => k_asm); (case k2 => k_asm); (case k3 => k_asm); (case k4 => k_is); (case k5 => k_is); (case kx => omega); (case k10 => assumption)); (case' kno => intro hNo); (case' kyes => intro q9 hq9 hm9 a9 b9 h9 F9 N9))
  k_with "truthy ref" => k_dflt (refine' truthy_matchN ?k1 ?k2 ?_; (case k1 => k_asm); (case k2 => k_mem))
  w_on
  unfold Con
  k_fill
  intro dp un gd cn cs a ccd cl outer A₀ base h₀ L m news s Q E B F X N T hk hd hu hret
  refine wpAny_call ?_
  k_dflt ktr_enter
  k_steps
  · refine hret _ [] _ _ (by k_asm) (by refine' cb_drop ?cbN ?cbS; (case cbN => assumption); (case cbS => kcj_all)) ⟨rfl, .inl ⟨⟨_, by assumption⟩, rfl⟩⟩
  · refine hret _ [] _ _ (by k_asm) (by k_asm) ⟨rfl, .inr ⟨by assumption, rfl⟩⟩
end Mine
end

section -- Pl4
open PySem PySem.W PyProof.Rows PySem.Calls PySem.NumText
set_option Elab.async false
namespace Mine
/-! int() of the signs -/
theorem step_bad {c : Nat} (hs : Sgn c) (hd : ¬ (48 ≤ c ∧ c ≤ 57)) (p : Array Nat × Bool) : step 10 p c = none := by
  unfold Sgn at hs
  have : c = 124 ∨ c = 46 ∨ c = 97 ∨ c = 59 := by omega
  rcases this with rfl | rfl | rfl | rfl <;> rfl
theorem fold_bad : ∀ (t : List Nat) (p : Array Nat × Bool), (∀ c ∈ t, Sgn c) → (∃ c ∈ t, ¬ (48 ≤ c ∧ c ≤ 57)) → t.foldlM (step 10) p = none
  | [], _, _, h => by obtain ⟨c, hc, _⟩ := h; exact nomatch hc
  | a :: r, p, hs, h => by
    rw [List.foldlM_cons]
    by_cases ha : 48 ≤ a ∧ a ≤ 57
    · cases hst : step 10 p a with
      | none => rfl
      | some p' =>
        refine fold_bad r p' (fun c hc => hs c (.tail _ hc)) ?_
        obtain ⟨c, hc, hb⟩ := h
        rcases List.mem_cons.mp hc with rfl | hc
        · exact absurd ha hb
        · exact ⟨c, hc, hb⟩
    · rw [step_bad (hs a (.head _)) ha]; rfl
theorem Sgn.ge {c : Nat} (h : Sgn c) : 46 ≤ c := by unfold Sgn at h; omega
theorem drop_plain {t : List Nat} (h : ∀ c ∈ t, Sgn c) : t.dropWhile blank = t := by
  cases t with
  | nil => rfl
  | cons a r => exact dropWhile_of (by have := (h a (.head _)).ge; omega)
theorem sign_plain {t : List Nat} (h : ∀ c ∈ t, Sgn c) : sign t = (false, t) := by
  cases t with
  | nil => rfl
  | cons a r => have := (h a (.head _)).ge; exact sign_of (by omega) (by omega)
theorem core_plain {t : List Nat} (h : ∀ c ∈ t, Sgn c) : core t = t := by
  unfold core
  rw [drop_plain h, sign_plain h]
  show ((t.reverse).dropWhile blank).reverse = t
  rw [drop_plain (fun c hc => h c (List.mem_reverse.mp hc)), List.reverse_reverse]
theorem int_none {x : Str} (h : ∀ c ∈ x.cps.toList, Sgn c) (hn : ¬ (AllDigits x.cps.toList ∧ x.cps.toList ≠ [])) : PySem.intText? x = none := by
  have e1 : numTextOf x = x.cps.toList := by
    unfold numTextOf
    rw [if_pos]
    rw [Array.all_eq_true']
    intro c hc
    have := (h c (by simpa using hc)).small
    simpa using this
  have e2 : numSeenOf x = x.cps.toList := by
    show (numTextOf x).takeWhile (· != 0) = _
    rw [e1]
    exact takeWhile_all fun c hc => by have := (h c hc).ge; simp; omega
  have e3 : digits? 10 x.cps.toList = none := by
    cases hx : x.cps.toList with
    | nil => rfl
    | cons a r =>
      have : ∃ c ∈ x.cps.toList, ¬ (48 ≤ c ∧ c ≤ 57) := by
        refine Classical.byContradiction fun hno => hn ⟨fun c hc => ?_, by rw [hx]; simp⟩
        exact Classical.byContradiction fun hb => hno ⟨c, hc, hb⟩
      rw [← hx]
      unfold digits?
      rw [fold_bad _ _ h this]; rfl
  unfold PySem.intText?
  rw [e1, e2, core_plain h, e3]
  split <;> rfl
end Mine
end

section -- Pl5
open PySem PySem.W PyProof.Rows PySem.Calls PySem.NumText
set_option Elab.async false
namespace Mine
theorem cnt_count (c : Nat) : ∀ l : List Nat, cnt c l = (l.count c : Int)
  | [] => rfl
  | a :: r => by
    rw [cnt_cons, cnt_count c r, List.count_cons]
    by_cases h : a = c
    · simp [h]; omega
    · simp [h]
theorem addr_list (part : Str) : (addr part).cps.toList = part.cps.toList.map (addrCode (part.cps.toList.getD 0 0)) := by simp [addr]
theorem code46 {mk c : Nat} : addrCode mk c = 46 ↔ c = mk := by
  unfold addrCode
  split
  · simp [*]
  · split
    · rename_i h1 h2; simp; exact h1
    · rename_i h1 h2; simp [h1, h2]
theorem count_map (mk : Nat) : ∀ l : List Nat, (l.map (addrCode mk)).count 46 = l.count mk
  | [] => rfl
  | a :: r => by
    rw [List.map_cons, List.count_cons, List.count_cons, count_map mk r]
    by_cases h : a = mk
    · simp [h, code46.mpr rfl]
    · have : ¬ addrCode mk a = 46 := fun e => h (code46.mp e)
      simp [h, this]
theorem count_addr (part : Str) : Txt.count (addr part) (Str.ofString ".") = (part.cps.toList.count (part.cps.toList.getD 0 0) : Int) := by
  have e : Str.ofString "." = ⟨#[46]⟩ := by decide +kernel
  rw [e, count_cnt, cnt_count, addr_list, count_map]
theorem pcs_len (part : Str) : ((pcs part).length : Int) = 1 + (part.cps.toList.count (fst part.cps.toList) : Int) := by
  rw [pcs, split_len, cnt_count]
theorem fst_cons {p : List Nat} {c : Nat} {r : List Nat} (h : p = c :: r) : fst p = c ∧ p.getD 0 0 = c := by subst h; exact ⟨rfl, rfl⟩
theorem slice_last {x : Str} {l : List Nat} {c : Nat} (h : x.cps.toList = l ++ [c]) : Txt.slice x (some (-1)) none = ⟨#[c]⟩ := by
  have hl : x.length = l.length + 1 := by have := congrArg List.length h; simpa [Str.length] using this
  have e1 : Builtin.Str.strSliceIndices (some (-1)) none 1 x.length = Builtin.Str.strSliceIndices (some (l.length : Int)) none 1 x.length := by
    unfold Builtin.Str.strSliceIndices
    dsimp only
    rw [if_pos (by decide : (-1 : Int) < 0), if_neg (by omega : ¬ (l.length : Int) < 0)]
    have : -1 + (x.length : Int) = l.length := by omega
    rw [this]
  have e : Txt.slice x (some (-1)) none = Txt.slice x (some (l.length : Int)) none := by unfold Txt.slice; rw [e1]
  rw [e]
  have := StrLaws.sliceText_from (x := x) (i := (l.length : Int)) ⟨by omega, by rw [h]; simp; omega⟩
  show StrLaws.sliceText x _ _ = _
  rw [this, h]
  simp
theorem slice_butlast {x : Str} {l : List Nat} {c : Nat} (h : x.cps.toList = l ++ [c]) : Txt.slice x none (some (-1)) = ⟨l.toArray⟩ := by
  have hl : x.length = l.length + 1 := by have := congrArg List.length h; simpa [Str.length] using this
  have e1 : Builtin.Str.strSliceIndices none (some (-1)) 1 x.length = Builtin.Str.strSliceIndices none (some (l.length : Int)) 1 x.length := by
    unfold Builtin.Str.strSliceIndices
    dsimp only
    rw [if_pos (by decide : (-1 : Int) < 0), if_neg (by omega : ¬ (l.length : Int) < 0)]
    have : -1 + (x.length : Int) = l.length := by omega
    rw [this]
  have e : Txt.slice x none (some (-1)) = Txt.slice x none (some (l.length : Int)) := by unfold Txt.slice; rw [e1]
  rw [e]
  have := StrLaws.sliceText_to (x := x) (j := (l.length : Int)) ⟨by omega, by rw [h]; simp; omega⟩
  show StrLaws.sliceText x _ _ = _
  rw [this, h]
  simp
theorem slice_empty {x : Str} (h : x.cps.toList = []) (l u : Option Int) : Txt.slice x l u = ⟨#[]⟩ := by
  have hc : ∀ c ∈ (Txt.slice x l u).cps.toList, c ∈ ([] : List Nat) := fun c hc => h ▸ slice_mem c hc
  have : (Txt.slice x l u).cps.toList = [] := List.eq_nil_iff_forall_not_mem.mpr fun c hm => nomatch hc c hm
  exact str_eq_mk this
theorem snoc_of_ne {l : List Nat} (h : l ≠ []) : ∃ i c, l = i ++ [c] := ⟨l.dropLast, l.getLast h, (List.dropLast_concat_getLast h).symm⟩
theorem lst_snoc (i : List Nat) (c : Nat) : lst (i ++ [c]) = c := by
  have h : (40 :: (i ++ [c])).getLast? = some c := by
    have : (40 :: (i ++ [c])) = (40 :: i) ++ [c] := rfl
    rw [this, List.getLast?_concat]
  rw [List.getLast?_eq_some_getLast (by simp)] at h
  exact Option.some.inj h
/-- the address ends in a point just if the text's first sign is its last -/
theorem ends_iff (part : Str) : (Txt.slice (addr part) (some (-1)) none != Str.ofString ".") = false ↔ fst part.cps.toList = lst part.cps.toList := by
  have e : Str.ofString "." = ⟨#[46]⟩ := by decide +kernel
  rw [e]
  cases hp : part.cps.toList with
  | nil =>
    rw [slice_empty (by rw [addr_list, hp]; rfl)]
    constructor
    · intro h; exact absurd h (by decide)
    · intro h; exact absurd h (by decide)
  | cons c r =>
    obtain ⟨i, d, hd⟩ := snoc_of_ne (l := c :: r) (by simp)
    have ha : (addr part).cps.toList = i.map (addrCode c) ++ [addrCode c d] := by rw [addr_list, hp]; show (c :: r).map (addrCode c) = _; rw [hd]; simp
    rw [slice_last ha, hd, lst_snoc]
    have hf : fst (i ++ [d]) = c := by rw [← hd]; rfl
    rw [hf]
    show (!((⟨#[addrCode c d]⟩ : Str) == ⟨#[46]⟩)) = false ↔ _
    rw [beq1]
    constructor
    · intro h; exact (code46.mp (by simpa using h)).symm
    · intro h; simp [code46.mpr h.symm]
theorem told_ne {part : Str} (h : (Txt.slice (addr part) (some (-1)) none != Str.ofString ".") = true) : ans part = .marks := by
  have : ¬ fst part.cps.toList = lst part.cps.toList := fun e => by rw [(ends_iff part).mpr e] at h; cases h
  unfold ans; rw [if_neg this]
theorem ends_cons {part : Str} (h : (Txt.slice (addr part) (some (-1)) none != Str.ofString ".") = false) : ∃ c r, part.cps.toList = c :: r := by
  have := (ends_iff part).mp h
  cases hp : part.cps.toList with
  | nil => rw [hp] at this; exact absurd this (by decide)
  | cons c r => exact ⟨c, r, rfl⟩
theorem told_count {part : Str} (h : (Txt.slice (addr part) (some (-1)) none != Str.ofString ".") = false) (hc : Txt.count (addr part) (Str.ofString ".") ≠ 4) : ans part = .marks := by
  obtain ⟨c, r, hp⟩ := ends_cons h
  rw [count_addr, hp] at hc
  have h5 := pcs_len part
  rw [hp] at h5
  have : ¬ (pcs part).length = 5 := fun e => hc (by
    show (((c :: r).count c : Nat) : Int) = 4
    have h5' : ((pcs part).length : Int) = 1 + (((c :: r).count c : Nat) : Int) := h5
    omega)
  unfold ans; rw [if_neg this]; split <;> rfl
end Mine
end

section -- Pl6
open PySem PySem.W PyProof.Rows PySem.Calls PySem.NumText
set_option Elab.async false
namespace Mine
theorem list5 {l : List Str} (h : l.length = 5) : ∃ a b c d e, l = [a, b, c, d, e] := by
  match l, h with
  | [a, b, c, d, e], _ => exact ⟨a, b, c, d, e, rfl⟩
/-- a text of four marks, the first and the last sign among them -/
theorem five {part : Str} {c : Nat} (hf : fst part.cps.toList = c) (hl : lst part.cps.toList = c) (hc : part.cps.toList.count c = 4) :
    ∃ b d e : List Nat, part.cps.toList = c :: (b ++ c :: (d ++ c :: (e ++ [c]))) ∧ c ∉ b ∧ c ∉ d ∧ c ∉ e ∧ (pcs part).length = 5 ∧ ((pcs part).getD 3 ⟨#[]⟩).cps.toList = e := by
  have h5 : (pcs part).length = 5 := by have := pcs_len part; rw [hf, hc] at this; omega
  obtain ⟨w0, w1, w2, w3, w4, hw⟩ := list5 h5
  have hj : Str.join ⟨#[c]⟩ (pcs part) = part := by unfold pcs; rw [hf]; exact StrLaws.join_split part ⟨#[c]⟩
  have hp : part.cps.toList = w0.cps.toList ++ c :: (w1.cps.toList ++ c :: (w2.cps.toList ++ c :: (w3.cps.toList ++ c :: w4.cps.toList))) := by
    have e : Str.join ⟨#[c]⟩ [w0, w1, w2, w3, w4] = w0 ++ ⟨#[c]⟩ ++ (w1 ++ ⟨#[c]⟩ ++ (w2 ++ ⟨#[c]⟩ ++ (w3 ++ ⟨#[c]⟩ ++ w4))) := rfl
    rw [hw, e] at hj
    have := congrArg (fun z : Str => z.cps.toList) hj
    simp only [toList_append] at this
    rw [← this]
    simp
  have hcnt := hc
  rw [hp] at hcnt
  simp only [List.count_append, List.count_cons_self] at hcnt
  have n0 : c ∉ w0.cps.toList := List.count_eq_zero.mp (by omega)
  have n1 : c ∉ w1.cps.toList := List.count_eq_zero.mp (by omega)
  have n2 : c ∉ w2.cps.toList := List.count_eq_zero.mp (by omega)
  have n3 : c ∉ w3.cps.toList := List.count_eq_zero.mp (by omega)
  have n4 : c ∉ w4.cps.toList := List.count_eq_zero.mp (by omega)
  have z0 : w0.cps.toList = [] := by
    cases hz : w0.cps.toList with
    | nil => rfl
    | cons a r =>
      rw [hp, hz] at hf
      have : a = c := hf
      rw [hz, this] at n0
      exact absurd (.head _) n0
  have z4 : w4.cps.toList = [] := by
    cases hz : w4.cps.toList with
    | nil => rfl
    | cons a r =>
      obtain ⟨i, d, hd⟩ := snoc_of_ne (l := w4.cps.toList) (by rw [hz]; simp)
      have e : part.cps.toList = (w0.cps.toList ++ c :: (w1.cps.toList ++ c :: (w2.cps.toList ++ c :: (w3.cps.toList ++ c :: i)))) ++ [d] := by rw [hp, hd]; simp
      rw [e, lst_snoc] at hl
      rw [hd, hl] at n4
      exact absurd (by simp) n4
  refine ⟨w1.cps.toList, w2.cps.toList, w3.cps.toList, ?_, n1, n2, n3, h5, by rw [hw]; rfl⟩
  rw [hp, z0, z4]; rfl
theorem getD_list (x : Str) (i : Nat) : x.cps.getD i 0 = x.cps.toList.getD i 0 := by simp [Array.getD_eq_getD_getElem?, List.getD_eq_getElem?_getD]
theorem dg_all {x : Str} : ∀ (k p : Nat), p + k ≤ x.length → dg x.cps k p = k → ∀ j, j < k → 48 ≤ x.cps.getD (p + j) 0 ∧ x.cps.getD (p + j) 0 ≤ 57
  | 0, _, _, _, j, hj => absurd hj (by omega)
  | k + 1, p, hl, h, j, hj => by
    unfold dg at h
    split at h
    · rename_i hd
      cases j with
      | zero => simpa [Sre.isDigit] using hd
      | succ j =>
        have := dg_all (x := x) k (p + 1) (by omega) (by omega) j (by omega)
        have e : p + (j + 1) = p + 1 + j := by omega
        rw [e]; exact this
    · omega
theorem dg_of {x : Str} : ∀ (k p : Nat), (∀ j, j < k → 48 ≤ x.cps.getD (p + j) 0 ∧ x.cps.getD (p + j) 0 ≤ 57) → dg x.cps k p = k
  | 0, _, _ => rfl
  | k + 1, p, h => by
    have h0 := h 0 (by omega)
    rw [Nat.add_zero] at h0
    have hd : Sre.isDigit (x.cps.getD p 0) = true := by simp only [Sre.isDigit, Bool.and_eq_true, decide_eq_true_eq]; exact h0
    rw [dg, if_pos hd, dg_of k (p + 1) fun j hj => ?_]
    have := h (j + 1) (by omega)
    have e : p + 1 + j = p + (j + 1) := by omega
    rw [e]; exact this
/-- where the pattern fits a text that ends in a point and signs that are none -/
theorem hit_iff {x : Str} {u e : List Nat} (hx : x.cps.toList = u ++ 46 :: e) (he : 46 ∉ e) (q : Nat) :
    HitAt x.cps x.length q ↔ q = u.length ∧ e ≠ [] ∧ AllDigits e := by
  have hl : x.length = u.length + (e.length + 1) := by have := congrArg List.length hx; simpa [Str.length] using this
  have hu : x.cps.getD u.length 0 = 46 := by rw [getD_list, hx]; simp
  have hat : ∀ j, x.cps.getD (u.length + 1 + j) 0 = e.getD j 0 := fun j => by
    rw [getD_list, hx, List.getD_eq_getElem?_getD, List.getD_eq_getElem?_getD, List.getElem?_append_right (by omega)]
    have : u.length + 1 + j - u.length = j + 1 := by omega
    rw [this]; rfl
  constructor
  · rintro ⟨h1, h2, h3⟩
    have hd := dg_all (x := x) (x.length - (q + 1)) (q + 1) (by omega) h3
    rcases Nat.lt_trichotomy q u.length with z | z | z
    · have := hd (u.length - (q + 1)) (by omega)
      have e1 : q + 1 + (u.length - (q + 1)) = u.length := by omega
      rw [e1, hu] at this
      omega
    · subst z
      refine ⟨rfl, fun hz => by rw [hz] at hl; simp at hl; omega, fun c hc => ?_⟩
      obtain ⟨j, hj, rfl⟩ := List.getElem_of_mem hc
      have := hd j (by omega)
      rw [hat j, List.getD_eq_getElem?_getD, List.getElem?_eq_getElem hj] at this
      exact this
    · exfalso
      have e1 : q = u.length + 1 + (q - u.length - 1) := by omega
      rw [e1, hat, List.getD_eq_getElem?_getD] at h2
      have hlt : q - u.length - 1 < e.length := by omega
      rw [List.getElem?_eq_getElem hlt] at h2
      exact he (h2 ▸ List.getElem_mem hlt)
  · rintro ⟨rfl, h2, h3⟩
    have hpos : 0 < e.length := List.length_pos_iff.mpr h2
    refine ⟨by omega, hu, ?_⟩
    refine dg_of _ _ fun j hj => ?_
    rw [hat j, List.getD_eq_getElem?_getD, List.getElem?_eq_getElem (by omega)]
    exact h3 _ (List.getElem_mem _)
theorem code_digit {c n : Nat} (hn : n ≠ c) (h : 48 ≤ addrCode c n ∧ addrCode c n ≤ 57) : addrCode c n = n := by
  unfold addrCode at *
  rw [if_neg hn] at h ⊢
  split at h
  · omega
  · rename_i h46; rw [if_neg h46]
theorem code_of_digit {c n : Nat} (hn : n ≠ c) (h : 48 ≤ n ∧ n ≤ 57) : addrCode c n = n := by
  unfold addrCode
  rw [if_neg hn, if_neg (by omega)]
theorem told_shape {part : Str} (h1 : (Txt.slice (addr part) (some (-1)) none != Str.ofString ".") = false) (hc : Txt.count (addr part) (Str.ofString ".") = 4) :
    ∃ (c : Nat) (u e : List Nat), (cut part).cps.toList = u ++ 46 :: e.map (addrCode c) ∧ 46 ∉ e.map (addrCode c) ∧ (pcs part).length = 5 ∧ ((pcs part).getD 3 ⟨#[]⟩).cps.toList = e ∧
      fst part.cps.toList = lst part.cps.toList ∧ c ∉ e ∧ ∀ n ∈ e, n ∈ part.cps.toList := by
  have hfl := (ends_iff part).mp h1
  obtain ⟨c, r, hp⟩ := ends_cons h1
  have hf : fst part.cps.toList = c := by rw [hp]; rfl
  have hg : part.cps.toList.getD 0 0 = c := by rw [hp]; rfl
  have hcount : part.cps.toList.count c = 4 := by rw [count_addr, hg] at hc; omega
  obtain ⟨b, d, e, hpe, _, _, ne, h5, h3⟩ := five hf (hfl ▸ hf) hcount
  have ha : (addr part).cps.toList = (46 :: (b.map (addrCode c) ++ 46 :: (d.map (addrCode c) ++ 46 :: e.map (addrCode c)))) ++ [46] := by
    rw [addr_list, hg, hpe]
    simp [code46.mpr rfl]
  have hcut : cut part = ⟨(46 :: (b.map (addrCode c) ++ 46 :: (d.map (addrCode c) ++ 46 :: e.map (addrCode c)))).toArray⟩ := slice_butlast ha
  refine ⟨c, 46 :: (b.map (addrCode c) ++ 46 :: d.map (addrCode c)), e, by rw [hcut]; simp, fun hm => ?_, h5, h3, hfl, ne, fun n hn => by rw [hpe]; simp [hn]⟩
  obtain ⟨n, hn, h46⟩ := List.mem_map.mp hm
  exact ne (code46.mp h46 ▸ hn)
theorem told_none {part : Str} (hs : ∀ c ∈ part.cps.toList, Sgn c) (h1 : (Txt.slice (addr part) (some (-1)) none != Str.ofString ".") = false) (hc : Txt.count (addr part) (Str.ofString ".") = 4)
    (hn : ∀ q, ¬ HitAt (cut part).cps (cut part).length q) : ans part = .figs := by
  obtain ⟨c, u, e, hx, he, h5, h3, hfl, hce, hmem⟩ := told_shape h1 hc
  have hi : PySem.intText? ((pcs part).getD 3 ⟨#[]⟩) = none := by
    refine int_none (fun n hn => hs n (hmem n (h3 ▸ hn))) fun hd => ?_
    rw [h3] at hd
    refine hn u.length ((hit_iff hx he _).mpr ⟨rfl, by simp [hd.2], fun m hm => ?_⟩)
    obtain ⟨n, hn', rfl⟩ := List.mem_map.mp hm
    have hnc : n ≠ c := fun z => by rw [z] at hn'; exact hce hn'
    rw [code_of_digit hnc (hd.1 n hn')]
    exact hd.1 n hn'
  unfold ans; rw [if_pos hfl, if_pos h5, hi]
theorem map_id {c : Nat} : ∀ {e : List Nat}, c ∉ e → AllDigits (e.map (addrCode c)) → e.map (addrCode c) = e
  | [], _, _ => rfl
  | a :: r, hc, h => by
    have hac : a ≠ c := fun z => by rw [z] at hc; exact hc (.head _)
    have h' : AllDigits (addrCode c a :: r.map (addrCode c)) := h
    rw [List.map_cons, map_id (fun z => hc (.tail _ z)) h'.tail, code_digit hac h'.head]
theorem len_append (a b : Str) : (a ++ b).length = a.length + b.length := by
  show (Str.append a b).cps.size = _
  simp [Str.append, Str.length]
theorem figs_eq {x : Str} {u e : List Nat} (hx : x.cps.toList = u ++ 46 :: e) :
    Txt.slice x (some (((Txt.slice x none (some (u.length : Int)) ++ Txt.slice x (some (x.length : Int)) none).length : Int) + 1)) none = ⟨e.toArray⟩ := by
  have hl : x.length = u.length + (e.length + 1) := by have := congrArg List.length hx; simpa [Str.length] using this
  have hlen : x.cps.toList.length = x.length := by simp [Str.length]
  have e1 : Txt.slice x none (some (u.length : Int)) = ⟨u.toArray⟩ := by
    have := StrLaws.sliceText_to (x := x) (j := (u.length : Int)) ⟨by omega, by omega⟩
    show StrLaws.sliceText x _ _ = _
    rw [this, hx]; simp
  have e2 : Txt.slice x (some (x.length : Int)) none = ⟨#[]⟩ := by
    have := StrLaws.sliceText_from (x := x) (i := (x.length : Int)) ⟨by omega, by omega⟩
    show StrLaws.sliceText x _ _ = _
    rw [this]; simp [Str.length]
  have e3 : ((Txt.slice x none (some (u.length : Int)) ++ Txt.slice x (some (x.length : Int)) none).length : Int) + 1 = ((u.length + 1 : Nat) : Int) := by
    rw [e1, e2, len_append]; simp [Str.length]
  rw [e3]
  have := StrLaws.sliceText_from (x := x) (i := ((u.length + 1 : Nat) : Int)) ⟨by omega, by omega⟩
  show StrLaws.sliceText x _ _ = _
  rw [this]
  have e4 : ((x.cps.toList.length : Int) - ((u.length + 1 : Nat) : Int)).toNat = e.length := by omega
  rw [e4, hx]
  have e5 : ((u.length + 1 : Nat) : Int).toNat = (u ++ [46]).length := by simp
  have e6 : u ++ 46 :: e = (u ++ [46]) ++ e := by simp
  rw [e5, e6, List.drop_left]
  simp
theorem fold_digits : ∀ (e : List Nat) (a : Nat), AllDigits e → List.foldl (fun T a => T * 10 + Txt.find (Str.ofString "0123456789") a) (a : Int) (e.map fun c => (⟨#[c]⟩ : Str)) = ((e.foldl (fun acc c => acc * 10 + (c - 48)) a : Nat) : Int)
  | [], _, _ => rfl
  | c :: r, a, h => by
    have hc := h.head
    rw [List.map_cons, List.foldl_cons, List.foldl_cons, find_digit (by omega)]
    have e1 : (a : Int) * 10 + ((c : Int) - 48) = ((a * 10 + (c - 48) : Nat) : Int) := by omega
    rw [e1]
    exact fold_digits r _ h.tail
theorem told_hit {part : Str} (hlen : part.length ≤ 10) (h1 : (Txt.slice (addr part) (some (-1)) none != Str.ofString ".") = false) (hc : Txt.count (addr part) (Str.ofString ".") = 4)
    {q : Nat} (hq : HitAt (cut part).cps (cut part).length q) :
    ans part = .val (List.foldl (fun T a => T * 10 + Txt.find (Str.ofString "0123456789") a) 0 (signs (Txt.slice (cut part) (some (((Txt.slice (cut part) none (some (q : Int)) ++ Txt.slice (cut part) (some ((cut part).length : Int)) none).length : Int) + 1)) none))) := by
  obtain ⟨c, u, e, hx, he, h5, h3, hfl, hce, hmem⟩ := told_shape h1 hc
  obtain ⟨rfl, hne, hd⟩ := (hit_iff hx he q).mp hq
  rw [figs_eq hx]
  have hid := map_id hce hd
  rw [hid] at hd hne ⊢
  have hl3 : ((pcs part).getD 3 ⟨#[]⟩).length ≤ 4300 := by
    have hle := part_short (x := part) (y := ⟨#[fst part.cps.toList]⟩) (a := (pcs part).getD 3 ⟨#[]⟩) (by
      rw [List.getD_eq_getElem?_getD, List.getElem?_eq_getElem (by omega)]; exact List.getElem_mem _)
    omega
  have hi : PySem.intText? ((pcs part).getD 3 ⟨#[]⟩) = some ((digitsVal e : Nat) : Int) := by
    have := intText_digits (x := (pcs part).getD 3 ⟨#[]⟩) (by rw [h3]; exact hd) (by rw [h3]; exact hne) hl3
    rw [h3] at this; exact this
  unfold ans; rw [if_pos hfl, if_pos h5, hi]
  have hsig : signs (⟨e.toArray⟩ : Str) = e.map fun c => (⟨#[c]⟩ : Str) := by simp [signs]
  rw [hsig]
  have := fold_digits e 0 hd
  exact congrArg Ans.val this.symm
end Mine
end

section -- Con5
open PySem PySem.W PyProof.Rows PySem.Calls PySem.Spec
set_option Elab.async false
namespace Mine
theorem news_pick4 {h₀ h : Heap} {L : Addr} {x y z z' : Addr × Obj} {news : List (Addr × Obj)} (N : News h₀ L h (x :: y :: z :: z' :: news)) : News h₀ L h ([x] ++ news) := fun p hp => by
  rcases List.mem_cons.mp hp with rfl | hp
  · exact N _ (.head _)
  · exact N _ (.tail _ (.tail _ (.tail _ (.tail _ hp))))
set_option maxRecDepth 100000 in
set_option maxHeartbeats 8000000 in
theorem con_told (w : World) (mean : ExcName → Option Value) (mg mb : Str → Option Value) (part : Str) (tk : Tok) (hlen : part.length ≤ 10) (hsg : ∀ c ∈ part.cps.toList, Sgn c) :
    ConL w mean mg mb 115 [.str part tk] (fun tl r => Res part tl r (ans part)) := by
  k_with_none
  k_with "call ref" => (k_dflt (refine' con_use (con_address w _ _ _ _ _ ?kl) ?k1 ?k2 ?k3 ?k4 ?k5 ?kK ?kd ?ku ?_; (case kl => assumption); (case k1 => k_asm); (case k2 => k_asm); (case k3 => k_asm); (case k4 => k_asm); (case k5 => k_asm); (case kK => exact rfl); (case kd => ktr_room); (case ku => ktr_units)); intro r9 tl9 h9 tk9 F9 N9 R9; obtain ⟨e9, t9, e8⟩ := R9; subst e9 e8; (try dsimp only); simp only [List.nil_append] at N9; have hal9 := addr_len10 hlen)
  k_with "call ref" => (k_dflt (refine' con_use (con_liberal w _ _ _ _ _ ?kl ?k10) ?k1 ?k2 ?k3 ?k4 ?k5 ?kK ?kd ?ku ?_; (case kl => exact cut_len hlen); (case k10 => exact cut_no10 hsg); (case k1 => k_asm); (case k2 => k_asm); (case k3 => k_asm); (case k4 => k_asm); (case k5 => k_asm); (case kK => exact rfl); (case kd => ktr_room); (case ku => ktr_units)); intro r9 tl9 h9 tk9 F9 N9 R9; obtain ⟨e9, R9⟩ := R9; subst e9; simp only [List.nil_append] at N9; have hcl9 := cut_len hlen; rcases R9 with ⟨hq9, e8⟩ | ⟨hq9, e8⟩; all_goals (subst e8; (try dsimp only)))
  k_with "getMethod ref" => first | k_dflt (refine' meth_searchK (K := MineHd.hd.heap_39 w.params) ?k1 ?k2 ?k3 ?_; (case k1 => k_asm); (case k2 => k_asm); (case k3 => k_is)) | k_dflt (refine' meth_spanN ?k1 ?k2 ?_; (case k1 => k_asm); (case k2 => k_mem))
  k_with "call builtin:re.Pattern.search" => (k_dflt (refine' search_callK (K := MineHd.hd.heap_39 w.params) ?k1 ?k2 ?k3 ?k4 ?k5 ?kx ?k10 ?kno ?kyes; (case k1 => k_asm); (case k2 => k_asm); (case k3 => k_asm); (case k4 => k_is); (case k5 => k_is); (case kx => omega); (case k10 => exact cut_no10 hsg)); (case kno => (intro hNo; obtain ⟨q8, hq8⟩ := hq9; exact absurd hq8 (hNo q8))); (case' kyes => intro q7 hq7 hm7 a9 b9 h9 F9 N9))
  k_with "call builtin:re.Match.span" => (k_dflt (refine' span_callN ?k1 ?k2 ?k3 ?k4 ?_; (case k1 => k_asm); (case k2 => k_asm); (case k3 => k_mem); (case k4 => k_mem)); intro D9 h9 k9 t1 t2 F9 N9)
  k_with "getAttr ref" => k_dflt (refine' string_attrN ?k1 ?k2 ?_; (case k1 => k_asm); (case k2 => k_mem))
  w_on
  unfold ConL
  k_fill
  intro cn cs a ccd base h₀ L m news s Q E B F X N T hk hret
  refine wpAny_call ?_
  k_dflt ktr_enter
  k_steps
  · refine hret _ [] _ _ (by k_asm) (by k_asm) ?_
    rw [told_ne (by assumption)]
    exact ⟨rfl, _, rfl⟩
  · refine hret _ [] _ _ (by k_asm) (by k_asm) ?_
    rw [told_count (by assumption) (by assumption)]
    exact ⟨rfl, _, rfl⟩
  · refine hret _ _ _ _ (by k_asm) (news_pick4 (by assumption)) ?_
    rw [told_hit hlen (by assumption) (by assumption) hq7]
    exact ⟨_, _, _, rfl, rfl⟩
  · refine hret _ [] _ _ (by k_asm) (by k_asm) ?_
    rw [told_none hsg (by assumption) (by assumption) hq9]
    exact ⟨rfl, _, rfl⟩
end Mine
end

section -- UL
open PySem PySem.W PyProof.Rows PySem.Calls
set_option Elab.async false
set_option maxRecDepth 100000
namespace Mine
section
variable {prog : Program} {w : World} {A : Around} {s : Shared} {env : Env}
theorem codeU_for {R : Result → Shared → Prop} {target : Expr} {it : Value} {body : List Stmt} (I : Nat → Shared → Prop)
    (turn : ∀ n s, I n s → wpAny (model prog w) A (pyNext it) (fun r s₁ => match r with
      | none => R (.ok .next) s₁
      | some v => wpAny (model prog w) A (assign target env v) (fun _ s₂ => wpU (model prog w) A (execs body env) (fun f s₃ => f = .next ∧ ∃ m, m < n ∧ I m s₃) (fun _ _ => False) s₂) (fun _ _ => False) s₁) (fun _ _ => False) s)
    (n : Nat) (h : I n s) (ht : ∀ v, letOwnedTupleGo target it v = pure () := by intro _; rfl) : codeU (model prog w) A (.forLoop target it body [] env) R s := by
  refine codeU_loop rfl I (fun n s hI => ?_) n h
  show wpU _ _ ((forTurn target it body [] env).onRaise (fun x => do noteFrame x env; theTreesLotGoes x)) _ _ s
  refine wpU_onRaise (wpU_mono (E := fun _ _ => False) (Q := fun fin s' => match fin with
      | .done f => R (.ok f) s'
      | .again c' => (c' = .forLoop target it body [] env ∧ ∃ m, m < n ∧ I m s') ∨ (c'.quiet = true ∧ codeU (model prog w) A c' R s')) ?_ (fun _ _ q => q) fun _ _ q => q.elim)
  simp only [forTurn]
  refine wpU_bindA (wpAny_standAt (wpU_bindA (wpAny_onRaise (wpAny_mono (turn n s hI) (fun r s₁ h₁ => ?_) fun _ _ q => q.elim))))
  cases r with
  | none => exact wpU_pure (.inr ⟨rfl, .of (codeAny_block (wpAny_execs_nil h₁))⟩)
  | some v =>
    refine wpU_bindA (wpAny_of_eq (ht v) ?_)
    refine wpU_bindA (wpAny_mono h₁ (fun _ s₂ h₂ => wpU_bind (wpU_mono h₂ (fun f s₃ h₃ => ?_) fun _ _ q => q)) fun _ _ q => q)
    obtain ⟨rfl, h₃⟩ := h₃
    exact wpU_pure (.inl ⟨rfl, h₃⟩)
abbrev itObj (a n : Int) : Obj := { cls := .type "range_iterator", dict := none, data := .fields #[rawInt a, rawInt n, rawInt 1], slots := #[] }
/-- a for over a range's iterator; no turn leaves -/
theorem codeU_forRange {h₀ : Heap} {R : Result → Shared → Prop} {x : Str} {px : Pos} {body : List Stmt} {I : Addr} {a : Int} {n : Nat} {m : Str → Option Value} {news : List (Addr × Obj)}
    (hh : A.handled = none) (hx : env.kindOf x = some .local) (hp : (env.scope.kind == .class || (env.scope.kind == .module && env.locals != env.globals)) = false)
    (F : Fr h₀ env.locals s.heap m) (N : News h₀ env.locals s.heap ((I, itObj a n) :: news)) (hI : ∀ p ∈ news, p.1 ≠ I) (P : (Str → Option Value) → Prop) (h0 : P m)
    (step : ∀ (i : Nat) tk m₁ h₁ tk₁, i < n → P m₁ → Fr h₀ env.locals h₁ (fun y => if y = x then some (.int (a + i) tk) else m₁ y) → News h₀ env.locals h₁ ((I, itObj (a + i + 1) ((n : Int) - i - 1)) :: news) →
      wpU (model prog w) A (execs body env) (fun f s₂ => f = .next ∧ ∃ h₂ tk₂ m₂, s₂ = { s with heap := h₂, toks := tk₂ } ∧ Fr h₀ env.locals h₂ m₂ ∧ P m₂ ∧ News h₀ env.locals h₂ ((I, itObj (a + i + 1) ((n : Int) - i - 1)) :: news)) (fun _ _ => False) { s with heap := h₁, toks := tk₁ })
    (hR : ∀ h' tk m', Fr h₀ env.locals h' m' → P m' → News h₀ env.locals h' news → R (.ok .next) { s with heap := h', toks := tk }) :
    codeU (model prog w) A (.forLoop (.Name x px) (.ref I) body [] env) R s := by
  refine codeU_for (fun k s' => ∃ h' tk m' i, s' = { s with heap := h', toks := tk } ∧ Fr h₀ env.locals h' m' ∧ P m' ∧ News h₀ env.locals h' ((I, itObj (a + (i : Nat)) ((n : Int) - (i : Nat))) :: news) ∧ i ≤ n ∧ k = n - i) ?_ n
    ⟨s.heap, s.toks, m, 0, rfl, F, h0, by simpa using N, Nat.zero_le _, rfl⟩
  rintro k s' ⟨h', tk, m', i, rfl, F', hP, N', hi, rfl⟩
  obtain ⟨hit', hIL, hnew⟩ := N' _ (.head _)
  have hrest : News h₀ env.locals h' news := fun p hp => N' p (.tail _ hp)
  dsimp only at hit' hIL hnew
  by_cases hlt : i < n
  · refine wpAny_pyNext_range_item hit' (by omega) fun h₁ hit₁ hs₁ => ?_
    dsimp only
    have F₁ : Fr h₀ env.locals h₁ m' := ⟨F'.ns.sameBut hs₁ (Ne.symm hIL), fun b o e => (hs₁.2 b (fun z => by rw [z, hnew] at e; cases e)).trans (F'.keep b o e), F'.above⟩
    refine wpAny_assign_Name (wpAny_storeName_local hx F₁.ns (fun h₂ hn₂ hs₂ => ?_) hp)
    have F₂ := F₁.set hn₂ hs₂
    have e1 : a + (i : Int) + 1 = a + ((i + 1 : Nat) : Int) := by omega
    have e2 : (n : Int) - (i : Int) - 1 = (n : Int) - ((i + 1 : Nat) : Int) := by omega
    have hItObj : h₂.get? I = some (itObj (a + i + 1) ((n : Int) - i - 1)) := (hs₂.2 I hIL).trans hit₁
    have N₂ : News h₀ env.locals h₂ ((I, itObj (a + i + 1) ((n : Int) - i - 1)) :: news) := fun p hp => by
      rcases List.mem_cons.mp hp with rfl | hp
      · exact ⟨hItObj, hIL, hnew⟩
      · obtain ⟨q1, q2, q3⟩ := hrest p hp
        exact ⟨(hs₂.2 _ q2).trans ((hs₁.2 _ (hI p hp)).trans q1), q2, q3⟩
    refine wpU_mono (step i _ m' h₂ _ hlt hP F₂ N₂) (fun f s₃ h₃ => ?_) fun _ _ e => e
    obtain ⟨rfl, h₃', tk₃, m₂, rfl, F₃, P₃, N₃⟩ := h₃
    rw [e1, e2] at N₃
    exact ⟨rfl, n - (i + 1), by omega, h₃', tk₃, m₂, i + 1, rfl, F₃, P₃, N₃, hlt, rfl⟩
  · have hin : i = n := by omega
    subst hin
    refine wpAny_pyNext_range_end hh hit' (by omega) fun h₁ he₁ => ?_
    have F₁ : Fr h₀ env.locals h₁ m' := ⟨F'.ns.extBut he₁ (Ne.symm hIL), fun b o e => he₁ b o (fun z => by rw [z, hnew] at e; cases e) (F'.keep b o e), F'.above⟩
    refine hR h₁ tk m' F₁ hP fun p hp => ?_
    obtain ⟨q1, q2, q3⟩ := hrest p hp
    exact ⟨he₁ _ _ (hI p hp) q1, q2, q3⟩
end
end Mine
end

section -- UL2
open PySem PySem.W PyProof.Rows PySem.Calls
set_option Elab.async false
set_option maxRecDepth 100000
namespace Mine
section
variable {prog : Program} {w : World} {A : Around} {E : Value → Shared → Prop} {s : Shared} {env : Env}
theorem mark_none (A : Around) : A.mark none = A := rfl
theorem wpU_For {M : Model} {target iter : Expr} {body : List Stmt} {pos : Pos} {Q : Flow → Shared → Prop}
    (h : wpAny M A (eval iter env) (fun x s₁ => wpAny M A (pyIter x) (fun it s₂ =>
      codeU M A (.forLoop target it body [] env) (fun r s' => match r with | .ok f => Q f s' | .error _ => False) s₂) E s₁) E s)
    (hs : ∀ x, foldedSetIterable iter env x = pure x := by intro _; rfl) :
    wpU M A (exec (.For target iter body [] pos) env) Q E s := by
  rw [exec_For]
  refine wpU_bindA (wpAny_standAt (wpU_bindA (wpAny_mono h (fun x s₁ h₁ => wpU_bindA (wpAny_of_eq (hs x) (wpU_bindA (wpAny_standAt (wpU_bindA (wpAny_holding
    (wpAny_mono h₁ (fun it s₂ h₂ => ?_) fun _ _ h' => h'))))))) fun _ _ h' => h')))
  unfold runOwn
  refine wpU_onRaise (wpU_mono (E := fun _ _ => False) (wpU_run (h := none) ?_ (by intro x; cases x)) (fun _ _ q => q) fun _ _ q => q.elim)
  rw [mark_none]
  exact h₂
theorem range_small {a b : Int} (ha : 0 ≤ a) (hb : a ≤ b) (hb2 : b ≤ 1000) : Builtin.Range.small a b 1 = true ∧ Builtin.Range.rangeSize a b 1 = b - a := by
  have hsz : Builtin.Range.rangeSize a b 1 = b - a := by
    unfold Builtin.Range.rangeSize
    by_cases h : a < b
    · simp [h]
    · have : a = b := by omega
      simp [this]
  refine ⟨?_, hsz⟩
  unfold Builtin.Range.small
  rw [hsz]
  simp [Builtin.Range.rangeFitsLong]
  omega
end
end Mine
end

section -- UL3
open PySem PySem.W PyProof.Rows PySem.Calls
set_option Elab.async false
set_option maxRecDepth 100000
namespace Mine
theorem codeU_law {prog : Program} {w : World} {A : Around} {s : Shared} {R : Result → Shared → Prop} {name : Str} {params : Arguments} {body : List Stmt} {scope : Scope} {pm cd doc dV kV : Value} {a : Addr} {o : Obj} {args : Args} {binds : List (Str × Value)}
    (hroom : A.depth < recursionLimit) (ho : s.heap.get? a = some o) (hdata : o.data = .func { docDef name params body scope pm cd doc with defaults := dV, kwdefaults := kV }) (hlim : s.heap.NoLimit) (hcd : s.heap.CodeRec cd name)
    (hbind : BindsTo s { docDef name params body scope pm cd doc with defaults := dV, kwdefaults := kV } args binds) (hloc : ∀ x ∈ binds, scope.names.lookup x.1 = some .local)
    (h : ∀ h₁, Fr s.heap s.heap.objs.size h₁ (fun x => binds.reverse.lookup x) →
      wpU (model prog w) (A.deeper (envOf name scope s.heap.objs.size a cd)) (execs body (envOf name scope s.heap.objs.size a cd)) (fun f s' => R (.ok (.ret (match f with | .ret v => v | _ => .none))) s')
        (fun _ _ => False) { s with heap := h₁, toks := s.toks + binds.length })
    (hcell : ∀ x ∈ scope.names, x.2 ≠ .cell) (hco : scope.isCoroutine = false) (hgen : scope.isGenerator = false) (hk : scope.kind = .function) :
    codeU (model prog w) A (.call (.ref a) args) R s :=
  codeU_call_def (fd := { docDef name params body scope pm cd doc with defaults := dV, kwdefaults := kV }) (body := body) (binds := binds) hroom ho hdata hlim hcd rfl hbind hcell hloc
    (fun h₁ hns hk₁ => wpU_mono (h h₁ ⟨hns, fun b o e => hk₁ b o e, Nat.le_refl _⟩) (fun _ _ q => q) fun _ _ q => q.elim) hco hgen hk
end Mine
end

section -- UL4
open PySem PySem.W PyProof.Rows PySem.Calls
set_option Elab.async false
namespace Mine
/-- a map of names but for three of them -/
def Over (m0 m : Str → Option Value) : Prop := ∃ a b c : Option Value, m = fun y => if y = Str.ofString "start" then a else if y = Str.ofString "end" then b else if y = Str.ofString "part" then c else m0 y
theorem Over.refl (m0 : Str → Option Value) : Over m0 m0 := ⟨m0 (Str.ofString "start"), m0 (Str.ofString "end"), m0 (Str.ofString "part"), funext fun y => by
  by_cases h1 : y = Str.ofString "start"
  · rw [if_pos h1, h1]
  · rw [if_neg h1]
    by_cases h2 : y = Str.ofString "end"
    · rw [if_pos h2, h2]
    · rw [if_neg h2]
      by_cases h3 : y = Str.ofString "part"
      · rw [if_pos h3, h3]
      · rw [if_neg h3]⟩
theorem Over.set {m0 m : Str → Option Value} (h : Over m0 m) {x : Str} (hx : x = Str.ofString "start" ∨ x = Str.ofString "end" ∨ x = Str.ofString "part") (v : Option Value) : Over m0 (fun y => if y = x then v else m y) := by
  obtain ⟨a, b, c, rfl⟩ := h
  have h12 : Str.ofString "end" ≠ Str.ofString "start" := by decide +kernel
  have h13 : Str.ofString "part" ≠ Str.ofString "start" := by decide +kernel
  have h23 : Str.ofString "part" ≠ Str.ofString "end" := by decide +kernel
  rcases hx with rfl | rfl | rfl
  · exact ⟨v, b, c, funext fun y => by by_cases h : y = Str.ofString "start" <;> simp [h]⟩
  · refine ⟨a, v, c, funext fun y => ?_⟩
    by_cases h : y = Str.ofString "end"
    · subst h; simp [h12]
    · simp [h]
  · refine ⟨a, b, v, funext fun y => ?_⟩
    by_cases h : y = Str.ofString "part"
    · subst h; simp [h13, h23]
    · simp [h]
/-- a map of names but for two of them -/
def Over2 (m0 m : Str → Option Value) : Prop := ∃ b c : Option Value, m = fun y => if y = Str.ofString "end" then b else if y = Str.ofString "part" then c else m0 y
theorem Over2.refl (m0 : Str → Option Value) : Over2 m0 m0 := ⟨m0 (Str.ofString "end"), m0 (Str.ofString "part"), funext fun y => by
  by_cases h2 : y = Str.ofString "end"
  · rw [if_pos h2, h2]
  · rw [if_neg h2]
    by_cases h3 : y = Str.ofString "part"
    · rw [if_pos h3, h3]
    · rw [if_neg h3]⟩
theorem Over2.over {m0 m : Str → Option Value} (h : Over2 m0 m) {m1 : Str → Option Value} (h0 : Over m1 m0) : Over m1 m := by
  obtain ⟨b, c, rfl⟩ := h
  obtain ⟨a', b', c', rfl⟩ := h0
  have h12 : Str.ofString "end" ≠ Str.ofString "start" := by decide +kernel
  have h13 : Str.ofString "part" ≠ Str.ofString "start" := by decide +kernel
  refine ⟨a', b, c, funext fun y => ?_⟩
  by_cases h1 : y = Str.ofString "start"
  · subst h1; simp [h12.symm, h13.symm]
  · by_cases h2 : y = Str.ofString "end"
    · subst h2; simp [h12]
    · by_cases h3 : y = Str.ofString "part"
      · subst h3; simp [h1, h2]
      · simp [h1, h2, h3]
theorem Over2.set2 {m0 m : Str → Option Value} (h : Over2 m0 m) (v p : Option Value) : Over2 m0 (fun y => if y = Str.ofString "part" then p else if y = Str.ofString "end" then v else m y) := by
  obtain ⟨b, c, rfl⟩ := h
  have h23 : Str.ofString "part" ≠ Str.ofString "end" := by decide +kernel
  refine ⟨v, p, funext fun y => ?_⟩
  by_cases h2 : y = Str.ofString "end"
  · subst h2; simp [h23.symm]
  · by_cases h3 : y = Str.ofString "part"
    · subst h3; simp [h2]
    · simp [h2, h3]
theorem news_new {h₀ h : Heap} {L : Addr} {news : List (Addr × Obj)} (N : News h₀ L h news) : ∀ p ∈ news, p.1 ≠ h.objs.size := fun p hp => Nat.ne_of_lt (Heap.lt_size (N p hp).1)
end Mine
end

section -- Sg
open PySem PySem.W PyProof.Rows PySem.Calls
set_option Elab.async false
namespace Mine
def sg (n : Int) : Nat := (Str.ofString "70|.a1;").cps.getD (Int.fmod n 7).toNat 0
theorem sg_item (n : Int) : Txt.item (Str.ofString "70|.a1;") (Int.fmod n 7) = ⟨#[sg n]⟩ ∧ 0 ≤ Int.fmod n 7 ∧ Int.fmod n 7 < 7 ∧ Sgn (sg n) := by
  have h1 : 0 ≤ Int.fmod n 7 := Int.fmod_nonneg_of_pos n (by decide)
  have h2 : Int.fmod n 7 < 7 := Int.fmod_lt_of_pos n (by decide)
  refine ⟨?_, h1, h2, ?_⟩
  · unfold sg
    generalize Int.fmod n 7 = k at *
    have : k = 0 ∨ k = 1 ∨ k = 2 ∨ k = 3 ∨ k = 4 ∨ k = 5 ∨ k = 6 := by omega
    rcases this with rfl | rfl | rfl | rfl | rfl | rfl | rfl <;> decide +kernel
  · unfold sg
    generalize Int.fmod n 7 = k at *
    have : k = 0 ∨ k = 1 ∨ k = 2 ∨ k = 3 ∨ k = 4 ∨ k = 5 ∨ k = 6 := by omega
    rcases this with rfl | rfl | rfl | rfl | rfl | rfl | rfl <;> (unfold Sgn; decide +kernel)
theorem sign_tail {prog : Program} {w : World} {A : Around} {E : Value → Shared → Prop} {s : Shared} {Q : Value → Shared → Prop} {value slice : Expr} {t u : Tok} {n : Int}
    (h : Q (.str ⟨#[sg n]⟩ s.toks) { s with toks := s.toks + 1 })
    (hs : subscripted slice false (Value.str (Str.ofString "70|.a1;") t) (Value.int (Int.fmod n 7) u) = operate [Value.str (Str.ofString "70|.a1;") t, Value.int (Int.fmod n 7) u] (getItem (Value.str (Str.ofString "70|.a1;") t) (Value.int (Int.fmod n 7) u)) := by rfl)
    (ht : ∀ r, letTemporaryGo value (Value.str (Str.ofString "70|.a1;") t) r = pure () := by intro _; rfl) :
    wpAny (model prog w) A (subscriptTail value slice (.str (Str.ofString "70|.a1;") t) (.int (Int.fmod n 7) u)) Q E s := by
  obtain ⟨e, h1, h2, _⟩ := sg_item n
  have hl : (Str.ofString "70|.a1;").length = 7 := by decide +kernel
  exact item_str (fitsSsize_of (N := 9223372036854775808) (by omega) (by omega) (Int.le_refl _)) (by omega) (by omega) (fun _ => e ▸ h) hs ht
abbrev Tx (ns : List Int) : Str := Str.ofString "|||" ++ Txt.join (Str.ofString "") (List.map (fun a => (⟨#[sg a]⟩ : Str)) ns) ++ Str.ofString "|"
theorem join_list : ∀ ns : List Int, (Txt.join (Str.ofString "") (List.map (fun a => (⟨#[sg a]⟩ : Str)) ns)).cps.toList = ns.map sg := by
  intro ns
  show (Builtin.Str.glued (Str.ofString "") _).cps.toList = _
  rw [StrLaws.glued_eq_join]
  have h0 : (Str.ofString "").cps.toList = [] := by decide +kernel
  induction ns with
  | nil => rfl
  | cons a r ih =>
    cases r with
    | nil => rfl
    | cons b r =>
      have e : Str.join (Str.ofString "") (List.map (fun a => (⟨#[sg a]⟩ : Str)) (a :: b :: r)) = (⟨#[sg a]⟩ : Str) ++ Str.ofString "" ++ Str.join (Str.ofString "") (List.map (fun a => (⟨#[sg a]⟩ : Str)) (b :: r)) := rfl
      rw [e]
      have ta : ∀ x y : Str, (x ++ y).cps.toList = x.cps.toList ++ y.cps.toList := fun x y => by
        show (Str.append x y).cps.toList = _
        simp [Str.append]
      rw [ta, ta, h0, ih]
      simp
theorem tx_list (ns : List Int) : (Tx ns).cps.toList = [124, 124, 124] ++ (ns.map sg ++ [124]) := by
  have ta : ∀ x y : Str, (x ++ y).cps.toList = x.cps.toList ++ y.cps.toList := fun x y => by
    show (Str.append x y).cps.toList = _
    simp [Str.append]
  have e1 : (Str.ofString "|||").cps.toList = [124, 124, 124] := by decide +kernel
  have e2 : (Str.ofString "|").cps.toList = [124] := by decide +kernel
  rw [ta, ta, join_list, e1, e2]; simp
theorem tx_ok {ns : List Int} (h : ns.length ≤ 6) : (Tx ns).length ≤ 10 ∧ ∀ c ∈ (Tx ns).cps.toList, Sgn c := by
  have hl : (Tx ns).length = (Tx ns).cps.toList.length := by simp [Str.length]
  refine ⟨by rw [hl, tx_list]; simp; omega, fun c hc => ?_⟩
  rw [tx_list] at hc
  simp only [List.mem_append, List.mem_cons, List.not_mem_nil, or_false, List.mem_map] at hc
  rcases hc with hc | ⟨n, _, rfl⟩ | hc
  · unfold Sgn; omega
  · exact (sg_item n).2.2.2
  · unfold Sgn; omega
end Mine
end

section -- UL5
open PySem PySem.W PyProof.Rows PySem.Calls
set_option Elab.async false
namespace Mine
theorem sgn_strOk {p : Str} (h : ∀ c ∈ p.cps.toList, Sgn c) : PyData.strOk p = true := by
  unfold PyData.strOk
  rw [Array.all_eq_true']
  intro c hc
  have := (h c (Array.mem_toList_iff.mpr hc)).small
  exact decide_eq_true (by omega)
theorem ne_pairs {prog : Program} {w : World} {A : Around} {E : Value → Shared → Prop} {s : Shared} {Q : Value → Shared → Prop} {a b : Addr} {part : Str} {n : Int} {t u t' u' : Tok}
    (ha : s.heap.get? a = some (pair part n t u)) (hb : s.heap.get? b = some (pair part n t' u')) (hsg : PyData.strOk part = true) (hu : A.units + 64 < cLine) (h : Q (.bool false) s) :
    wpAny (model prog w) A (compareOp .NotEq (.ref a) (.ref b)) Q E s := by
  refine ne_dataH (da := .tuple [.str part, .int n]) (db := .tuple [.str part, .int n]) (reads_tuple_at ha rfl rfl (.cons (.str _ _) (.cons (.int _ _) .nil))) (reads_tuple_at hb rfl rfl (.cons (.str _ _) (.cons (.int _ _) .nil))) (by simp [SeqAt.shaped, PyData.canLay0, PyData.canLayAll0, PyData.depth, PyData.depthAll, hsg]) (by simp [SeqAt.shaped, PyData.canLay0, PyData.canLayAll0, PyData.depth, PyData.depthAll, hsg]) hu ?_
  simpa [PyData.eqv, PyData.eqvAll] using h
/-- both sides of the law's question, by one answer: they do not differ -/
theorem cmp_res {prog : Program} {w : World} {A : Around} {E : Value → Shared → Prop} {s : Shared} {Q : Value → Shared → Prop} {h₀ : Heap} {L : Addr} {part : Str} {an : Ans} {tl tl' news : List (Addr × Obj)} {r r' : Value}
    (R : Res part tl r an) (R' : Res part tl' r' an) (N : News h₀ L s.heap (tl' ++ (tl ++ news))) (hsg : PyData.strOk part = true) (hu : A.units + 64 < cLine) (h : Q (.bool false) s) :
    wpAny (model prog w) A (compareOp .NotEq r r') Q E s := by
  cases an with
  | marks =>
    obtain ⟨rfl, t, rfl⟩ := R
    obtain ⟨rfl, t', rfl⟩ := R'
    exact ne_str (by simpa using h)
  | figs =>
    obtain ⟨rfl, t, rfl⟩ := R
    obtain ⟨rfl, t', rfl⟩ := R'
    exact ne_str (by simpa using h)
  | val n =>
    obtain ⟨a, t, u, rfl, rfl⟩ := R
    obtain ⟨b, t', u', rfl, rfl⟩ := R'
    exact ne_pairs (N.get (o := pair part n t u) (.tail _ (.head _))) (N.get (o := pair part n t' u') (.head _)) hsg hu h
theorem news_drop2 {h₀ h : Heap} {L : Addr} {tl tl' news : List (Addr × Obj)} (N : News h₀ L h (tl' ++ (tl ++ news))) : News h₀ L h news := fun p hp => N p (by simp [hp])
/-- two statements that go on, and what holds behind them -/
theorem wpU_execs_cut2 {M : Model} {A : Around} {E : Value → Shared → Prop} {s : Shared} {env : Env} {st st' : Stmt} {rest : List Stmt} {Q : Flow → Shared → Prop} (I : Shared → Prop)
    (h : wpU M A (exec st env) (fun f s₁ => match f with | .next => wpU M A (exec st' env) (fun f s₂ => match f with | .next => I s₂ | _ => False) E s₁ | _ => False) E s)
    (hr : ∀ s', I s' → wpU M A (execs rest env) Q E s') : wpU M A (execs (st :: st' :: rest) env) Q E s := by
  refine wpU_execs_cons (wpU_mono h (fun f s₁ h₁ => ?_) fun _ _ x => x)
  cases f with
  | next => 
    refine wpU_execs_cons (wpU_mono h₁ (fun f s₂ h₂ => ?_) fun _ _ x => x)
    cases f with
    | next => exact hr _ h₂
    | _ => exact h₂.elim
  | _ => exact h₁.elim
/-- what holds behind the law's first two statements -/
def LawI (s₁ s' : Shared) : Prop := ∃ (T : Str) (tkT : Tok) (m0 : Str → Option Value) (news : List (Addr × Obj)) (h : Heap) (tk : Nat), T.length ≤ 10 ∧ (∀ c ∈ T.cps.toList, Sgn c) ∧
  Fr s₁.heap s₁.heap.objs.size h (fun y => if y = Str.ofString "text" then some (.str T tkT) else m0 y) ∧ News s₁.heap s₁.heap.objs.size h news ∧ s' = { s₁ with heap := h, toks := tk }
theorem LawI.of {s₁ : Shared} {T : Str} {tkT : Tok} {m0 : Str → Option Value} {news : List (Addr × Obj)} {h : Heap} {tk : Nat} (F : Fr s₁.heap s₁.heap.objs.size h (fun y => if y = Str.ofString "text" then some (.str T tkT) else m0 y))
    (N : News s₁.heap s₁.heap.objs.size h news) (hT : T.length ≤ 10 ∧ ∀ c ∈ T.cps.toList, Sgn c) : LawI s₁ { s₁ with heap := h, toks := tk } := ⟨T, tkT, m0, news, h, tk, hT.1, hT.2, F, N, rfl⟩
end Mine
end

section -- Law
open PySem PySem.W PyProof.Rows PySem.Calls
set_option Elab.async false
namespace Mine
theorem len_short {prog : Program} {w : World} {A : Around} {E : Value → Shared → Prop} {s : Shared} {Q : Value → Shared → Prop} {x : Str} {t : Tok} (hx : x.length ≤ 10) (h : Q (.int x.length (s.toks + 1)) { s with toks := s.toks + 1 + 1 }) :
    wpAny (model prog w) A (call (.builtin "len") [.str x t]) Q E s := SBL.len (by omega) h
local macro_rules | `(tactic| walk_at "call builtin:len") => `(tactic| (k_here; k_dflt (refine len_short (by assumption) ?_)))
local macro_rules | `(tactic| walk_at "CompSrc") => `(tactic| (k_here; k_dflt (refine LCg.CompSrc.ledger (by rfl) (by k_asm) (by k_asm) (by k_mem) (by kcf_size) ?_; intro g'; (refine' kct_list (fun n => (⟨#[sg n]⟩ : Str)) (by first | assumption | l_ints) (fun k' t' I' oI' C' oC' D' m' ys' h' tk' E' hk' hC' hx' F' N' off' ne' => ?_) ?_); (all_goals (try (simp only [LCg.Off3, and_true] at off'))); (all_goals (try ((show KPfMark → _); intro hMark'))); kcf_last)))
local macro_rules | `(tactic| walk_at "KCtEl") => `(tactic| (refine kct_el ?kce (by with_unfolding_all rfl) (by with_unfolding_all rfl); (case kce => exact (sg_item _).1.symm)))
local macro_rules | `(tactic| walk_at "call builtin:str.join") => `(tactic| (k_here; (with_reducible rename CarriedAll _ _ => ktC); k_dflt (refine KT.join_1 (by first | assumption | is_list | exact News.isList (by k_asm) (by k_mem)) ktC (fun _ _ => rfl) (by first | omega | decide) ?_); intro _ _ ktE))
set_option maxRecDepth 100000 in
set_option maxHeartbeats 8000000 in
theorem fin : PySem.Challenge.rw_nb0030_01.Holds := MineHd.hd (by
  k_with_none
  w_on
  k_fill
  intro w s₀ s₁ mg mb G Y fa o pm cd doc dV kV ho hd hcd hD hmg hg args vals as hpre hlay hrd hwl hlo
  have KX := kIn_of Y
  refine Ground.open G ?_
  intro T B D TE TW
  wrow_args hpre hlay hrd hwl hlo
  rename List Int => nsL
  rename_i hcond _
  refine wpU_call ?_
  have hdV := Dflts.pos_none hD rfl
  have hkV := Dflts.kw_none hD rfl
  subst hdV hkV
  refine' codeU_law ?ka ho hd (Top.nolimit T) hcd ?kb ?kl ?kh ?kc rfl rfl rfl
  case ka => decide
  case kb => exact BindsTo.of_eq rfl
  case kl => exact locs rfl
  case kc => decide
  intro h₁ F
  have N0 : News s₁.heap s₁.heap.objs.size h₁ [] := News.nil
  have K0 := below_caller (s₁.heap)
  dsimp only
  refine wpU_execs_cut2 (LawI s₁) ?first ?last
  case first =>
    refine .of ?_
    k_steps
    · dsimp only
      refine .of ?_
      k_steps
      exact LawI.of (by k_asm) (by k_asm) (tx_ok (ns := List.take 6 nsL) (by simp; omega))
    · dsimp only
      refine .of ?_
      k_steps
      exact LawI.of (by k_asm) (by k_asm) (tx_ok (ns := [0, 2, 5]) (by decide))
  clear F N0
  rintro s' ⟨T, tkT, m0, news, h0, tk0, hT1, hT2, F0, N0, rfl⟩
  refine wpU_execs_cons (wpU_For ?_)
  k_steps
  rename IsRange _ _ _ _ _ _ _ _ => R1
  with_reducible rename Fr _ _ _ _ => F1
  with_reducible rename News _ _ _ _ => N1
  refine wpAny_pyIter_range R1 (range_small (by omega) (by omega) (by omega)).1 ?_
  rw [(range_small (by omega) (by omega) (by omega)).2]
  refine' codeU_forRange (h₀ := s₁.heap) (a := 0) (n := T.length) rfl rfl rfl (Fr.push F1 _) (News.push F1 N1 _) (news_new N1) (Over _) (Over.refl _) ?step ?hR
  case hR =>
    intro h' tk' m' F' hP' N'
    dsimp only
    refine wpU_execs_cons (.of ?_)
    k_steps
  intro i tk5 m5 h5 tk6 hi5 hP5 F5 N5
  obtain ⟨va, vb, vc, rfl⟩ := hP5
  change Fr _ s₁.heap.objs.size _ _ at F5
  change News _ s₁.heap.objs.size _ _ at N5
  refine wpU_execs_cons (wpU_For ?_)
  k_steps
  rename IsRange _ _ _ _ _ _ _ _ => R6
  with_reducible rename Fr _ _ _ _ => F6
  with_reducible rename News _ _ _ _ => N6
  refine wpAny_pyIter_range R6 (range_small (by omega) (by omega) (by omega)).1 ?_
  rw [(range_small (by omega) (by omega) (by omega)).2]
  have en : ((T.length : Int) + 1 - (0 + (i : Int))) = ((T.length + 1 - i : Nat) : Int) := by omega
  rw [en]
  refine' codeU_forRange (h₀ := s₁.heap) (a := 0 + (i : Int)) (n := T.length + 1 - i) rfl rfl rfl (Fr.push F6 _) (News.push F6 N6 _) (news_new N6) (Over2 _) (Over2.refl _) ?step2 ?hR2
  case hR2 =>
    intro h' tk' m' F' hP' N'
    dsimp only
    refine .of (wpAny_execs_nil ?_)
    exact ⟨rfl, h', tk', m', rfl, F', Over2.over hP' (Over.set ⟨va, vb, vc, rfl⟩ (.inl rfl) _), N'⟩
  intro j tk7 m7 h7 tk8 hj7 hP7 F7 N7
  obtain ⟨wb, wc, rfl⟩ := hP7
  change Fr _ s₁.heap.objs.size _ _ at F7
  change News _ s₁.heap.objs.size _ _ at N7
  refine wpU_execs_cons (.of ?_)
  k_steps
  dsimp only
  have hpl : (Txt.slice T (some (0 + (i : Int))) (some (0 + (i : Int) + (j : Int)))).length ≤ 10 := Nat.le_trans (Txt.slice_le _ _ _) hT1
  have hps : ∀ c ∈ (Txt.slice T (some (0 + (i : Int))) (some (0 + (i : Int) + (j : Int)))).cps.toList, Sgn c := fun c hc => hT2 c (slice_mem c hc)
  refine wpU_execs_cons (wpU_If (wpU_isTrue_Compare1 (wpU_Call ?_)))
  k_steps
  k_dflt (refine' wpU_callWith_K (K := MineHd.hd.heap_39 w.params) ?k1 ?_; (case k1 => k_is))
  k_steps
  refine con_read w _ _ _ _ _ hpl hps _ _ _ _ s₁.heap s₁.heap _ _ _ _ _ _ (by k_asm) (by k_asm) (by k_asm) (by k_asm) (by k_asm) (by k_asm) (by k_asm) rfl ?_
  intro r8 tl8 h8 tk8 F8 N8 R8
  refine wpU_Call ?_
  k_steps
  k_dflt (refine' wpU_callWith_K (K := MineHd.hd.heap_39 w.params) ?k1 ?_; (case k1 => k_is))
  k_steps
  refine .of (conL_use (con_told w _ _ _ _ _ hpl hps) (by k_asm) (by k_asm) (by k_asm) (by k_asm) (by k_asm) rfl ?_)
  intro r9 tl9 h9 tk9 F9 N9 R9
  refine cmp_res R8 R9 N9 (sgn_strOk hps) (by ke_room) ?_
  dsimp only
  refine wpAny_truthy_bool ?_
  refine .of (wpAny_execs_nil (.of (wpAny_execs_nil ?_)))
  exact ⟨rfl, h9, tk9, _, rfl, F9, Over2.set2 ⟨wb, wc, rfl⟩ _ _, news_drop2 N9⟩)
end Mine
end

theorem PySem.Challenge.cw_nb0030_01_holds : PySem.Challenge.rw_nb0030_01.Holds :=
  Mine.fin
