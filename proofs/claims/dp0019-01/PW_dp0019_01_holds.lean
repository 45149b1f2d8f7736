import PyProof.Rows.All
import Wide.All
import OpenK.AllK
import Wide.FinOn
import PySem.Challenge.RW_dp0019_01
open PySem PySem.W PyProof.Rows
set_option Elab.async false
set_option maxRecDepth 100000
set_option maxHeartbeats 8000000
namespace Mine
open_top hd for PySem.Challenge.rw_dp0019_01

/-! QLoop -/
section

/-- the walk is to stop here -/
def Stop (p : Prop) : Prop := p
theorem Stop.go {p : Prop} (h : Stop p) : p := h

/-- what holds of the frame between two turns: the letters' values, the rest as it stood -/
def FJ {σ : Type} (ps : σ → List (Str × Value)) (stored : List Str) (x : Str) (m₀ : Str → Option Value) (P : σ → Prop) (m : Str → Option Value) : Prop :=
  ∃ c : σ, (∀ p ∈ ps c, m p.1 = some p.2) ∧ (∀ z, z ≠ x → (∀ p ∈ ps c, z ≠ p.1) → stored.contains z = false → m z = m₀ z) ∧ P c

/-- the count of the tokens as a letter that is not nought -/
theorem gen_toks {M : Model} {A : Around} {α : Type} {t : Sem α} {Q : α → Shared → Prop} {E : Value → Shared → Prop} {h : Heap} {g : Array GenState} {d : Drawn} {n : Nat} {os : OsState}
    (hn : 0 < n) (k : ∀ tk, 0 < tk → wpAny M A t Q E ⟨h, g, d, tk, os⟩) : wpAny M A t Q E ⟨h, g, d, n, os⟩ := k n hn

/-- append to the list that stands first on the ledger -/
theorem append_first {prog : Program} {w : World} {A : Around} {E : Value → Shared → Prop} {s : Shared} {h₀ : Heap} {L D : Addr} {m : Str → Option Value} {rest : List (Addr × Obj)} {its : List Value} {n : Nat} {x : Value} {Q : Value → Shared → Prop}
    (F : Fr h₀ L s.heap m) (N : News h₀ L s.heap ((D, W.listOf its.toArray n) :: rest)) (hne : ∀ p ∈ rest, p.1 ≠ D) (hsz : its.length ≤ 1000000)
    (h : ∀ h', Fr h₀ L h' m → News h₀ L h' ((D, W.listOf (its ++ [x]).toArray (n + 1)) :: rest) → Q .none { s with heap := h' }) : wpAny (model prog w) A (call (.builtin "list.append") [.ref D, x]) Q E s := by
  refine append_K F N (Upd.head hne) (fun h' F' N' => h h' F' ?_) (by rw [List.size_toArray, sizeLine_eq]; omega)
  rw [List.push_toArray] at N'
  exact N'

/-- a def's contract: for any ledger, any caller, with room for dk frames and uk units -/
def Con (dk uk : Nat) (prog : Program) (w : World) (K : Frag) (p : Program) (loose : List Str) (mean : ExcName → Option Value) (mg mb : Str → Option Value) (f : Addr) (news : List (Addr × Obj)) (pre : Prop) (vs : List Value) (R : Tok → Value) : Prop :=
  ∀ (dp un : Nat) (gd : Option (List Code)) (cn : Str) (cs : Scope) (a : Addr) (ccd : Value) (cl : List (Str × Addr)) (outer : List Env) (A₀ : Around) (base h₀ : Heap) (L : Addr) (m : Str → Option Value) (s : Shared) (Q E : Value → Shared → Prop),
    Below A₀ base outer h₀ → Fr h₀ L s.heap m → K.In h₀ → News h₀ L s.heap news → Top p loose mean mg mb h₀ → cs.kind = .function → pre → dp + dk < recursionLimit → un + uk < cLine →
    (∀ (t : Tok) (h' : Heap) (tk' : Nat), Fr h₀ L h' m → News h₀ L h' news → Q (R t) { s with heap := h', toks := tk' }) →
    wpAny (model prog w) (ktrTop dp un gd cn cs L a ccd cl outer) (call (.ref f) vs) Q E s
/-- it is taken at a call -/
theorem Con.use {dk uk : Nat} {prog : Program} {w : World} {K : Frag} {p : Program} {loose : List Str} {mean : ExcName → Option Value} {mg mb : Str → Option Value} {f : Addr} {news : List (Addr × Obj)} {pre : Prop} {vs : List Value} {R : Tok → Value}
    (C : Con dk uk prog w K p loose mean mg mb f news pre vs R) {dp un : Nat} {gd : Option (List Code)} {cn : Str} {cs : Scope} {a : Addr} {ccd : Value} {cl : List (Str × Addr)} {outer : List Env} {A₀ : Around} {base h₀ : Heap} {L : Addr} {m : Str → Option Value} {s : Shared} {Q E : Value → Shared → Prop}
    (B : Below A₀ base outer h₀) (F : Fr h₀ L s.heap m) (X : K.In h₀) (N : News h₀ L s.heap news) (T : Top p loose mean mg mb h₀) (hk : cs.kind = .function) (hp : pre) (hd : dp + dk < recursionLimit) (hu : un + uk < cLine)
    (ret : ∀ (t : Tok) (h' : Heap) (tk' : Nat), Fr h₀ L h' m → News h₀ L h' news → Q (R t) { s with heap := h', toks := tk' }) :
    wpAny (model prog w) (ktrTop dp un gd cn cs L a ccd cl outer) (call (.ref f) vs) Q E s := C _ _ _ _ _ _ _ _ _ _ _ _ _ _ _ _ _ B F X N T hk hp hd hu ret

section
variable {prog : Program} {w : World} {A : Around} {E : Value → Shared → Prop} {s : Shared} {env : Env} {h₀ : Heap} {x : Str} {body : List Stmt} {Q : Flow → Shared → Prop}

/-- a for over a list of the ledger, whatever its items; the ledger stays -/
theorem loopV {σ : Type} {l : Addr} {vs : List Value} {nn : Nat} {m₀ : Str → Option Value} {news : List (Addr × Obj)} (ps : σ → List (Str × Value)) (stored : List Str) (P : Nat → σ → Prop) (c₀ : σ)
    (hh : A.handled = none) (hl : (l, listOf vs.toArray nn) ∈ news) (F : Fr h₀ env.locals s.heap m₀) (N : News h₀ env.locals s.heap news) (hk : ∀ p ∈ ps c₀, m₀ p.1 = some p.2) (hp : P 0 c₀)
    (turn : ∀ (c : σ) (i : Nat) (v : Value) (u : Str → Option Value) h tk own, vs[i]? = some v → OwnOff own (news.map (·.1)) → P i c →
      Fr h₀ env.locals h (fun y => if y = x then some v else kstB (fun z => if stored.contains z then u z else m₀ z) (ps c) y) → News h₀ env.locals h (news ++ own) →
      wpAny (model prog w) A (execs body env) (InvPost h₀ env.locals (FJ ps stored x m₀ (P (i + 1))) (news ++ own) { s with heap := h, toks := tk } Q) E { s with heap := h, toks := tk })
    (done : ∀ (c : σ) (u : Str → Option Value) h tk, P vs.length c → Fr h₀ env.locals h (fun y => if y = x then u y else kstB (fun z => if stored.contains z then u z else m₀ z) (ps c) y) → News h₀ env.locals h news → Q .next { s with heap := h, toks := tk }) :
    wpAny (model prog w) A (pyIter (.ref l)) (fun it s₂ => LoopAtV prog w A h₀ env x body Q E it s₂) E s := by
  refine kdl_iter (fun i m nx => nx = news ∧ FJ ps stored x m₀ (P i) m) hh hl F N ⟨rfl, c₀, hk, fun _ _ _ _ => rfl, hp⟩ ?_ ?_
  · rintro i v m₁ news₁ h tk own hv hoff _ ⟨rfl, c, h1, h2, hP⟩ F₁ N₁
    refine wpAny_mono (turn c i v m₁ h tk own hv hoff hP (kst_fr h1 h2 F₁) N₁) (fun f s₂ p => ?_) fun _ _ e => e
    have up : InvEnd h₀ env.locals (FJ ps stored x m₀ (P (i + 1))) (news₁ ++ own) { s with heap := h, toks := tk } s₂ →
        InvEndG h₀ env.locals (fun m' nx => (l, listOf vs.toArray nn) ∈ nx ∧ nx = news₁ ∧ FJ ps stored x m₀ (P (i + 1)) m') own { s with heap := h, toks := tk } s₂ := by
      rintro ⟨h', tk', m', news', e, F', N', hn, hj⟩
      exact ⟨h', tk', m', news', news₁, e, F', N', fun p hp => hn p (List.mem_append.mpr (.inl hp)), fun p hp => hn p (List.mem_append.mpr (.inr hp)), hoff, hl, rfl, hj⟩
    cases f with
    | ret v => exact p
    | brk => exact p
    | next => exact up p
    | cont => exact up p
  · rintro m₁ news₁ h tk ⟨rfl, c, h1, h2, hP⟩ F₁ N₁
    exact done c m₁ h tk hP (kst_frOut h1 h2 F₁) N₁
end

end

/-! QPure -/
section

/-! The plain law's words: texts as lists of their signs' numbers. 61 is '='. -/
def hexL : List Nat := [48, 49, 50, 51, 52, 53, 54, 55, 56, 57, 97, 98, 99, 100, 101, 102, 65, 66, 67, 68, 69, 70]
def isHex (c : Nat) : Bool := decide (c ∈ hexL)
def hexVal (c : Nat) : Nat := if c ≤ 57 then c - 48 else if c ≤ 70 then c - 55 else c - 87

/-- a line read: '=' with two figures of base 16 behind it is one sign, all else stands for itself -/
noncomputable def readL : List Nat → List Nat
  | 61 :: a :: b :: r => if isHex a && isHex b then (hexVal a * 16 + hexVal b) :: readL r else 61 :: readL (a :: b :: r)
  | c :: r => c :: readL r
  | [] => []

/-- what a line gives: a '=' at its end falls away with the line's end -/
noncomputable def lineOut (eol l : List Nat) : List Nat := if l.getLast? = some 61 then readL l.dropLast else readL l ++ eol

/-- what is still to come while the line is read: nothing at its end -/
noncomputable def restOut (eol l : List Nat) : List Nat := if l = [] then [] else lineOut eol l

theorem hex_ne {c : Nat} (h : isHex c = true) : c ≠ 61 := by
  intro e
  subst e
  exact absurd h (by decide)
theorem readL_nil : readL [] = [] := rfl
theorem readL_plain {c : Nat} {r : List Nat} (h : c ≠ 61) : readL (c :: r) = c :: readL r := by
  rw [readL]
  intro a b r' e _
  exact h e
theorem readL_hex {a b : Nat} {r : List Nat} (h : (isHex a && isHex b) = true) : readL (61 :: a :: b :: r) = (hexVal a * 16 + hexVal b) :: readL r := by
  rw [readL, if_pos h]
theorem readL_not {a b : Nat} {r : List Nat} (h : (isHex a && isHex b) = false) : readL (61 :: a :: b :: r) = 61 :: readL (a :: b :: r) := by
  rw [readL, if_neg (by rw [h]; decide)]
theorem readL_one : readL [61] = [61] := by rfl
theorem readL_two {a : Nat} : readL [61, a] = 61 :: readL [a] := by
  rw [readL]
  intro a' b' r' _ e
  cases e

theorem last_cons {c : Nat} {r : List Nat} (h : r ≠ []) : (c :: r).getLast? = r.getLast? := by
  obtain ⟨a, r', rfl⟩ := List.exists_cons_of_ne_nil h
  rw [List.getLast?_cons_cons]
theorem drop_cons {c : Nat} {r : List Nat} (h : r ≠ []) : (c :: r).dropLast = c :: r.dropLast := by
  obtain ⟨a, r', rfl⟩ := List.exists_cons_of_ne_nil h
  rfl

theorem rest_nil {eol : List Nat} : restOut eol [] = [] := rfl
theorem rest_cons {eol r : List Nat} {c : Nat} : restOut eol (c :: r) = lineOut eol (c :: r) := by
  unfold restOut
  exact if_neg (List.cons_ne_nil _ _)
theorem lineOut_cons {eol r : List Nat} {c : Nat} (h : r ≠ []) : lineOut eol (c :: r) = if r.getLast? = some 61 then readL (c :: r.dropLast) else readL (c :: r) ++ eol := by
  unfold lineOut
  rw [last_cons h, drop_cons h]
/-- the ways of the loop's turn -/
theorem rest_plain {eol r : List Nat} {c : Nat} (h : c ≠ 61) : restOut eol (c :: r) = c :: (if r = [] then eol else restOut eol r) := by
  rw [rest_cons]
  by_cases hr : r = []
  · subst hr
    unfold lineOut
    rw [List.getLast?_singleton, if_neg (fun e => h (Option.some.inj e)), readL_plain h]
    rfl
  · rw [lineOut_cons hr, if_neg hr, restOut, if_neg hr, lineOut, readL_plain h, readL_plain h]
    split <;> rfl
theorem rest_soft {eol : List Nat} : restOut eol [61] = [] := rfl
theorem rest_hex {eol r : List Nat} {a b : Nat} (h : (isHex a && isHex b) = true) : restOut eol (61 :: a :: b :: r) = (hexVal a * 16 + hexVal b) :: (if r = [] then eol else restOut eol r) := by
  have hb : b ≠ 61 := hex_ne (by rw [Bool.and_eq_true] at h; exact h.2)
  rw [rest_cons, lineOut_cons (List.cons_ne_nil _ _), last_cons (List.cons_ne_nil _ _), drop_cons (List.cons_ne_nil _ _), readL_hex h]
  by_cases hr : r = []
  · subst hr
    rw [List.getLast?_singleton, if_neg (fun e => hb (Option.some.inj e))]
    rfl
  · rw [last_cons hr, drop_cons hr, if_neg hr, restOut, if_neg hr, lineOut, readL_hex h]
    split <;> rfl
theorem rest_two {eol : List Nat} {a : Nat} : restOut eol [61, a] = 61 :: restOut eol [a] := by
  rw [rest_cons, rest_cons, lineOut_cons (List.cons_ne_nil _ _), lineOut, readL_two]
  split <;> rfl
theorem rest_not {eol r : List Nat} {a b : Nat} (h : (isHex a && isHex b) = false) : restOut eol (61 :: a :: b :: r) = 61 :: restOut eol (a :: b :: r) := by
  rw [rest_cons, rest_cons, lineOut_cons (List.cons_ne_nil _ _), lineOut, readL_not h]
  by_cases hr : r = []
  · subst hr
    have e : readL (61 :: [a, b].dropLast) = 61 :: readL [a, b].dropLast := readL_two
    rw [e]
    split <;> rfl
  · rw [drop_cons (List.cons_ne_nil _ _), drop_cons hr, readL_not h]
    split <;> rfl

theorem readL_len : ∀ (n : Nat) (l : List Nat), l.length ≤ n → (readL l).length ≤ l.length := by
  intro n
  induction n with
  | zero => intro l h; have : l = [] := List.length_eq_zero_iff.mp (by omega); subst this; exact Nat.le_refl _
  | succ n ih =>
    intro l h
    match l with
    | [] => exact Nat.le_refl _
    | c :: r =>
      by_cases hc : c = 61
      · subst hc
        match r with
        | [] => exact Nat.le_refl _
        | [a] => rw [readL_two]; have := ih [a] (by simp at h ⊢; omega); simp at this ⊢; omega
        | a :: b :: r =>
          cases hh : (isHex a && isHex b) with
          | true => rw [readL_hex hh]; have := ih r (by simp at h; omega); simp; omega
          | false => rw [readL_not hh]; have := ih (a :: b :: r) (by simp at h ⊢; omega); simp at this ⊢; omega
      · rw [readL_plain hc]; have := ih r (by simp at h; omega); simp; omega
theorem lineOut_len (eol l : List Nat) : (lineOut eol l).length ≤ l.length + eol.length := by
  unfold lineOut
  split
  · have := readL_len _ l.dropLast (Nat.le_refl _); rw [List.length_dropLast] at this; omega
  · have := readL_len _ l (Nat.le_refl _); rw [List.length_append]; omega

/-- a text's signs -/
def toL (x : Str) : List Nat := x.cps.toList
theorem toL_append (a b : Str) : toL (a ++ b) = toL a ++ toL b := by
  unfold toL
  rw [Str.cps_append, Array.toList_append]
theorem toL_len (x : Str) : (toL x).length = x.length := by
  unfold toL Str.length
  rw [Array.length_toList]
theorem toL_inj {a b : Str} (h : toL a = toL b) : a = b := Str.ext' (Array.toList_inj.mp h)
theorem toL_mk (l : List Nat) : toL ⟨l.toArray⟩ = l := rfl
theorem toL_one (c : Nat) : toL ⟨#[c]⟩ = [c] := rfl

/-- a sign within the text -/
theorem item_at {x : Str} {i : Int} (h0 : 0 ≤ i) (h1 : i < (x.length : Int)) : ∃ c, (toL x).drop i.toNat = c :: (toL x).drop (i.toNat + 1) ∧ Txt.item x i = ⟨#[c]⟩ := by
  have hlt : i.toNat < (toL x).length := by rw [toL_len]; omega
  refine ⟨(toL x)[i.toNat], List.drop_eq_getElem_cons hlt, ?_⟩
  have e : seqIndex? i x.length = some i.toNat := by
    unfold seqIndex?
    have h2 : (decide (0 ≤ i) && decide (i < (x.length : Int))) = true := by simp [h0, h1]
    simp only [if_neg (Int.not_lt.mpr h0), h2, if_true]
  have hg : x.cps[i.toNat]? = some ((toL x)[i.toNat]) := by
    rw [← Array.getElem?_toList]
    exact List.getElem?_eq_getElem hlt
  unfold Txt.item Txt.charAt
  rw [e]
  show (⟨#[(x.cps[i.toNat]?).getD 0]⟩ : Str) = _
  rw [hg]
  rfl

/-- between two turns of the loop over a line's signs -/
def WInv (y d b : Str) (i : Int) (e : Str) : Prop :=
  0 ≤ i ∧ i ≤ (b.length : Int) ∧ toL e ++ restOut (toL y) ((toL b).drop i.toNat) = toL d ++ restOut (toL y) (toL b)
theorem WInv.start (y d b : Str) : WInv y d b 0 d := ⟨Int.le_refl 0, Int.natCast_nonneg _, rfl⟩
theorem restOut_len (eol l : List Nat) : (restOut eol l).length ≤ l.length + eol.length := by
  unfold restOut
  split
  · simp
  · exact lineOut_len _ _
theorem WInv.size {y d b e : Str} {i : Int} (h : WInv y d b i e) : e.length ≤ d.length + b.length + y.length := by
  have h1 := congrArg List.length h.2.2
  rw [List.length_append, List.length_append, toL_len, toL_len] at h1
  have h2 := restOut_len (toL y) (toL b)
  rw [toL_len, toL_len] at h2
  omega
theorem WInv.last {y d b e : Str} (h : WInv y d b (b.length : Int) e) : toL e = toL d ++ restOut (toL y) (toL b) := by
  have h1 := h.2.2
  rw [Int.toNat_natCast, ← toL_len, List.drop_length, rest_nil, List.append_nil] at h1
  exact h1
theorem eqS : Str.ofString "=" = ⟨#[61]⟩ := by decide +kernel
theorem item_ne {c : Nat} : ((⟨#[c]⟩ : Str) != Str.ofString "=") = true ↔ c ≠ 61 := by
  rw [eqS]
  constructor
  · intro h e
    subst e
    exact absurd h (by decide)
  · intro h
    simp only [bne_iff_ne, ne_eq, Str.mk.injEq]
    intro e
    exact h (by simpa using e)
theorem drop_one {l : List Nat} {i : Int} (h0 : 0 ≤ i) : l.drop (i.toNat + 1) = l.drop (i + 1).toNat := by
  congr 1
  omega
/-- a sign that is no '=': at the line's end the mark behind it -/
theorem WInv.plainLast {y d b e : Str} {i : Int} (h : WInv y d b i e) (h1 : i < (b.length : Int)) (hc : (Txt.item b i != Str.ofString "=") = true) (he : i + 1 = (b.length : Int)) : WInv y d b (i + 1) (e ++ Txt.item b i ++ y) := by
  obtain ⟨h0, _, hq⟩ := h
  obtain ⟨c, hd, hi⟩ := item_at h0 h1
  rw [hi] at hc ⊢
  have hn : (toL b).drop (i.toNat + 1) = [] := List.drop_eq_nil_of_le (by rw [toL_len]; omega)
  refine ⟨by omega, by omega, ?_⟩
  rw [hd, rest_plain (item_ne.mp hc), if_pos hn] at hq
  rw [← drop_one h0, hn, rest_nil, List.append_nil, toL_append, toL_append, toL_one, ← hq]
  simp
theorem WInv.plain {y d b e : Str} {i : Int} (h : WInv y d b i e) (h1 : i < (b.length : Int)) (hc : (Txt.item b i != Str.ofString "=") = true) (he : i + 1 ≠ (b.length : Int)) : WInv y d b (i + 1) (e ++ Txt.item b i) := by
  obtain ⟨h0, _, hq⟩ := h
  obtain ⟨c, hd, hi⟩ := item_at h0 h1
  rw [hi] at hc ⊢
  have hn : (toL b).drop (i.toNat + 1) ≠ [] := by
    intro e'
    have := List.drop_eq_nil_iff.mp e'
    rw [toL_len] at this
    omega
  refine ⟨by omega, by omega, ?_⟩
  rw [hd, rest_plain (item_ne.mp hc), if_neg hn] at hq
  rw [← drop_one h0, toL_append, toL_one, ← hq]
  simp
theorem not_ne {c : Nat} (hc : ((⟨#[c]⟩ : Str) != Str.ofString "=") = false) : c = 61 := by
  by_cases h : c = 61
  · exact h
  · rw [item_ne.mpr h] at hc; cases hc
/-- a '=' at the line's end falls away -/
theorem WInv.soft {y d b e : Str} {i : Int} (h : WInv y d b i e) (h1 : i < (b.length : Int)) (hc : (Txt.item b i != Str.ofString "=") = false) (he : i + 1 = (b.length : Int)) : WInv y d b (i + 1) e := by
  obtain ⟨h0, _, hq⟩ := h
  obtain ⟨c, hd, hi⟩ := item_at h0 h1
  rw [hi] at hc
  have := not_ne hc
  subst this
  have hn : (toL b).drop (i.toNat + 1) = [] := List.drop_eq_nil_of_le (by rw [toL_len]; omega)
  refine ⟨by omega, by omega, ?_⟩
  rw [hd, hn, rest_soft] at hq
  rw [← drop_one h0, hn, rest_nil]
  exact hq

def hexS : Str := Str.ofString "0123456789abcdefABCDEF"
theorem hexS_list : hexS.cps.toList = hexL := by decide +kernel
theorem hex_in {c : Nat} : (Builtin.Str.occurrences (Str.ofString "0123456789abcdefABCDEF") ⟨#[c]⟩ 0 (Str.ofString "0123456789abcdefABCDEF").length 1).isEmpty = !isHex c := by
  have h := StrLaws.found_one hexS c
  rw [hexS_list] at h
  have h2 : (!(Builtin.Str.occurrences hexS ⟨#[c]⟩ 0 hexS.length 1).isEmpty) = isHex c := h
  rw [← h2, Bool.not_not]
  rfl
/-- what the three tests behind a '=' say when they fall -/
def NoPair (b : Str) (i : Int) : Prop := ¬ i + 2 < (b.length : Int) ∨ (i + 2 < (b.length : Int) ∧
  ((Builtin.Str.occurrences (Str.ofString "0123456789abcdefABCDEF") (Txt.item b (i + 1)) 0 (Str.ofString "0123456789abcdefABCDEF").length 1).isEmpty = true ∨
   (Builtin.Str.occurrences (Str.ofString "0123456789abcdefABCDEF") (Txt.item b (i + 2)) 0 (Str.ofString "0123456789abcdefABCDEF").length 1).isEmpty = true))
theorem add_two {i : Int} (h0 : 0 ≤ i) : (i + 1).toNat + 1 = (i + 2).toNat := by omega
/-- any other '=' stands for itself -/
theorem WInv.stands {y d b e : Str} {i : Int} (h : WInv y d b i e) (h1 : i < (b.length : Int)) (hc : (Txt.item b i != Str.ofString "=") = false) (he : i + 1 ≠ (b.length : Int)) (hp : NoPair b i) : WInv y d b (i + 1) (e ++ Txt.item b i) := by
  obtain ⟨h0, _, hq⟩ := h
  obtain ⟨c, hd, hi⟩ := item_at h0 h1
  rw [hi] at hc ⊢
  have := not_ne hc
  subst this
  obtain ⟨a, ha, hia⟩ := item_at (x := b) (i := i + 1) (by omega) (by omega)
  have key : restOut (toL y) ((toL b).drop i.toNat) = 61 :: restOut (toL y) ((toL b).drop (i + 1).toNat) := by
    rw [hd, drop_one h0, ha]
    rcases hp with hp | ⟨hp, hp2⟩
    · have hn : (toL b).drop ((i + 1).toNat + 1) = [] := List.drop_eq_nil_of_le (by rw [toL_len]; omega)
      rw [hn]
      exact rest_two
    · obtain ⟨b', hb, hib⟩ := item_at (x := b) (i := i + 2) (by omega) (by omega)
      rw [add_two h0, hb]
      refine rest_not ?_
      rw [hia, hib, hex_in, hex_in] at hp2
      cases ha2 : isHex a <;> cases hb2 : isHex b' <;> simp_all
  refine ⟨by omega, by omega, ?_⟩
  rw [key] at hq
  rw [toL_append, toL_one, ← hq]
  simp
/-- '=' with two figures of base 16 behind it is one sign -/
theorem pair_at {b : Str} {i : Int} (h0 : 0 ≤ i) (h2 : i + 2 < (b.length : Int)) (hc : (Txt.item b i != Str.ofString "=") = false)
    (hA : (Builtin.Str.occurrences (Str.ofString "0123456789abcdefABCDEF") (Txt.item b (i + 1)) 0 (Str.ofString "0123456789abcdefABCDEF").length 1).isEmpty = false)
    (hB : (Builtin.Str.occurrences (Str.ofString "0123456789abcdefABCDEF") (Txt.item b (i + 2)) 0 (Str.ofString "0123456789abcdefABCDEF").length 1).isEmpty = false) :
    ∃ p q, isHex p = true ∧ isHex q = true ∧ (toL b).drop i.toNat = 61 :: p :: q :: (toL b).drop (i + 3).toNat := by
  obtain ⟨c, hd, hi⟩ := item_at (x := b) h0 (by omega)
  rw [hi] at hc
  have := not_ne hc
  subst this
  obtain ⟨p, hp, hip⟩ := item_at (x := b) (i := i + 1) (by omega) (by omega)
  obtain ⟨q, hq, hiq⟩ := item_at (x := b) (i := i + 2) (by omega) (by omega)
  rw [hip, hex_in] at hA
  rw [hiq, hex_in] at hB
  refine ⟨p, q, by simpa using hA, by simpa using hB, ?_⟩
  rw [hd, drop_one h0, hp, add_two h0, hq]
  have e : (i + 2).toNat + 1 = (i + 3).toNat := by omega
  rw [e]
theorem WInv.pair {y d b e : Str} {i : Int} {p q : Nat} (h : WInv y d b i e) (h2 : i + 2 < (b.length : Int)) (hp : isHex p = true) (hq' : isHex q = true) (hd : (toL b).drop i.toNat = 61 :: p :: q :: (toL b).drop (i + 3).toNat)
    (he : i + 3 ≠ (b.length : Int)) : WInv y d b (i + 3) (e ++ ⟨#[hexVal p * 16 + hexVal q]⟩) := by
  obtain ⟨h0, _, hq⟩ := h
  have hn : (toL b).drop (i + 3).toNat ≠ [] := by
    intro e'
    have := List.drop_eq_nil_iff.mp e'
    rw [toL_len] at this
    omega
  refine ⟨by omega, by omega, ?_⟩
  rw [hd, rest_hex (by rw [hp, hq']; rfl), if_neg hn] at hq
  rw [toL_append, toL_one, ← hq]
  simp
theorem WInv.pairLast {y d b e : Str} {i : Int} {p q : Nat} (h : WInv y d b i e) (h2 : i + 2 < (b.length : Int)) (hp : isHex p = true) (hq' : isHex q = true) (hd : (toL b).drop i.toNat = 61 :: p :: q :: (toL b).drop (i + 3).toNat)
    (he : i + 3 = (b.length : Int)) : WInv y d b (i + 3) (e ++ ⟨#[hexVal p * 16 + hexVal q]⟩ ++ y) := by
  obtain ⟨h0, _, hq⟩ := h
  have hn : (toL b).drop (i + 3).toNat = [] := List.drop_eq_nil_of_le (by rw [toL_len]; omega)
  refine ⟨by omega, by omega, ?_⟩
  rw [hd, rest_hex (by rw [hp, hq']; rfl), if_pos hn] at hq
  rw [hn, rest_nil, List.append_nil, toL_append, toL_append, toL_one, ← hq]
  simp

/-! cuts of a text -/
open StrLaws in
theorem slice_ss {x : Str} {i j : Int} (h0 : 0 ≤ i) (h1 : i ≤ j) (h2 : j ≤ (x.length : Int)) : toL (Txt.slice x (some i) (some j)) = ((toL x).drop i.toNat).take (j - i).toNat := by
  have h := sliceText_plain (x := x) (i := i) (j := j) ⟨h0, h1, by rw [← toL_len] at h2; exact h2⟩
  exact congrArg toL h
open StrLaws in
theorem slice_to {x : Str} {j : Int} (h0 : 0 ≤ j) : toL (Txt.slice x none (some j)) = (toL x).take j.toNat := by
  by_cases h : j ≤ (x.length : Int)
  · have h := sliceText_to (x := x) (j := j) ⟨h0, by rw [← toL_len] at h; exact h⟩
    refine (congrArg toL h).trans ?_
    show ((toL x).drop 0).take (j - 0).toNat = _
    rw [List.drop_zero, Int.sub_zero]
  · rw [slice_to_beyond (by omega)]
    have h' := sliceText_to (x := x) (j := (x.length : Int)) ⟨by omega, by rw [← toL_len]; exact Int.le_refl _⟩
    refine (congrArg toL h').trans ?_
    show ((toL x).drop 0).take ((x.length : Int) - 0).toNat = _
    rw [List.drop_zero, Int.sub_zero, Int.toNat_natCast, ← toL_len, List.take_length, List.take_of_length_le]
    rw [toL_len]
    omega
open StrLaws in
theorem slice_from {x : Str} {i : Int} (h0 : 0 ≤ i) : toL (Txt.slice x (some i) none) = (toL x).drop i.toNat := by
  by_cases h : i ≤ (x.length : Int)
  · have h' := sliceText_from (x := x) (i := i) ⟨h0, by rw [← toL_len] at h; exact h⟩
    refine (congrArg toL h').trans ?_
    show ((toL x).drop i.toNat).take (((toL x).length : Int) - i).toNat = _
    rw [List.take_of_length_le]
    rw [List.length_drop]
    omega
  · rw [slice_from_beyond (by omega), List.drop_eq_nil_of_le (by rw [toL_len]; omega)]
    rfl
open StrLaws in
theorem slice_to_neg {x : Str} {k : Nat} (h0 : 0 < k) (h1 : k ≤ x.length) : toL (Txt.slice x none (some (-(k : Int)))) = (toL x).take (x.length - k) := by
  have e : Txt.slice x none (some (-(k : Int))) = Txt.slice x none (some (-(k : Int) + x.length)) := sliceText_neg_hi x none (by omega) (by omega)
  rw [e, slice_to (by omega)]
  congr 1
  omega
open StrLaws in
theorem slice_from_neg {x : Str} {k : Nat} (h0 : 0 < k) (h1 : k ≤ x.length) : toL (Txt.slice x (some (-(k : Int))) none) = (toL x).drop (x.length - k) := by
  have e : Txt.slice x (some (-(k : Int))) none = Txt.slice x (some (-(k : Int) + x.length)) none := sliceText_neg_lo x none (by omega) (by omega)
  rw [e, slice_from (by omega)]
  congr 1
  omega

end

/-! QHex -/
section
open PySem.Calls PySem.NumText

/-- the number that a reading gives, if it gives one -/
noncomputable def numOf (n : int_private% "Numeral") : Option Int :=
  (int_private% "Numeral.rec") (motive := fun _ => Option Int) none (fun _ => none) none (fun i => some i) n
theorem numOf_value {n : int_private% "Numeral"} {i : Int} (h : numOf n = some i) : n = (int_private% "Numeral.value") i := by
  cases n with
  | invalid => cases h
  | tooLong d => cases h
  | byTheLibrary => cases h
  | value j => exact congrArg _ (Option.some.inj h)
theorem hex_reads : ∀ p ∈ hexL, ∀ q ∈ hexL, numOf ((int_private% "readNumeral") 0 16 [p, q]) = some ((hexVal p * 16 + hexVal q : Nat) : Int) := by decide +kernel
theorem read_hex {p q : Nat} (hp : isHex p = true) (hq : isHex q = true) : (int_private% "readNumeral") 0 16 [p, q] = (int_private% "Numeral.value") ((hexVal p * 16 + hexVal q : Nat) : Int) :=
  numOf_value (hex_reads p (of_decide_eq_true hp) q (of_decide_eq_true hq))
theorem hex_small : ∀ p ∈ hexL, 0 < p ∧ p < 128 ∧ hexVal p < 16 := by decide +kernel
theorem hex_lt {p : Nat} (hp : isHex p = true) : 0 < p ∧ p < 128 ∧ hexVal p < 16 := hex_small p (of_decide_eq_true hp)

theorem wp_hex {M : Model} {A : Around} {E : Value → Shared → Prop} {s : Shared} {Q : Value → Shared → Prop} {v : Value} {text : List Nat} {n : Int}
    (hs : (text.takeWhile (· != 0)).length ≤ 640) (hr : (int_private% "readNumeral") 0 16 (text.takeWhile (· != 0)) = (int_private% "Numeral.value") n)
    (ha : ((text.takeWhile (· != 0)).length == text.length) = true) (h : Q (.int n s.toks) { s with toks := s.toks + 1 }) :
    wpAny M A ((int_private% "intFromText") v text 16) Q E s := by
  obtain ⟨hp, g, d, tk, os⟩ := s
  repeat (any_goals (first
    | assumption
    | (with_reducible refine wpAny_ite_true (decide_eq_true hs) ?_)
    | (with_reducible refine wpAny_ite_true (decide_eq_true ha) ?_)
    | wp_step))
  all_goals (try rw [hr])
  all_goals (try dsimp only)
  repeat (any_goals (first
    | assumption
    | (with_reducible refine wpAny_ite_true (decide_eq_true hs) ?_)
    | (with_reducible refine wpAny_ite_true (decide_eq_true ha) ?_)
    | wp_step))

set_option maxHeartbeats 4000000 in
theorem gives_hex {p q : Nat} {u v : Tok} (hp : isHex p = true) (hq : isHex q = true) :
    Gives (Builtin.«int.__new__» ⟨[.type "int", .str ⟨#[p, q]⟩ u, .int 16 v], []⟩) (.int ((hexVal p * 16 + hexVal q : Nat) : Int)) :=
  .of_wp fun M A E s Q h => by
    obtain ⟨hp', g, d, tk, os⟩ := s
    have f1 := F.conv_sub_int
    have f2 := F.madeHere_int
    have h1 := hex_lt hp
    have h2 := hex_lt hq
    have ht : [p, q].takeWhile (· != 0) = [p, q] := by
      have e1 : (p != 0) = true := by simpa using Nat.ne_of_gt h1.1
      have e2 : (q != 0) = true := by simpa using Nat.ne_of_gt h2.1
      rw [List.takeWhile_cons, if_pos e1, List.takeWhile_cons, if_pos e2, List.takeWhile_nil]
    have hall : (#[p, q] : Array Nat).all (· < 128) = true := by simp [h1.2.1, h2.2.1]
    have hk := KIN.Hid.mk (And.intro ht (And.intro (read_hex hp hq) hall))
    clear ht h1 h2 hp hq hall
    repeat (any_goals (first
      | assumption
      | ((with_reducible show wpAny _ _ ((int_private% "intFromText") _ _ _) _ _ _); refine wp_hex (n := ((hexVal p * 16 + hexVal q : Nat) : Int)) ?_ ?_ ?_ ?_)
      | wp_step))
    have e : (if (Array.all ({ cps := #[p, q] } : Str).cps fun x => decide (x < 128)) = true then ({ cps := #[p, q] } : Str).cps.toList else Unicode.numberText ({ cps := #[p, q] } : Str).cps.toList) = [p, q] := if_pos hk.out.2.2
    · rw [e, hk.out.1]; show 2 ≤ 640; decide
    · have e : (if (Array.all ({ cps := #[p, q] } : Str).cps fun x => decide (x < 128)) = true then ({ cps := #[p, q] } : Str).cps.toList else Unicode.numberText ({ cps := #[p, q] } : Str).cps.toList) = [p, q] := if_pos hk.out.2.2
      rw [e, hk.out.1]; exact hk.out.2.1
    · have e : (if (Array.all ({ cps := #[p, q] } : Str).cps fun x => decide (x < 128)) = true then ({ cps := #[p, q] } : Str).cps.toList else Unicode.numberText ({ cps := #[p, q] } : Str).cps.toList) = [p, q] := if_pos hk.out.2.2
      rw [e, hk.out.1]; rfl
    · exact ⟨_, rfl, h⟩

theorem hexTypeCall (a b : Value) : checkTypeCall "int" ⟨[a, b], []⟩ = pure () := by kernel_rfl
theorem hexNewCall (a b : Value) : checkBuiltinCall "int.__new__" ⟨[.type "int", a, b], []⟩ = pure () := by kernel_rfl
theorem hexInitArgs (a b c : Value) : argsOk "object.__init__" ⟨[a, b, c], []⟩ := by
  unfold argsOk; rw [signature?_of (id := "object.__init__") (n := ['_', '_', 't', 'i', 'n', 'i', '_', '_']) (o := ['t', 'c', 'e', 'j', 'b', 'o']) (by kernel_rfl) F.owner_object]; kernel_rfl
/-- int(two figures of base 16, 16) -/
theorem call_hex {prog : Program} {w : World} {A : Around} {E : Value → Shared → Prop} {s : Shared} {Q : Value → Shared → Prop} {x : Str} {p q : Nat} {u v : Tok} (hx : toL x = [p, q]) (hp : isHex p = true) (hq : isHex q = true)
    (h : Q (.int ((hexVal p * 16 + hexVal q : Nat) : Int) s.toks) { s with toks := s.toks + 1 }) : wpAny (model prog w) A (call (.type "int") [.str x u, .int 16 v]) Q E s := by
  have e : x = ⟨#[p, q]⟩ := toL_inj hx
  subst e
  exact callType_new F.called_int F.newNe_int (hexTypeCall _ _) (hexNewCall _ _) (fun obj => hexInitArgs obj _ _) F.entry_int_new (gives_hex hp hq).meets (show (Made.int _).post _ s from ⟨rfl, h⟩)

end

/-! QDec -/
section

/-- all the lines of a text, read -/
noncomputable def decL (x y : Str) : List Nat := (Txt.lines x).flatMap fun ln => lineOut (toL y) (toL (Txt.rstrip ln))
/-- between two lines -/
def DInv (x y : Str) (i : Nat) (d : Str) : Prop := toL d = ((Txt.lines x).take i).flatMap fun ln => lineOut (toL y) (toL (Txt.rstrip ln))
theorem DInv.start (x y : Str) : DInv x y 0 (Str.ofString "") := (by decide +kernel : toL (Str.ofString "") = [])
theorem rstrip_len (x : Str) : (Txt.rstrip x).length ≤ x.length := len_rstrip x
theorem flat_len (y : Str) (k : Nat) (hy : y.length ≤ k) : ∀ l : List Str, (l.flatMap fun ln => lineOut (toL y) (toL (Txt.rstrip ln))).length ≤ (k + 1) * ((l.map (·.length)).sum + l.length)
  | [] => by simp
  | a :: r => by
    have ih := flat_len y k hy r
    have h1 := lineOut_len (toL y) (toL (Txt.rstrip a))
    rw [toL_len, toL_len] at h1
    have h2 := rstrip_len a
    simp only [List.flatMap_cons, List.length_append, List.map_cons, List.sum_cons, List.length_cons]
    have e : (k + 1) * (a.length + (r.map (·.length)).sum + (r.length + 1)) = (k + 1) * (a.length + 1) + (k + 1) * ((r.map (·.length)).sum + r.length) := by
      rw [← Nat.mul_add]; congr 1; omega
    have h3 : a.length + k ≤ (k + 1) * (a.length + 1) := by
      rw [Nat.mul_add, Nat.add_mul]; omega
    omega
theorem sum_take (l : List Str) (i : Nat) : ((l.take i).map (·.length)).sum + (l.take i).length ≤ (l.map (·.length)).sum + l.length := by
  induction l generalizing i with
  | nil => simp
  | cons a r ih =>
    cases i with
    | zero => simp
    | succ i => have := ih i; simp only [List.take_succ_cons, List.map_cons, List.sum_cons, List.length_cons]; omega
theorem DInv.size {x y d : Str} {i : Nat} (h : DInv x y i d) (hy : y.length ≤ 40) (hx : x.length ≤ 4000) : d.length ≤ 164041 := by
  have h1 := flat_len y 40 hy ((Txt.lines x).take i)
  have h2 := sum_take (Txt.lines x) i
  have h3 := StrLaws.lines_weight x
  have h4 : d.length = _ := (toL_len d).symm.trans (congrArg List.length h)
  have h5 : 41 * (((Txt.lines x).take i).map (·.length)).sum + 41 * ((Txt.lines x).take i).length ≤ 41 * 4001 := by omega
  rw [Nat.mul_add] at h1
  omega
theorem DInv.step {x y d e ln : Str} {i : Nat} (h : DInv x y i d) (hl : (Txt.lines x)[i]? = some ln) (he : toL e = toL d ++ lineOut (toL y) (toL (Txt.rstrip ln))) : DInv x y (i + 1) e := by
  unfold DInv at h ⊢
  rw [he, h, List.take_add_one, hl]
  simp
theorem DInv.blank {x y d ln : Str} {i : Nat} (h : DInv x y i d) (hl : (Txt.lines x)[i]? = some ln) (h0 : ((Txt.rstrip ln).length : Int) = 0) : DInv x y (i + 1) (d ++ y) := by
  refine h.step hl ?_
  have e : toL (Txt.rstrip ln) = [] := List.length_eq_zero_iff.mp (by rw [toL_len]; omega)
  rw [toL_append, e]
  rfl
theorem DInv.line {x y d e ln : Str} {i : Nat} {j : Int} (h : DInv x y i d) (hl : (Txt.lines x)[i]? = some ln) (hw : WInv y d (Txt.rstrip ln) j e) (hj : ¬ j < ((Txt.rstrip ln).length : Int)) (h0 : ((Txt.rstrip ln).length : Int) ≠ 0) : DInv x y (i + 1) e := by
  have e1 : j = ((Txt.rstrip ln).length : Int) := by have := hw.2.1; omega
  subst e1
  refine h.step hl ?_
  rw [hw.last]
  unfold restOut
  rw [if_neg]
  intro e2
  have := toL_len (Txt.rstrip ln)
  rw [e2] at this
  simp at this
  omega
theorem DInv.done {x y d : Str} {n : Nat} (h : DInv x y n d) (hn : n = (Txt.lines x).length) : toL d = decL x y := by
  subst hn
  unfold DInv at h
  rw [List.take_length] at h
  exact h

/-- the text's last sign ends a line -/
def endsNL (x : Str) : Bool := (toL x).getLast? == some 10 || (toL x).getLast? == some 13
/-- one mark at the end falls away -/
def cutMark (m l : List Nat) : List Nat := if m.isSuffixOf l = true then l.take (l.length - m.length) else l
noncomputable def decF (x y : Str) : Str := if x.length = 0 then x else ⟨(if endsNL x = true then decL x y else cutMark (toL y) (decL x y)).toArray⟩

/-- the last sign -/
theorem item_last {x : Str} (h : x.length ≠ 0) : ∃ c, (toL x).getLast? = some c ∧ Txt.item x (-1) = ⟨#[c]⟩ := by
  have hlt : x.length - 1 < (toL x).length := by rw [toL_len]; omega
  refine ⟨(toL x)[x.length - 1], ?_, ?_⟩
  · rw [List.getLast?_eq_getElem?, toL_len]
    exact List.getElem?_eq_getElem hlt
  have e : seqIndex? (-1) x.length = some (x.length - 1) := by
    unfold seqIndex?
    have h1 : (-1 : Int) + x.length = ((x.length - 1 : Nat) : Int) := by omega
    have h2 : (decide (0 ≤ ((x.length - 1 : Nat) : Int)) && decide (((x.length - 1 : Nat) : Int) < (x.length : Int))) = true := by simp; omega
    simp only [show (-1 : Int) < 0 by decide, if_true, h1, h2, Int.toNat_natCast]
  have hg : x.cps[x.length - 1]? = some ((toL x)[x.length - 1]) := by
    rw [← Array.getElem?_toList]
    exact List.getElem?_eq_getElem hlt
  unfold Txt.item Txt.charAt
  rw [e]
  show (⟨#[(x.cps[x.length - 1]?).getD 0]⟩ : Str) = _
  rw [hg]
  rfl
theorem nl_list : (Str.ofString "\r\n").cps.toList = [13, 10] := by decide +kernel
theorem nl_in {x : Str} (h : x.length ≠ 0) : (Builtin.Str.occurrences (Str.ofString "\r\n") (Txt.item x (-1)) 0 (Str.ofString "\r\n").length 1).isEmpty = !endsNL x := by
  obtain ⟨c, hc, hi⟩ := item_last h
  have h1 := StrLaws.found_one (Str.ofString "\r\n") c
  rw [nl_list] at h1
  rw [hi, ← Bool.not_not (List.isEmpty _), h1]
  unfold endsNL
  rw [hc]
  congr 1
  by_cases h13 : c = 13
  · subst h13; rfl
  · by_cases h10 : c = 10
    · subst h10; rfl
    · simp [h13, h10]
theorem endswith_eq (d y : Str) : Txt.endswith d y = (toL y).isSuffixOf (toL d) := by
  unfold Txt.endswith
  rw [StrLaws.subAt_eq]
  show (decide (0 + y.length ≤ d.length) && (((toL d).drop (d.length - y.length)).take y.length == toL y)) = _
  rw [Bool.eq_iff_iff, Bool.and_eq_true, decide_eq_true_eq, beq_iff_eq, List.isSuffixOf_iff_suffix, Nat.zero_add]
  constructor
  · rintro ⟨h1, h2⟩
    rw [List.take_of_length_le (by rw [List.length_drop, toL_len]; omega)] at h2
    exact ⟨(toL d).take (d.length - y.length), by rw [← h2]; exact List.take_append_drop _ _⟩
  · intro h
    have hl := h.length_le
    rw [toL_len, toL_len] at hl
    refine ⟨hl, ?_⟩
    obtain ⟨t, ht⟩ := h
    have hlen : t.length = d.length - y.length := by
      have := congrArg List.length ht
      rw [List.length_append, toL_len, toL_len] at this
      omega
    rw [← ht, ← hlen, List.drop_left, List.take_of_length_le (by rw [toL_len]; omega)]
theorem decF_cut {x y d : Str} (h0 : (x.length : Int) ≠ 0) (hy : 0 < y.length) (hd : toL d = decL x y)
    (h1 : (Builtin.Str.occurrences (Str.ofString "\r\n") (Txt.item x (-1)) 0 (Str.ofString "\r\n").length 1).isEmpty = true) (h2 : Txt.endswith d y = true) :
    Txt.slice d none (some (-(y.length : Int))) = decF x y := by
  rw [nl_in (by omega)] at h1
  rw [endswith_eq] at h2
  have hl := (List.isSuffixOf_iff_suffix.mp h2).length_le
  rw [toL_len, toL_len] at hl
  apply toL_inj
  rw [slice_to_neg hy hl]
  unfold decF
  rw [if_neg (by omega), toL_mk, if_neg (by simpa using h1)]
  unfold cutMark
  rw [← hd, if_pos h2, toL_len, toL_len]
  rfl
theorem decF_whole {x y d : Str} (h0 : (x.length : Int) ≠ 0) (hd : toL d = decL x y)
    (h1 : (Builtin.Str.occurrences (Str.ofString "\r\n") (Txt.item x (-1)) 0 (Str.ofString "\r\n").length 1).isEmpty = true) (h2 : Txt.endswith d y = false) : d = decF x y := by
  rw [nl_in (by omega)] at h1
  rw [endswith_eq] at h2
  apply toL_inj
  unfold decF
  rw [if_neg (by omega), toL_mk, if_neg (by simpa using h1)]
  unfold cutMark
  rw [← hd, if_neg (by rw [h2]; decide)]
  rfl
theorem decF_nl {x y d : Str} (h0 : (x.length : Int) ≠ 0) (hd : toL d = decL x y)
    (h1 : (Builtin.Str.occurrences (Str.ofString "\r\n") (Txt.item x (-1)) 0 (Str.ofString "\r\n").length 1).isEmpty = false) : d = decF x y := by
  rw [nl_in (by omega)] at h1
  apply toL_inj
  unfold decF
  rw [if_neg (by omega), toL_mk, if_pos (by simpa using h1)]
  exact hd
theorem decF_nil {x y : Str} (h0 : (x.length : Int) = 0) : x = decF x y := by
  unfold decF
  rw [if_pos (by omega)]
theorem strValues_len (l : List (Str × Tok)) : (strValues l).length = l.length := by
  rw [(strsAre_of_values l).length, List.length_map]

end

/-! QRead -/
section
theorem pick_from1 (vs : List Value) : slicePick vs.toArray (some 1) none none = (vs.drop 1).toArray := by
  cases vs with
  | nil => rfl
  | cons v r =>
    have e : sliceBounds (some 1) none none (v :: r).toArray.size = (((1 : Nat) : Int), (((v :: r).length : Nat) : Int), 1) := by
      unfold sliceBounds
      simp only [Option.getD_none, List.size_toArray, List.length_cons]
      simp only [show (1 : Int) > 0 by decide, show ¬ (1 : Int) < 0 by decide, if_true, if_false]
      have e1 : max (0 : Int) (min 1 ((r.length + 1 : Nat) : Int)) = ((1 : Nat) : Int) := by omega
      rw [e1]
    rw [kmk_pick_nat _ e]
    show ((r.take ((v :: r).length - 1))).toArray = r.toArray
    rw [List.length_cons, Nat.add_sub_cancel, List.take_length]
/-- a part behind a '=' -/
def partOut (p : List Nat) : List Nat := match p with
  | a :: b :: r => if isHex a && isHex b then (hexVal a * 16 + hexVal b) :: r else 61 :: a :: b :: r
  | l => 61 :: l
theorem partOut_pair (a b : Nat) (r : List Nat) : partOut (a :: b :: r) = if (isHex a && isHex b) = true then (hexVal a * 16 + hexVal b) :: r else 61 :: a :: b :: r := rfl
def RInv (x : Str) (p0 : Str) (i : Nat) (r : Str) : Prop := toL r = toL p0 ++ (((Txt.split x (Str.ofString "=")).drop 1).take i).flatMap fun p => partOut (toL p)
theorem RInv.start (x p0 : Str) : RInv x p0 0 p0 := by unfold RInv; simp

def figS : Str := Str.ofString "0123456789abcdef0123456789ABCDEF"
/-- the place of a figure in the table of figures, -1 if it is none -/
def figF (c : Nat) : Int := Txt.find (Str.ofString "0123456789abcdef0123456789ABCDEF") ⟨#[c]⟩
theorem fig_hexL : ∀ c ∈ hexL, 0 ≤ figF c ∧ figF c < 32 ∧ Int.fmod (figF c) 16 = (hexVal c : Int) := by decide +kernel
theorem fig_hex {c : Nat} (h : isHex c = true) : 0 ≤ figF c ∧ figF c < 32 ∧ Int.fmod (figF c) 16 = (hexVal c : Int) := fig_hexL c (of_decide_eq_true h)
theorem fig_in : ∀ c ∈ figS.cps.toList, c ∈ hexL := by decide +kernel
theorem fig_not {c : Nat} (h : isHex c = false) : figF c = -1 := by
  have h1 := StrLaws.found_one figS c
  have h2 : decide (c ∈ figS.cps.toList) = false := decide_eq_false fun hc => of_decide_eq_false h (fig_in c hc)
  rw [h2] at h1
  unfold figF Txt.find
  show (match Builtin.Str.occurrences figS ⟨#[c]⟩ 0 figS.length 1 with | i :: _ => (i : Int) | [] => -1) = -1
  cases e : Builtin.Str.occurrences figS ⟨#[c]⟩ 0 figS.length 1 with
  | nil => rfl
  | cons a r => rw [e] at h1; cases h1
theorem signs_slice {pt : Str} : signs (Txt.slice pt none (some 2)) = ((toL pt).take 2).map fun c => (⟨#[c]⟩ : Str) := by
  have h := slice_to (x := pt) (j := 2) (by decide)
  unfold signs
  show (toL (Txt.slice pt none (some 2))).map _ = _
  rw [h]
  rfl
theorem carried0 {ys : List Value} (h : CarriedAll ys []) : ys = [] := by cases h; rfl
theorem carried1 {ys : List Value} {p : Int} (h : CarriedAll ys [PyData.int p]) : ∃ t, ys = [.int p t] := by
  cases h with
  | cons h1 h2 => cases h1; cases h2; exact ⟨_, rfl⟩
theorem carried2 {ys : List Value} {p q : Int} (h : CarriedAll ys [PyData.int p, PyData.int q]) : ∃ t u, ys = [.int p t, .int q u] := by
  cases h with
  | cons h1 h2 => cases h1; cases h2 with | cons h3 h4 => cases h3; cases h4; exact ⟨_, _, rfl⟩
/-- a new list goes onto the ledger -/
theorem ledger_list {h₀ h : Heap} {L D : Addr} {m : Str → Option Value} {news : List (Addr × Obj)} {ys : List Value} (F : Fr h₀ L h m) (N : News h₀ L h news) (hD : h₀.get? D = none) (hp : NewPlain h news D ys.toArray) :
    ∃ n, News h₀ L h ((D, W.listOf ys.toArray n) :: news) := by
  obtain ⟨n, e⟩ := hp.1
  refine ⟨n, fun p hp' => ?_⟩
  rcases List.mem_cons.mp hp' with rfl | hp'
  · exact ⟨e, hp.ne_locals F, hD⟩
  · exact N p hp'

/-! reading by parts is reading by signs -/
theorem readL_free {p t : List Nat} (h : 61 ∉ p) : readL (p ++ t) = p ++ readL t := by
  induction p with
  | nil => rfl
  | cons a r ih =>
    rw [List.mem_cons, not_or] at h
    rw [List.cons_append, readL_plain (fun e => h.1 e.symm), ih h.2, List.cons_append]
theorem readL_eq1 {t : List Nat} (h : t = [] ∨ ∃ t', t = 61 :: t') : readL (61 :: t) = 61 :: readL t := by
  rcases h with rfl | ⟨t', rfl⟩
  · rfl
  · cases t' with
    | nil => exact readL_two
    | cons b r => exact readL_not (by rfl)
theorem readL_part {p t : List Nat} (h : 61 ∉ p) (ht : t = [] ∨ ∃ t', t = 61 :: t') : readL (61 :: (p ++ t)) = partOut p ++ readL t := by
  match p with
  | [] => exact readL_eq1 ht
  | [a] =>
    have ha : a ≠ 61 := fun e => h (by rw [e]; exact List.mem_singleton.mpr rfl)
    show readL (61 :: a :: t) = 61 :: a :: readL t
    rcases ht with rfl | ⟨t', rfl⟩
    · rw [readL_two, readL_plain ha]
    · rw [readL_not (by rw [show isHex 61 = false from by decide, Bool.and_false]), readL_plain ha]
  | a :: b :: r =>
    show readL (61 :: a :: b :: (r ++ t)) = partOut (a :: b :: r) ++ readL t
    have hr : 61 ∉ r := fun e => h (List.mem_cons_of_mem _ (List.mem_cons_of_mem _ e))
    rw [partOut_pair]
    cases hh : (isHex a && isHex b) with
    | true => rw [readL_hex hh, readL_free hr]; rfl
    | false =>
      rw [readL_not hh]
      have e : readL (a :: b :: (r ++ t)) = (a :: b :: r) ++ readL t := readL_free (p := a :: b :: r) h
      rw [e]
      rfl
theorem flat_head (l : List (List Nat)) : l.flatMap (fun p => 61 :: p) = [] ∨ ∃ t', l.flatMap (fun p => 61 :: p) = 61 :: t' := by
  cases l with
  | nil => exact .inl rfl
  | cons a r => exact .inr ⟨_, rfl⟩
theorem readL_rest (l : List (List Nat)) (h : ∀ p ∈ l, 61 ∉ p) : readL (l.flatMap fun p => 61 :: p) = l.flatMap partOut := by
  induction l with
  | nil => rfl
  | cons a r ih =>
    show readL (61 :: (a ++ r.flatMap fun p => 61 :: p)) = partOut a ++ r.flatMap partOut
    rw [readL_part (h a (List.mem_cons_self ..)) (flat_head r), ih fun p hp => h p (List.mem_cons_of_mem _ hp)]
theorem join_toL (y : Str) : ∀ (p : Str) (r : List Str), toL (Str.join y (p :: r)) = toL p ++ r.flatMap fun q => toL y ++ toL q
  | p, [] => by show toL p = toL p ++ []; rw [List.append_nil]
  | p, q :: r => by
    show toL (p ++ y ++ Str.join y (q :: r)) = _
    rw [toL_append, toL_append, join_toL y q r]
    simp
/-- the parts of a line -/
theorem split_parts (x : Str) : ∃ p r, Txt.split x (Str.ofString "=") = p :: r ∧ toL x = toL p ++ r.flatMap (fun q => 61 :: toL q) ∧ 61 ∉ toL p ∧ ∀ q ∈ r, 61 ∉ toL q := by
  have hj := StrLaws.join_split x ⟨#[61]⟩
  have hf := StrLaws.split_free x 61
  rw [eqS]
  cases e : Txt.split x ⟨#[61]⟩ with
  | nil =>
    rw [e] at hj
    exfalso
    have hx : x = ⟨#[]⟩ := hj.symm
    subst hx
    exact absurd e (by decide +kernel)
  | cons p r =>
    rw [e] at hj hf
    refine ⟨p, r, rfl, ?_, hf p (List.mem_cons_self ..), fun q hq => hf q (List.mem_cons_of_mem _ hq)⟩
    have h := join_toL ⟨#[61]⟩ p r
    rw [hj] at h
    exact h
noncomputable def rdF (x : Str) : Str := ⟨(readL (toL x)).toArray⟩
theorem RInv.done {x p0 r : Str} {n : Nat} (h : RInv x p0 n r) (h0 : (Txt.split x (Str.ofString "="))[0]? = some p0) (hn : n = ((Txt.split x (Str.ofString "=")).drop 1).length) : r = rdF x := by
  obtain ⟨p, l, e, hx, hp, hl⟩ := split_parts x
  unfold RInv at h
  rw [e] at h h0 hn
  have hp0 : p = p0 := Option.some.inj h0
  subst hp0
  have hn' : n = l.length := hn
  subst hn'
  apply toL_inj
  show toL r = readL (toL x)
  rw [h, hx, readL_free hp]
  show toL p ++ (l.take l.length).flatMap (fun q => partOut (toL q)) = _
  rw [List.take_length]
  have h1 := readL_rest (l.map toL) (by intro q hq; obtain ⟨q', hq', rfl⟩ := List.mem_map.mp hq; exact hl q' hq')
  rw [List.flatMap_map, List.flatMap_map] at h1
  rw [h1]
theorem partOut_len (p : List Nat) : (partOut p).length ≤ p.length + 1 := by
  unfold partOut
  split
  · split <;> simp
  · simp
theorem flat_take (l : List Str) (i : Nat) : ((l.take i).flatMap fun p => partOut (toL p)).length ≤ (l.flatMap fun q => 61 :: toL q).length := by
  induction l generalizing i with
  | nil => simp
  | cons a r ih =>
    cases i with
    | zero => simp
    | succ i =>
      have h1 := partOut_len (toL a)
      have h2 := ih i
      rw [List.take_succ_cons, List.flatMap_cons, List.flatMap_cons, List.length_append, List.length_append, List.length_cons]
      omega
theorem RInv.size {x p0 r : Str} {i : Nat} (h : RInv x p0 i r) (h0 : (Txt.split x (Str.ofString "="))[0]? = some p0) : r.length ≤ x.length := by
  obtain ⟨p, l, e, hx, hp, hl⟩ := split_parts x
  unfold RInv at h
  rw [e] at h h0
  have hp0 : p = p0 := Option.some.inj h0
  subst hp0
  have h1 := congrArg List.length h
  have h2 := congrArg List.length hx
  have h3 := flat_take l i
  rw [List.length_append, toL_len] at h1 h2
  have h4 : (((p :: l).drop 1).take i) = l.take i := rfl
  rw [h4] at h1
  omega
theorem RInv.step {x p0 r r' pt : Str} {i : Nat} (h : RInv x p0 i r) (hp : (Txt.split x (Str.ofString "="))[1 + i]? = some pt) (hr : toL r' = toL r ++ partOut (toL pt)) : RInv x p0 (i + 1) r' := by
  unfold RInv at h ⊢
  have hp' : ((Txt.split x (Str.ofString "=")).drop 1)[i]? = some pt := by rw [List.getElem?_drop]; exact hp
  rw [hr, h, List.take_add_one, hp']
  simp
theorem RInv.stands {x p0 r pt : Str} {i : Nat} (h : RInv x p0 i r) (hp : (Txt.split x (Str.ofString "="))[1 + i]? = some pt) (hq : partOut (toL pt) = 61 :: toL pt) : RInv x p0 (i + 1) (r ++ Str.ofString "=" ++ pt) := by
  refine h.step hp ?_
  rw [hq, eqS, toL_append, toL_append, toL_one]
  simp
theorem out0 {pt : Str} (h : toL pt = []) : partOut (toL pt) = 61 :: toL pt := by rw [h]; rfl
theorem out1 {pt : Str} {p : Nat} (h : toL pt = [p]) : partOut (toL pt) = 61 :: toL pt := by rw [h]; rfl
theorem out2 {pt : Str} {p q : Nat} {l : List Nat} {M : Int} (h : toL pt = p :: q :: l) (ha : M = figF p ∨ M = figF q) (hM : ¬ 0 ≤ M) : partOut (toL pt) = 61 :: toL pt := by
  rw [h, partOut_pair, if_neg]
  intro hh
  rw [Bool.and_eq_true] at hh
  have h1 := (fig_hex hh.1).1
  have h2 := (fig_hex hh.2).1
  rcases ha with rfl | rfl <;> omega
theorem RInv.pair {x p0 r pt : Str} {i : Nat} {p q : Nat} {l : List Nat} {M : Int} (h : RInv x p0 i r) (hp : (Txt.split x (Str.ofString "="))[1 + i]? = some pt) (hl : toL pt = p :: q :: l) (hb : M ≤ figF p ∧ M ≤ figF q) (hM : 0 ≤ M) :
    RInv x p0 (i + 1) (r ++ ⟨#[(Int.fmod (figF p) 16 * 16 + Int.fmod (figF q) 16).toNat]⟩ ++ Txt.slice pt (some 2) none) := by
  have hpx : isHex p = true := by
    cases e : isHex p with
    | true => rfl
    | false => have := fig_not e; omega
  have hqx : isHex q = true := by
    cases e : isHex q with
    | true => rfl
    | false => have := fig_not e; omega
  refine h.step hp ?_
  rw [toL_append, toL_append, toL_one, slice_from (by decide), hl, (fig_hex hpx).2.2, (fig_hex hqx).2.2]
  rw [partOut_pair, if_pos (by rw [hpx, hqx]; rfl)]
  have e : ((hexVal p : Int) * 16 + (hexVal q : Int)).toNat = hexVal p * 16 + hexVal q := by omega
  rw [e]
  simp

end

/-! QComp -/
section
section
variable {prog : Program} {w : World} {A : Around} {E : Value → Shared → Prop} {s : Shared} {h₀ : Heap} {L : Addr} {m : Str → Option Value} {env : Env}

theorem filter_all {α : Type} (l : List α) : l.filter (fun _ => true) = l := List.filter_eq_self.mpr fun _ _ => rfl

/-- a comprehension over a text's signs that names what the def around it holds in a cell -/
theorem assign_signsC {elt iter : Expr} {x y : Str} {px py : Pos} {scope : Scope} {cl : List (Str × Addr)} {pos spos : Pos} {Q : Flow → Shared → Prop} (d : Str → PyData) (_F₀ : Fr h₀ L s.heap m)
    (hsw : swapsWith (.ListComp elt [⟨.Name x px, iter, [], 0⟩] scope pos) (some (.Name y py)) spos.line env = pure true) (hL : env.locals = L)
    (hh : A.handled = none) (hclos : closureFor scope env = pure cl) (hcell : ∀ z ∈ scope.names, z.2 ≠ .cell) (hkind : scope.kind = .function)
    (hnames : ∀ z ∈ scope.names, z.2 = .local → scope.names.lookup z.1 = some .local) (hx : scope.names.lookup x = some .local)
    (hy : env.kindOf y = some .local) (hp : (env.scope.kind == .class || (env.scope.kind == .module && env.locals != env.globals)) = false)
    (h : wpAny (model prog w) A (eval iter env) (fun xv s₁ => Stop (∃ news : List (Addr × Obj), ∃ z t, xv = .str z t ∧ z.length ≤ sizeLine ∧ Fr h₀ L s₁.heap m ∧ News h₀ L s₁.heap news ∧
      (∀ C a v s₂ m₂ E', s₁.heap.objs.size ≤ C → a ∈ signs z → ItemKind.str.is a v → s₂.heap.Ns (compEnvC scope cl C env).locals m₂ → m₂ x = some v → (∀ b o, s₁.heap.get? b = some o → s₂.heap.get? b = some o) →
        wpAny (model prog w) A (eval elt (compEnvC scope cl C env)) (fun r s₃ => Stop (Carried r (d a) ∧ Keeps s₂ s₃)) E' s₂) ∧
      (∀ D (ys : List Value) h' tk, Fr h₀ L h' (fun q => if q = y then some (.ref D) else m q) → News h₀ L h' news → h₀.get? D = none → h'.IsList D ys.toArray → NewPlain h' news D ys.toArray → CarriedAll ys ((signs z).map d) → Q .next { s₁ with heap := h', toks := tk }))) E s)
    (hs : ∀ x, foldedSetIterable iter env x = pure x) :
    wpAny (model prog w) A (exec (.Assign [.Name y py] (.ListComp elt [⟨.Name x px, iter, [], 0⟩] scope pos) spos) env) Q E s := by
  refine wpAny_Assign_ListComp_free (fun _ => true) (fun v r => ∃ a, ItemKind.str.is a v ∧ Carried r (d a)) hsw hclos hcell hkind hnames hx hy hp
    (wpAny_mono h (fun xv s₁ h₁ => ?_) fun _ _ e => e) hs
  obtain ⟨news, z, t, rfl, hsz, F, N, helt, hQ⟩ := h₁
  refine wpAny_pyIter_str fun o St W hst => ?_
  have up : ∀ (h' : Heap), (∀ b o', b ∉ [s₁.heap.objs.size] → (s₁.heap.push o).get? b = some o' → h'.get? b = some o') → ∀ b o', s₁.heap.get? b = some o' → h'.get? b = some o' :=
    fun h' hk b o' e => hk b o' (old_not_new e) (Heap.get?_push_of_some _ e)
  refine ⟨s₁.heap.objs.size, [s₁.heap.objs.size], [s₁.heap.objs.size], z.cps.size, SignAt z, St, m, rfl, W A hh, hsz, hst, ?_, ?_, hL ▸ (F.push o).ns, ⟨?_, ?_⟩, ?_⟩
  · intro b hb
    show b < (s₁.heap.push o).objs.size
    rw [Heap.size_push, List.mem_singleton.mp hb]
    exact Nat.lt_succ_self _
  · intro hm
    rw [hL] at hm
    exact absurd F.ns.lt ((List.mem_singleton.mp hm) ▸ Nat.lt_irrefl _)
  · intro C i v s₃ m₃ E' _ hP hn hm hk _
    exact wpAny_pure ⟨rfl, s₃.heap, s₃.toks, rfl, fun _ _ e => e⟩
  · intro C i v s₃ m₃ E' hC hP _ hn hm hk _
    obtain ⟨c, u, hc, rfl⟩ := hP
    have ha : ItemKind.str.is ⟨#[c]⟩ (.str ⟨#[c]⟩ u) := ⟨u, rfl⟩
    exact wpAny_mono (helt C _ _ s₃ m₃ E' (Nat.le_of_succ_le (by simpa [Heap.size_push] using hC)) (List.mem_of_getElem? (i := i) (by simp [signs, hc])) ha hn hm (up _ hk)) (fun r s₄ h₄ => ⟨⟨_, ha, h₄.1⟩, h₄.2⟩) fun _ _ e => e
  · intro D h' tk ys vs hnew hlD hplD hlen hP hF hn' hk
    rw [hL] at hn' hk
    have hfil : vs.filter (ItemKind.str.lift fun _ => true) = vs := by
      refine List.filter_eq_self.mpr fun v hv => ?_
      obtain ⟨j, hj⟩ := List.getElem?_of_mem hv
      obtain ⟨c, u, _, rfl⟩ := hP j v hj
      exact ItemKind.lift_is (⟨u, rfl⟩ : ItemKind.str.is ⟨#[c]⟩ (.str ⟨#[c]⟩ u))
    have hc := (areOf_signs hlen hP).paired (fun _ => true) d ys.toList (by rw [filter_all] at hF; rw [hfil]; exact hF)
    rw [filter_all] at hc
    refine hQ D ys.toList h' tk ⟨hn', fun b o' e => hk b o' (Nat.ne_of_lt (Nat.lt_of_lt_of_le (Heap.lt_size e) F.above)) (old_not_new (F.keep b o' e)) (Heap.get?_push_of_some _ (F.keep b o' e)), F.above⟩
      (fun p hp => ⟨hk _ _ (N p hp).2.1 (old_not_new (N p hp).1) (Heap.get?_push_of_some _ (N p hp).1), (N p hp).2⟩) ?_ (by rw [Array.toArray_toList]; exact hlD) ⟨by rw [Array.toArray_toList]; exact hplD, fun p hp e => by rw [← e, Heap.get?_push_of_some _ (N p hp).1] at hnew; cases hnew⟩ hc
    cases e : h₀.get? D with
    | none => rfl
    | some o' => rw [Heap.get?_push_of_some _ (F.keep _ _ e)] at hnew; cases hnew
end

end

/-! QDue -/
section
open Builtin Builtin.Str in
/-- str.replace, the count of the tokens not falling -/
theorem replaceT {prog : Program} {w : World} {A : Around} {E : Value → Shared → Prop} {s : Shared} {x y z : Str} {t u v : Tok} {Q : Value → Shared → Prop} (hu : u ≠ 0) (hv : v ≠ 0) (huv : u ≠ v) (hyz : (y == z) = false) (hx : x.length ≤ 1048576) (hz : z.length ≤ 14)
    (hq : ∀ t' k, s.toks ≤ k → Q (.str (Txt.replace x y z) t') { s with toks := k }) : wpAny (model prog w) A (call (.builtin "str.replace") [.str x t, .str y u, .str z v]) Q E s := by
  have hb : x.length + (x.length + 1) * z.length ≤ 16777216 := by
    have h1 : (x.length + 1) * z.length ≤ (x.length + 1) * 14 := Nat.mul_le_mul_left _ hz
    omega
  have hl : tooLong (x.length + (occurrences x y 0 x.length (x.length + 1)).length * z.length) = false := by
    have h1 := StrLaws.occ_length_le x y 0 x.length (x.length + 1)
    have h2 : (occurrences x y 0 x.length (x.length + 1)).length * z.length ≤ (x.length + 1) * z.length := Nat.mul_le_mul_right _ h1
    have e : (2 : Nat) ^ 24 = 16777216 := by decide
    unfold tooLong sizeLine
    exact decide_eq_false (by omega)
  refine call_gives F.slot_str_replace (typeIs_str _ _ _) F.entry_str_replace (F.args_str_replace_3 _ _ _)
    (gives_str_replace x y z t u v fun _ => ⟨by simp [hu, hv], by simp [huv], hyz, hl⟩) ?_
  have hq' := hq
  unfold Txt.replace at hq'
  cases hc : ((occurrences x y 0 x.length (x.length + 1)).isEmpty || (y.length == 0 && z.length == 0))
  · rw [hc] at hq'
    simp only [Bool.false_eq_true, if_false] at hq' ⊢
    exact ⟨fits_replaced y hb, hq' _ _ (Nat.le_succ _)⟩
  · rw [hc] at hq'
    simp only [if_true] at hq' ⊢
    exact hq' t s.toks (Nat.le_refl _)

theorem rdF_len (x : Str) : (rdF x).length ≤ x.length := by
  have h := readL_len _ (toL x) (Nat.le_refl _)
  rw [toL_len] at h
  rw [← toL_len (rdF x)]
  exact h
theorem due_led {g h : Heap} {L a b : Addr} {o₁ o₂ : Obj} {news own : List (Addr × Obj)} {adr : List Addr} (N : News g L h (((a, o₁) :: (b, o₂) :: news) ++ own)) (l1 : b < a ∧ AllLt a news) (hoff : OwnOff own (a :: adr)) :
    News g L h ((a, o₁) :: ((b, o₂) :: (news ++ own))) ∧ ∀ p ∈ ((b, o₂) :: (news ++ own)), p.1 ≠ a :=
  ⟨N, List.forall_mem_cons.mpr ⟨Nat.ne_of_lt l1.1, List.forall_mem_append.mpr ⟨fun p hp => Nat.ne_of_lt (kst_ltOf l1.2 p hp), fun p hp => hoff p hp _ (List.mem_cons_self ..)⟩⟩⟩

/-- a row's share: the last one none if it is empty -/
noncomputable def rowOut (mark : List Nat) (last : Bool) (row : Str) : List Nat := if last = true ∧ row.length = 0 then [] else lineOut mark (toL (Txt.rstripChars row (Str.ofString " \t")))
noncomputable def rowAt (rows : List Str) (mark : List Nat) (k : Nat) : List Nat := rowOut mark (k + 1 == rows.length) (rows.getD k Str.empty)
noncomputable def rowsTo (rows : List Str) (mark : List Nat) (k : Nat) : List Nat := (List.range k).flatMap (rowAt rows mark)
theorem rowsTo_succ (rows : List Str) (mark : List Nat) (k : Nat) : rowsTo rows mark (k + 1) = rowsTo rows mark k ++ rowAt rows mark k := by
  unfold rowsTo
  rw [List.range_succ, List.flatMap_append]
  simp
/-- between two rows: the list of what has been read -/
def QInv (rows : List Str) (y : Str) (k : Nat) (vs : List Value) : Prop := ∃ ws, StrsAre vs ws ∧ ws.length ≤ k ∧ ws.flatMap toL = rowsTo rows (toL y) k
theorem QInv.start (rows : List Str) (y : Str) : QInv rows y 0 [] := ⟨[], .nil, Nat.le_refl _, rfl⟩

theorem toL_nil_of {b : Str} (h : b.length = 0) : toL b = [] := List.length_eq_zero_iff.mp (by rw [toL_len]; exact h)
theorem tail_eq {b : Str} : (Txt.slice b (some (-1)) none == Str.ofString "=") = decide ((toL b).getLast? = some 61) := by
  rw [eqS]
  by_cases h0 : b.length = 0
  · have h1 : toL (Txt.slice b (some (-1)) none) = [] := toL_nil_of (by have := Txt.slice_le b (some (-1)) none; omega)
    have e : (toL b).getLast? = none := by rw [toL_nil_of h0]; rfl
    rw [e]
    have h2 : Txt.slice b (some (-1)) none ≠ ⟨#[61]⟩ := by intro e2; rw [e2] at h1; cases h1
    simp [h2]
  · have h1 : toL (Txt.slice b (some (-1)) none) = (toL b).drop (b.length - 1) := slice_from_neg (x := b) (k := 1) (by decide) (by omega)
    have hlt : b.length - 1 < (toL b).length := by rw [toL_len]; omega
    have h2 : (toL b).drop (b.length - 1) = [(toL b)[b.length - 1]] := by
      rw [List.drop_eq_getElem_cons hlt, List.drop_eq_nil_of_le (by rw [toL_len]; omega)]
    have h3 : (toL b).getLast? = some ((toL b)[b.length - 1]) := by
      rw [List.getLast?_eq_getElem?, toL_len]
      exact List.getElem?_eq_getElem hlt
    rw [h3]
    rw [h2] at h1
    by_cases h4 : (toL b)[b.length - 1] = 61
    · rw [h4] at h1
      have e : Txt.slice b (some (-1)) none = ⟨#[61]⟩ := toL_inj h1
      rw [e, h4]
      rfl
    · have e : Txt.slice b (some (-1)) none ≠ ⟨#[61]⟩ := by
        intro e2
        rw [e2] at h1
        exact h4 (List.cons.inj h1).1.symm
      simp [e, h4]
theorem init_eq {b : Str} (h : b.length ≠ 0) : toL (Txt.slice b none (some (-1))) = (toL b).dropLast := by
  have h1 : toL (Txt.slice b none (some (-1))) = (toL b).take (b.length - 1) := slice_to_neg (x := b) (k := 1) (by decide) (by omega)
  rw [h1, List.dropLast_eq_take, toL_len]
theorem rowAt_eq {R : List Str} {m : List Nat} {k : Nat} {row : Str} (h : R[k]? = some row) : rowAt R m k = rowOut m (k + 1 == R.length) row := by
  unfold rowAt
  rw [List.getD_eq_getElem?_getD, h]
  rfl
theorem strs_snoc' {vs : List Value} {ws : List Str} {x : Str} {t : Tok} (h : StrsAre vs ws) : StrsAre (vs ++ [.str x t]) (ws ++ [x]) := kct_snoc h
theorem QInv.push {R : List Str} {y v : Str} {pre : List Int} {k : Int} {vs : List Value} {t : Tok} (hk : k = (pre.length : Int)) (h : QInv R y pre.length vs) (hv : toL v = rowAt R (toL y) k.toNat) : QInv R y (pre ++ [k]).length (vs ++ [.str v t]) := by
  subst hk
  obtain ⟨ws, h1, h2, h3⟩ := h
  rw [Int.toNat_natCast] at hv
  refine ⟨ws ++ [v], strs_snoc' h1, ?_, ?_⟩
  · simp; exact h2
  · rw [List.length_append, List.length_singleton, rowsTo_succ, List.flatMap_append, h3, ← hv]
    simp
theorem QInv.soft {R : List Str} {y row : Str} {pre : List Int} {k : Int} {vs : List Value} {t : Tok} (hk : k = (pre.length : Int)) (h : QInv R y pre.length vs) (hr : R[k.toNat]? = some row)
    (e : (Txt.slice (Txt.rstripChars row (Str.ofString " \t")) (some (-1)) none == Str.ofString "=") = true) :
    QInv R y (pre ++ [k]).length (vs ++ [.str (rdF (Txt.slice (Txt.rstripChars row (Str.ofString " \t")) none (some (-1)))) t]) := by
  refine h.push hk ?_
  rw [tail_eq, decide_eq_true_eq] at e
  have hb : (Txt.rstripChars row (Str.ofString " \t")).length ≠ 0 := by
    intro h0
    rw [toL_nil_of h0] at e
    cases e
  have hrl : row.length ≠ 0 := by have := len_rstripChars row (Str.ofString " \t"); omega
  rw [rowAt_eq hr]
  unfold rowOut lineOut
  rw [if_neg (fun h => hrl h.2), if_pos e, ← init_eq hb]
  rfl
theorem QInv.hard {R : List Str} {y row : Str} {pre : List Int} {k : Int} {vs : List Value} {t : Tok} (hk : k = (pre.length : Int)) (h : QInv R y pre.length vs) (hr : R[k.toNat]? = some row)
    (e : (Txt.slice (Txt.rstripChars row (Str.ofString " \t")) (some (-1)) none == Str.ofString "=") = false) (hl : k < (R.length : Int) - 1 ∨ row.length ≠ 0) :
    QInv R y (pre ++ [k]).length (vs ++ [.str (rdF (Txt.rstripChars row (Str.ofString " \t")) ++ y) t]) := by
  refine h.push hk ?_
  rw [tail_eq, decide_eq_false_iff_not] at e
  rw [rowAt_eq hr, toL_append]
  unfold rowOut lineOut
  rw [if_neg, if_neg e]
  · rfl
  · rintro ⟨h1, h2⟩
    rcases hl with hl | hl
    · have := eq_of_beq h1
      omega
    · exact hl h2
theorem QInv.none {R : List Str} {y row : Str} {pre : List Int} {k : Int} {vs : List Value} (hk : k = (pre.length : Int)) (h : QInv R y pre.length vs) (hr : R[k.toNat]? = some row) (hl : ¬ k < (R.length : Int) - 1) (h0 : row.length = 0) :
    QInv R y (pre ++ [k]).length vs := by
  subst hk
  rw [Int.toNat_natCast] at hr
  obtain ⟨ws, h1, h2, h3⟩ := h
  refine ⟨ws, h1, ?_, ?_⟩
  · simp; omega
  · rw [List.length_append, List.length_singleton, rowsTo_succ, rowAt_eq hr]
    unfold rowOut
    have hlt := (List.getElem?_eq_some_iff.mp hr).1
    rw [if_pos ⟨by rw [beq_iff_eq]; omega, h0⟩, List.append_nil]
    exact h3
theorem ne_empty {r : Str} (h : (r != Str.ofString "") = true) : r.length ≠ 0 := by
  intro h0
  have e : r = Str.ofString "" := toL_inj (by rw [toL_nil_of h0]; decide +kernel)
  rw [e] at h
  exact absurd h (by decide +kernel)
theorem is_empty {r : Str} (h : (r != Str.ofString "") = false) : r.length = 0 := by
  have e : r = Str.ofString "" := by simpa using h
  rw [e]
  decide +kernel

end

/-! QRows -/
section
open StrLaws Builtin Builtin.Str

/-- CRLF made LF -/
noncomputable def crlf : List Nat → List Nat
  | 13 :: 10 :: r => 10 :: crlf r
  | c :: r => c :: crlf r
  | [] => []
theorem crlf_pair (r : List Nat) : crlf (13 :: 10 :: r) = 10 :: crlf r := by rw [crlf]
theorem crlf_one {c : Nat} {r : List Nat} (h : ¬ (c = 13 ∧ r.head? = some 10)) : crlf (c :: r) = c :: crlf r := by
  rw [crlf]
  intro r' e1 e2
  subst e1 e2
  exact h ⟨rfl, rfl⟩
theorem crlf_len : ∀ (n : Nat) (l : List Nat), l.length ≤ n → (crlf l).length ≤ l.length := by
  intro n
  induction n with
  | zero => intro l h; have : l = [] := List.length_eq_zero_iff.mp (by omega); subst this; exact Nat.le_refl _
  | succ n ih =>
    intro l h
    match l with
    | [] => exact Nat.le_refl _
    | c :: r =>
      by_cases hc : c = 13 ∧ r.head? = some 10
      · obtain ⟨rfl, h2⟩ := hc
        match r, h2 with
        | 10 :: r', _ => rw [crlf_pair]; have := ih r' (by simp at h; omega); simp; omega
      · rw [crlf_one hc]; have := ih r (by simp at h; omega); simp; omega
theorem crS : Str.ofString "\r\n" = ⟨#[13, 10]⟩ := by decide +kernel
theorem nS : Str.ofString "\n" = ⟨#[10]⟩ := by decide +kernel
theorem rS : Str.ofString "\r" = ⟨#[13]⟩ := by decide +kernel
theorem at_crlf {x : Str} {i : Nat} : At x ⟨#[13, 10]⟩ x.length i ↔ ∃ t, (toL x).drop i = 13 :: 10 :: t := by
  unfold At
  rw [subAt_eq]
  show (i + 2 ≤ x.length ∧ (((toL x).drop i).take 2 == [13, 10]) = true) ↔ _
  rw [beq_iff_eq]
  constructor
  · rintro ⟨_, h2⟩
    match hd : (toL x).drop i with
    | [] => rw [hd] at h2; cases h2
    | [a] => rw [hd] at h2; simp at h2
    | a :: b :: t => rw [hd] at h2; simp at h2; obtain ⟨rfl, rfl⟩ := h2; exact ⟨t, rfl⟩
  · rintro ⟨t, ht⟩
    rw [ht]
    refine ⟨?_, rfl⟩
    have := congrArg List.length ht
    rw [List.length_drop, toL_len] at this
    simp at this
    omega
/-- no CRLF within: it stays -/
theorem crlf_free (l : List Nat) : ∀ (n a : Nat), l.length - a ≤ n → (∀ k, a ≤ k → ¬ ∃ t, l.drop k = 13 :: 10 :: t) → crlf (l.drop a) = l.drop a := by
  intro n
  induction n with
  | zero => intro a h _; rw [List.drop_eq_nil_of_le (by omega)]; rfl
  | succ n ih =>
    intro a h hn
    by_cases hlt : a < l.length
    · rw [List.drop_eq_getElem_cons hlt, crlf_one, ih (a + 1) (by omega) fun k hk => hn k (by omega)]
      rintro ⟨h1, h2⟩
      refine hn a (Nat.le_refl _) ⟨(l.drop (a + 1)).tail, ?_⟩
      rw [List.drop_eq_getElem_cons hlt, h1]
      congr 1
      cases hd : l.drop (a + 1) with
      | nil => rw [hd] at h2; cases h2
      | cons b t => rw [hd] at h2; rw [Option.some.inj h2]; rfl
    · rw [List.drop_eq_nil_of_le (by omega)]; rfl
theorem crlf_upto (l t : List Nat) : ∀ (n a i : Nat), i - a = n → a ≤ i → l.drop i = 13 :: 10 :: t → (∀ k, a ≤ k → k < i → ¬ ∃ t, l.drop k = 13 :: 10 :: t) → crlf (l.drop a) = (l.drop a).take (i - a) ++ 10 :: crlf t := by
  intro n
  induction n with
  | zero =>
    intro a i h hai hd _
    have e : a = i := by omega
    subst e
    rw [hd, crlf_pair, Nat.sub_self]
    rfl
  | succ n ih =>
    intro a i h hai hd hn
    have hlt : a < l.length := by
      by_cases hlt : i < l.length
      · omega
      · rw [List.drop_eq_nil_of_le (by omega)] at hd; cases hd
    have e : i - a = (i - (a + 1)) + 1 := by omega
    rw [e]
    conv => lhs; rw [List.drop_eq_getElem_cons hlt]
    conv => rhs; rw [List.drop_eq_getElem_cons hlt]
    rw [crlf_one, ih (a + 1) i (by omega) (by omega) hd fun k hk => hn k (by omega), List.take_succ_cons, List.cons_append]
    rintro ⟨h1, h2⟩
    refine hn a (Nat.le_refl _) (by omega) ⟨(l.drop (a + 1)).tail, ?_⟩
    rw [List.drop_eq_getElem_cons hlt, h1]
    congr 1
    cases hd : l.drop (a + 1) with
    | nil => rw [hd] at h2; cases h2
    | cons b t => rw [hd] at h2; rw [Option.some.inj h2]; rfl
theorem sub_list (x : Str) (a b : Nat) : toL (strSub x a b) = ((toL x).drop a).take (b - a) := strSub_toList x a b
theorem crlf_parts (x : Str) : ∀ (cuts : List Nat) (a f : Nat), ChainG x ⟨#[13, 10]⟩ x.length a cuts f → (∀ k, f ≤ k → ¬ At x ⟨#[13, 10]⟩ x.length k) →
    toL (Str.join ⟨#[10]⟩ (partsFrom x 2 a cuts)) = crlf ((toL x).drop a)
  | [], a, f, h, hn => by
    have e : f = a := h
    subst e
    show toL (strSub x f x.length) = _
    rw [sub_list, crlf_free (toL x) _ f (Nat.le_refl _) fun k hk ht => hn k hk (at_crlf.mpr ht), List.take_of_length_le]
    rw [List.length_drop, toL_len]
    exact Nat.le_refl _
  | c :: r, a, f, h, hn => by
    obtain ⟨h1, h2, h3, h4⟩ := h
    have ih := crlf_parts x r (c + 2) f h4 hn
    obtain ⟨t, ht⟩ := at_crlf.mp h2
    rw [crlf_upto (toL x) t _ a c rfl h1 ht fun k hk hk2 ht' => h3 k hk hk2 (at_crlf.mpr ht')]
    obtain ⟨p, q, e⟩ := partsFrom_ne x 2 (c + 2) r
    show toL (Str.join ⟨#[10]⟩ (strSub x a c :: partsFrom x 2 (c + 2) r)) = _
    rw [e, join_toL]
    rw [e, join_toL] at ih
    have e2 : (toL x).drop (c + 2) = t := by
      rw [← List.drop_drop, ht]
      rfl
    rw [e2] at ih
    rw [← ih, sub_list]
    simp [toL_one]
theorem replace_crlf (x : Str) : toL (Txt.replace x (Str.ofString "\r\n") (Str.ofString "\n")) = crlf (toL x) := by
  rw [crS, nS]
  obtain ⟨f, h1, h2⟩ := occ_tight x ⟨#[13, 10]⟩ (by decide)
  have h3 := crlf_parts x _ 0 f h1 h2
  rw [List.drop_zero] at h3
  unfold Txt.replace
  split
  · rename_i he
    have he' : (occurrences x ⟨#[13, 10]⟩ 0 x.length (x.length + 1)).isEmpty = true := by
      rw [Bool.or_eq_true] at he
      rcases he with he | he
      · exact he
      · exact absurd he (by decide)
    rw [List.isEmpty_iff] at he'
    rw [he'] at h3
    rw [← h3]
    show toL x = toL (strSub x 0 x.length)
    rw [sub_whole]
  · rw [glued_eq_join, partsBetween_eq]
    exact h3
/-- the parts of a text -/
theorem split_any (x : Str) (c : Nat) : ∃ p r, Txt.split x ⟨#[c]⟩ = p :: r ∧ toL x = toL p ++ r.flatMap (fun q => c :: toL q) ∧ c ∉ toL p ∧ ∀ q ∈ r, c ∉ toL q := by
  have hj := join_split x ⟨#[c]⟩
  have hf := split_free x c
  cases e : Txt.split x ⟨#[c]⟩ with
  | nil =>
    exfalso
    unfold Txt.split at e
    split at e
    · cases e
    · split at e
      · cases e
      · rw [partsBetween_eq] at e
        obtain ⟨p, q, e2⟩ := partsFrom_ne x (⟨#[c]⟩ : Str).length 0 (occurrences x ⟨#[c]⟩ 0 x.length (x.length + 1))
        rw [e2] at e
        cases e
  | cons p r =>
    rw [e] at hj hf
    refine ⟨p, r, rfl, ?_, hf p (List.mem_cons_self ..), fun q hq => hf q (List.mem_cons_of_mem _ hq)⟩
    have h := join_toL ⟨#[c]⟩ p r
    rw [hj] at h
    exact h
def lf (c : Nat) : Nat := if c = 13 then 10 else c
theorem map_free {l : List Nat} (h : 13 ∉ l) : l.map lf = l := by
  induction l with
  | nil => rfl
  | cons a r ih =>
    rw [List.mem_cons, not_or] at h
    rw [List.map_cons, ih h.2]
    unfold lf
    rw [if_neg fun e => h.1 e.symm]
theorem replace_cr (x : Str) : toL (Txt.replace x (Str.ofString "\r") (Str.ofString "\n")) = (toL x).map lf := by
  rw [rS, nS, replace_one]
  obtain ⟨p, r, e, hx, hp, hr⟩ := split_any x 13
  rw [e, join_toL, hx, List.map_append, map_free hp]
  congr 1
  clear hx e hp
  induction r with
  | nil => rfl
  | cons a r ih =>
    rw [List.flatMap_cons, List.flatMap_cons, List.map_append, ih fun q hq => hr q (List.mem_cons_of_mem _ hq), List.map_cons, map_free (hr a (List.mem_cons_self ..))]
    rfl
theorem norm_len1 (x : Str) : (Txt.replace x (Str.ofString "\r\n") (Str.ofString "\n")).length ≤ x.length := by
  rw [← toL_len, replace_crlf, ← toL_len x]
  exact crlf_len _ _ (Nat.le_refl _)
theorem norm_len2 (x : Str) : (Txt.replace x (Str.ofString "\r") (Str.ofString "\n")).length = x.length := by
  rw [← toL_len, replace_cr, List.length_map, toL_len]
theorem flat_count (c : Nat) (r : List Str) : r.length ≤ (r.flatMap fun q => c :: toL q).length := by
  induction r with
  | nil => exact Nat.le_refl _
  | cons a r ih => rw [List.flatMap_cons, List.length_append, List.length_cons, List.length_cons]; omega
theorem split_count (x : Str) (c : Nat) : (Txt.split x ⟨#[c]⟩).length ≤ x.length + 1 := by
  obtain ⟨p, r, e, hx, _, _⟩ := split_any x c
  have h := congrArg List.length hx
  rw [List.length_append, toL_len] at h
  have h2 := flat_count c r
  rw [e, List.length_cons]
  omega

theorem QInv.len {R : List Str} {y : Str} {k : Nat} {vs : List Value} (h : QInv R y k vs) : vs.length ≤ k := by
  obtain ⟨ws, h1, h2, _⟩ := h
  rw [h1.length]
  exact h2
def normS (x : Str) : Str := Txt.replace (Txt.replace x (Str.ofString "\r\n") (Str.ofString "\n")) (Str.ofString "\r") (Str.ofString "\n")
def rowsS (x : Str) : List Str := Txt.split (normS x) (Str.ofString "\n")
noncomputable def dueL (x y : Str) : List Nat := rowsTo (rowsS x) (toL y) (rowsS x).length
noncomputable def dueF (x y : Str) : Str := ⟨(if (rowsS x).getLast? = some Str.empty then dueL x y else cutMark (toL y) (dueL x y)).toArray⟩

theorem rowOut_len (m : List Nat) (b : Bool) (row : Str) : (rowOut m b row).length ≤ row.length + m.length := by
  unfold rowOut
  split
  · simp
  · have h := lineOut_len m (toL (Txt.rstripChars row (Str.ofString " \t")))
    rw [toL_len] at h
    have := len_rstripChars row (Str.ofString " \t")
    omega
theorem rowsTo_len (R : List Str) (m : List Nat) : ∀ k, k ≤ R.length → (rowsTo R m k).length ≤ ((R.take k).map (·.length)).sum + k * m.length := by
  intro k
  induction k with
  | zero => intro _; simp [rowsTo]
  | succ k ih =>
    intro hk
    have hlt : k < R.length := hk
    have h1 := ih (by omega)
    have h2 : (rowAt R m k).length ≤ R[k].length + m.length := by
      rw [rowAt_eq (row := R[k]) (by simp [hlt])]
      exact rowOut_len _ _ _
    rw [rowsTo_succ, List.length_append, List.take_add_one, List.getElem?_eq_getElem hlt]
    simp only [Option.toList_some, List.map_append, List.map_cons, List.map_nil, List.sum_append, List.sum_cons, List.sum_nil]
    rw [Nat.succ_mul]
    omega
theorem flat_sum (c : Nat) (r : List Str) : (r.flatMap fun q => c :: toL q).length = (r.map (·.length)).sum + r.length := by
  induction r with
  | nil => rfl
  | cons a r ih => rw [List.flatMap_cons, List.length_append, List.length_cons, List.map_cons, List.sum_cons, List.length_cons, ih, toL_len]; omega
theorem split_sum (x : Str) (c : Nat) : ((Txt.split x ⟨#[c]⟩).map (·.length)).sum ≤ x.length := by
  obtain ⟨p, r, e, hx, _, _⟩ := split_any x c
  have h := congrArg List.length hx
  rw [List.length_append, toL_len, toL_len, flat_sum] at h
  rw [e, List.map_cons, List.sum_cons]
  omega
theorem sum_flat (ws : List Str) : (ws.map (·.length)).sum = (ws.flatMap toL).length := by
  induction ws with
  | nil => rfl
  | cons a r ih => rw [List.flatMap_cons, List.length_append, List.map_cons, List.sum_cons, ih, toL_len]
theorem due_size {z y : Str} {ws : List Str} (hz : z.length ≤ 4000) (hy : y.length ≤ 40) (h : ws.flatMap toL = rowsTo (Txt.split z (Str.ofString "\n")) (toL y) (Txt.split z (Str.ofString "\n")).length) : (ws.map (·.length)).sum ≤ 200000 := by
  rw [sum_flat, h]
  have h1 := rowsTo_len (Txt.split z (Str.ofString "\n")) (toL y) _ (Nat.le_refl _)
  rw [List.take_length, toL_len] at h1
  have h2 := split_sum z 10
  have h3 := split_count z 10
  rw [← nS] at h2 h3
  have h4 : (Txt.split z (Str.ofString "\n")).length * y.length ≤ 4001 * 40 := Nat.mul_le_mul (by omega) hy
  omega
theorem join_flat (ws : List Str) : toL (Txt.join (Str.ofString "") ws) = ws.flatMap toL := by
  unfold Txt.join
  rw [glued_eq_join]
  have e : Str.ofString "" = ⟨#[]⟩ := by decide +kernel
  rw [e]
  cases ws with
  | nil => rfl
  | cons p r => rw [join_toL]; rfl
theorem empS : Str.ofString "" = Str.empty := by decide +kernel
theorem split_pos (z : Str) : 0 < (Txt.split z (Str.ofString "\n")).length := by
  rw [nS]
  obtain ⟨p, r, e, _⟩ := split_any z 10
  rw [e]
  exact Nat.succ_pos _

theorem suffix_eq {d y : Str} (hy : 0 < y.length) : (Txt.slice d (some (-(y.length : Int))) none == y) = (toL y).isSuffixOf (toL d) := by
  rw [← endswith_eq]
  by_cases h : y.length ≤ d.length
  · have h1 := slice_from_neg (x := d) (k := y.length) hy h
    unfold Txt.endswith
    rw [StrLaws.subAt_eq, Nat.zero_add, decide_eq_true h, Bool.true_and]
    show _ = (((toL d).drop (d.length - y.length)).take y.length == toL y)
    rw [List.take_of_length_le (by rw [List.length_drop, toL_len]; omega), ← h1]
    rw [Bool.eq_iff_iff, beq_iff_eq, beq_iff_eq]
    exact ⟨fun e => by rw [e], toL_inj⟩
  · have h1 := Txt.slice_le d (some (-(y.length : Int))) none
    have h2 : Txt.slice d (some (-(y.length : Int))) none ≠ y := by intro e; rw [e] at h1; omega
    unfold Txt.endswith
    rw [Nat.zero_add, decide_eq_false h, Bool.false_and]
    simpa using h2
theorem last_row {x lr : Str} {n : Nat} {l : List Str} (hL : l = rowsS x) (hn : n = l.length) (h0 : 0 < n) (h : l[(-1 + (n : Int)).toNat]? = some lr) : (rowsS x).getLast? = some lr := by
  subst hL hn
  rw [List.getLast?_eq_getElem?]
  have e : (-1 + ((rowsS x).length : Int)).toNat = (rowsS x).length - 1 := by omega
  rw [← e]
  exact h
theorem dueF_cut {x y d lr : Str} (hy : 0 < y.length) (hd : toL d = dueL x y) (hl : (rowsS x).getLast? = some lr) (h1 : (lr != Str.ofString "") = true) (h2 : (Txt.slice d (some (-(y.length : Int))) none == y) = true) :
    Txt.slice d none (some (-(y.length : Int))) = dueF x y := by
  rw [suffix_eq hy] at h2
  have hlen := (List.isSuffixOf_iff_suffix.mp h2).length_le
  rw [toL_len, toL_len] at hlen
  apply toL_inj
  rw [slice_to_neg hy hlen]
  unfold dueF
  rw [hl, if_neg (by rw [empS] at h1; intro e; rw [Option.some.inj e] at h1; exact absurd h1 (by decide))]
  unfold cutMark
  rw [← hd, if_pos h2, toL_len, toL_len]
  rfl
theorem dueF_whole {x y d lr : Str} (hy : 0 < y.length) (hd : toL d = dueL x y) (hl : (rowsS x).getLast? = some lr) (h1 : (lr != Str.ofString "") = true) (h2 : (Txt.slice d (some (-(y.length : Int))) none == y) = false) : d = dueF x y := by
  rw [suffix_eq hy] at h2
  apply toL_inj
  unfold dueF
  rw [hl, if_neg (by rw [empS] at h1; intro e; rw [Option.some.inj e] at h1; exact absurd h1 (by decide))]
  unfold cutMark
  rw [← hd, if_neg (by rw [h2]; decide)]
  rfl
theorem dueF_nl {x y d lr : Str} (hd : toL d = dueL x y) (hl : (rowsS x).getLast? = some lr) (h1 : (lr != Str.ofString "") = false) : d = dueF x y := by
  have e : lr = Str.empty := by rw [← empS]; simpa using h1
  apply toL_inj
  unfold dueF
  rw [hl, e, if_pos rfl]
  exact hd

end

/-! QText -/
section
section
variable {prog : Program} {w : World} {A : Around} {E : Value → Shared → Prop} {s : Shared} {h₀ : Heap} {L : Addr} {m : Str → Option Value} {env : Env}
/-- a comprehension over a range, its leaves left to the hand -/
theorem comp_range {elt iter : Expr} {x : Str} {px : Pos} {ifs : List Expr} {scope : Scope} {cl : List (Str × Addr)} {pos : Pos} {Q : Value → Shared → Prop} (pz : Int → Bool) (d : Int → PyData) (_F₀ : Fr h₀ L s.heap m)
    (hh : A.handled = none) (hclos : closureFor scope env = pure cl) (hcell : ∀ y ∈ scope.names, y.2 ≠ .cell) (hkind : scope.kind = .function)
    (hnames : ∀ y ∈ scope.names, y.2 = .local → scope.names.lookup y.1 = some .local) (hx : scope.names.lookup x = some .local)
    (h : wpAny (model prog w) A (eval iter env) (fun xv s₁ => Stop (∃ news : List (Addr × Obj), ∃ r a₀ b₀ c₀ t₀ u₀ v₀, ∃ n : Nat, xv = .ref r ∧ IsRange s₁.heap r a₀ b₀ c₀ t₀ u₀ v₀ ∧ Builtin.Range.small a₀ b₀ c₀ = true ∧ Builtin.Range.rangeSize a₀ b₀ c₀ = (n : Int) ∧ n ≤ sizeLine ∧ Fr h₀ L s₁.heap m ∧ News h₀ L s₁.heap news ∧
      (∀ C a v s₂ m₂ E', s₁.heap.objs.size ≤ C → a ∈ rangeInts a₀ c₀ n → ItemKind.int.is a v → s₂.heap.Ns (compEnvC scope cl C env).locals m₂ → m₂ x = some v → (∀ b o, s₁.heap.get? b = some o → s₂.heap.get? b = some o) →
        wpAny (model prog w) A (forIn ifs true fun c r => if r = true then do let ok ← isTrue c (compEnvC scope cl C env) (eval c (compEnvC scope cl C env)); pure (ForInStep.yield ok) else pure (ForInStep.yield r))
          (fun ok s₃ => Stop (ok = pz a ∧ Keeps s₂ s₃)) E' s₂) ∧
      (∀ C a v s₂ m₂ E', s₁.heap.objs.size ≤ C → a ∈ rangeInts a₀ c₀ n → ItemKind.int.is a v → pz a = true → s₂.heap.Ns (compEnvC scope cl C env).locals m₂ → m₂ x = some v → (∀ b o, s₁.heap.get? b = some o → s₂.heap.get? b = some o) →
        wpAny (model prog w) A (eval elt (compEnvC scope cl C env)) (fun y s₃ => Stop (Carried y (d a) ∧ Keeps s₂ s₃)) E' s₂) ∧
      (∀ D (ys : List Value) h' tk, Fr h₀ L h' m → News h₀ L h' news → h₀.get? D = none → h'.IsList D ys.toArray → NewPlain h' news D ys.toArray → CarriedAll ys (((rangeInts a₀ c₀ n).filter pz).map d) → Q (.ref D) { s₁ with heap := h', toks := tk }))) E s)
    (hs : ∀ x, foldedSetIterable iter env x = pure x) :
    wpAny (model prog w) A (eval (.ListComp elt [⟨.Name x px, iter, ifs, 0⟩] scope pos) env) Q E s :=
  ListComp_DCr hh hclos hcell hkind hnames hx h hs
end

/-- the signs that a law's text is made of -/
def okC (c : Nat) : Bool := c == 9 || c == 10 || c == 13 || (decide (32 ≤ c) && decide (c ≤ 126)) || (decide (161 ≤ c) && decide (c ≤ 255))
def TextOk (r : Str) : Prop := r.length ≤ 4000 ∧ ∀ c ∈ toL r, okC c = true

/-- the contract of the def that makes a text -/
def ConT (dk uk : Nat) (prog : Program) (w : World) (K : Frag) (p : Program) (loose : List Str) (mean : ExcName → Option Value) (mg mb : Str → Option Value) (f : Addr) (news : List (Addr × Obj)) (vs : List Value) : Prop :=
  ∀ (dp un : Nat) (gd : Option (List Code)) (cn : Str) (cs : Scope) (a : Addr) (ccd : Value) (cl : List (Str × Addr)) (outer : List Env) (A₀ : Around) (base h₀ : Heap) (L : Addr) (m : Str → Option Value) (s : Shared) (Q E : Value → Shared → Prop),
    Below A₀ base outer h₀ → Fr h₀ L s.heap m → K.In h₀ → News h₀ L s.heap news → Top p loose mean mg mb h₀ → cs.kind = .function → True → dp + dk < recursionLimit → un + uk < cLine →
    (∀ (r : Str) (t : Tok) (h' : Heap) (tk' : Nat), TextOk r → Fr h₀ L h' m → News h₀ L h' news → Q (.str r t) { s with heap := h', toks := tk' }) →
    wpAny (model prog w) (ktrTop dp un gd cn cs L a ccd cl outer) (call (.ref f) vs) Q E s
theorem ConT.use {dk uk : Nat} {prog : Program} {w : World} {K : Frag} {p : Program} {loose : List Str} {mean : ExcName → Option Value} {mg mb : Str → Option Value} {f : Addr} {news : List (Addr × Obj)} {vs : List Value}
    (C : ConT dk uk prog w K p loose mean mg mb f news vs) {dp un : Nat} {gd : Option (List Code)} {cn : Str} {cs : Scope} {a : Addr} {ccd : Value} {cl : List (Str × Addr)} {outer : List Env} {A₀ : Around} {base h₀ : Heap} {L : Addr} {m : Str → Option Value} {s : Shared} {Q E : Value → Shared → Prop}
    (B : Below A₀ base outer h₀) (F : Fr h₀ L s.heap m) (X : K.In h₀) (N : News h₀ L s.heap news) (T : Top p loose mean mg mb h₀) (hk : cs.kind = .function) (hd : dp + dk < recursionLimit) (hu : un + uk < cLine)
    (ret : ∀ (r : Str) (t : Tok) (h' : Heap) (tk' : Nat), TextOk r → Fr h₀ L h' m → News h₀ L h' news → Q (.str r t) { s with heap := h', toks := tk' }) :
    wpAny (model prog w) (ktrTop dp un gd cn cs L a ccd cl outer) (call (.ref f) vs) Q E s := C _ _ _ _ _ _ _ _ _ _ _ _ _ _ _ _ _ B F X N T hk trivial hd hu ret

def pzA (k : Int) : Bool := !(decide (126 < k) && decide (k < 161))
/-- the alphabet's second half, sign by sign -/
def alphL : List Str := ((rangeInts 32 1 224).filter pzA).map fun k => (⟨#[k.toNat]⟩ : Str)
def alphS : Str := Txt.mul (Str.ofString "=\n4 =\rdE\t=0a") 8 ++ Txt.join (Str.ofString "") alphL
theorem alph_sum : (alphL.map (·.length)).sum = 190 ∧ alphL.length = 190 := by decide +kernel
theorem alph_len : alphS.length = 286 := by decide +kernel
theorem alph_ok : ∀ c ∈ toL alphS, okC c = true := by decide +kernel
theorem alph_join : (Txt.join (Str.ofString "") alphL).length = 190 := by decide +kernel
theorem range_mem {a : Int} (h : a ∈ rangeInts 32 1 224) : 32 ≤ a ∧ a < 256 := by
  have : ∀ a ∈ rangeInts 32 1 224, 32 ≤ a ∧ a < 256 := by decide +kernel
  exact this a h
theorem alph_strs {ys : List Value} (h : CarriedAll ys (((rangeInts 32 1 224).filter pzA).map fun k => PyData.str ⟨#[k.toNat]⟩)) : StrsAre ys alphL := by
  refine StrsAre.of_carried ?_
  unfold alphL
  rw [List.map_map]
  exact h

/-- the signs so far -/
def TInv (vs : List Value) : Prop := ∃ ws : List Str, StrsAre vs ws ∧ ws.length ≤ 4000 ∧ ∀ x ∈ ws, ∃ c, x = ⟨#[c]⟩ ∧ okC c = true
theorem TInv.start : TInv [] := ⟨[], .nil, by decide, fun _ h => nomatch h⟩
theorem TInv.len {vs : List Value} (h : TInv vs) : vs.length ≤ 4000 := by
  obtain ⟨ws, h1, h2, _⟩ := h
  rw [h1.length]
  exact h2
theorem TInv.push {vs : List Value} {al : Str} {i : Int} {t : Tok} (h : TInv vs) (hl : vs.length < 4000) (hal : ∀ c ∈ toL al, okC c = true) (h0 : 0 ≤ i) (h1 : i < (al.length : Int)) : TInv (vs ++ [.str (Txt.item al i) t]) := by
  obtain ⟨ws, h2, h3, h4⟩ := h
  obtain ⟨c, hd, hi⟩ := item_at h0 h1
  have hc : c ∈ toL al := List.mem_of_mem_drop (i := i.toNat) (by rw [hd]; exact List.mem_cons_self ..)
  refine ⟨ws ++ [Txt.item al i], strs_snoc' h2, ?_, ?_⟩
  · rw [List.length_append, List.length_singleton]
    have := h2.length
    omega
  · intro x hx
    rcases List.mem_append.mp hx with hx | hx
    · exact h4 x hx
    · rw [List.mem_singleton.mp hx]
      exact ⟨c, hi, hal c hc⟩
theorem TInv.text {vs : List Value} (h : TInv vs) : ∃ ws : List Str, StrsAre vs ws ∧ (ws.map (·.length)).sum ≤ 4000 ∧ ws.length ≤ 4000 ∧ TextOk (Txt.join (Str.ofString "") ws) := by
  obtain ⟨ws, h2, h3, h4⟩ := h
  have hs : (ws.map (·.length)).sum = ws.length := by
    clear h2 h3
    induction ws with
    | nil => rfl
    | cons a r ih =>
      obtain ⟨c, rfl, _⟩ := h4 a (List.mem_cons_self ..)
      rw [List.map_cons, List.sum_cons, ih fun x hx => h4 x (List.mem_cons_of_mem _ hx), List.length_cons]
      show 1 + r.length = _
      omega
  refine ⟨ws, h2, by omega, h3, ?_, ?_⟩
  · rw [← toL_len, join_flat, ← sum_flat]
    omega
  · intro c hc
    rw [join_flat] at hc
    obtain ⟨x, hx, hcx⟩ := List.mem_flatMap.mp hc
    obtain ⟨c', rfl, ho⟩ := h4 x hx
    have : c = c' := List.mem_singleton.mp hcx
    rw [this]
    exact ho

theorem fmod_in (j : Int) {al : Str} (h : al.length = 286) : 0 ≤ (j - 1).fmod (al.length : Int) ∧ (j - 1).fmod (al.length : Int) < (al.length : Int) := by
  rw [h]
  exact ⟨Int.fmod_nonneg_of_pos _ (by decide), Int.fmod_lt_of_pos _ (by decide)⟩
theorem fdiv_in {j : Int} {al : Str} (h : al.length = 286) (h0 : 0 < j) : 0 ≤ (j - 1).fdiv (al.length : Int) ∧ (j - 1).fdiv (al.length : Int) < j := by
  rw [h, Int.fdiv_eq_ediv_of_nonneg _ (by decide)]
  omega

end

/-! QLaw -/
section
open StrLaws Builtin Builtin.Str

/-! the lines of a text, sign by sign -/
noncomputable def linesL : List Nat → List Nat → List (List Nat)
  | acc, [] => if acc = [] then [] else [acc]
  | acc, 13 :: 10 :: r => acc :: linesL [] r
  | acc, c :: r => if Unicode.isLineBreak c = true then acc :: linesL [] r else linesL (acc ++ [c]) r
theorem linesL_nil (acc : List Nat) : linesL acc [] = if acc = [] then [] else [acc] := by rw [linesL]
theorem linesL_pair (acc r : List Nat) : linesL acc (13 :: 10 :: r) = acc :: linesL [] r := by rw [linesL]
theorem linesL_one {acc r : List Nat} {c : Nat} (h : ¬ (c = 13 ∧ r.head? = some 10)) : linesL acc (c :: r) = if Unicode.isLineBreak c = true then acc :: linesL [] r else linesL (acc ++ [c]) r := by
  rw [linesL]
  intro r' e1 e2
  subst e1 e2
  exact h ⟨rfl, rfl⟩
def subL (l : List Nat) (p : Nat × Nat × Nat) : List Nat := (l.drop p.1).take (p.2.1 - p.1)
theorem getD_list (s : Str) {i : Nat} (h : i < (toL s).length) : s.cps.getD i 0 = (toL s)[i] := by
  have h' : i < s.cps.size := by rw [toL_len] at h; exact h
  rw [Array.getD, dif_pos h']
  rfl
theorem get?_list (s : Str) (i : Nat) : s.cps[i]? = (toL s)[i]? := by
  rw [← Array.getElem?_toList]
  rfl
theorem break13 : Unicode.isLineBreak 13 = true := by decide +kernel
theorem lines_run (s : Str) : ∀ (m cur : Nat) (st : LsSt), cur + m = (toL s).length → st.snd ≤ cur + 1 →
    (lsEnd s (Id.run (forIn (m := Id) (List.range' cur m) st (lsBody s)))).map (subL (toL s)) =
      st.fst.toList.map (subL (toL s)) ++ (if st.snd ≤ cur then linesL (((toL s).drop st.snd).take (cur - st.snd)) ((toL s).drop cur) else linesL [] ((toL s).drop (cur + 1)))
  | 0, cur, (lines, start), hm, hs => by
    have hn : s.length = cur := by rw [← toL_len]; omega
    show (lsEnd s (lines, start)).map _ = _
    unfold lsEnd
    show (if start < s.length then lines.push (start, s.length, s.length) else lines).toList.map _ = lines.toList.map _ ++ (if start ≤ cur then _ else _)
    by_cases h1 : start ≤ cur
    · rw [if_pos h1]
      have hd : (toL s).drop cur = [] := List.drop_eq_nil_of_le (by omega)
      rw [hd, linesL_nil]
      by_cases h2 : start < s.length
      · rw [if_pos h2, Array.toList_push, List.map_append, if_neg]
        · show _ = _ ++ [((toL s).drop start).take (cur - start)]
          rw [← hn]
          rfl
        · intro e
          have := congrArg List.length e
          rw [List.length_take, List.length_drop] at this
          simp at this
          omega
      · rw [if_neg h2, if_pos, List.append_nil]
        have e : cur - start = 0 := by omega
        rw [e]
        rfl
    · rw [if_neg h1, if_neg (by omega)]
      have hd : (toL s).drop (cur + 1) = [] := List.drop_eq_nil_of_le (by omega)
      rw [hd]
      simp [linesL_nil]
  | m + 1, cur, (lines, start), hm, hs => by
    have hs' : start ≤ cur + 1 := hs
    have hlt : cur < (toL s).length := by omega
    rw [List.range'_succ, List.forIn_cons]
    have hdc := List.drop_eq_getElem_cons hlt
    dsimp only
    have hg := getD_list s hlt
    have hbody : lsBody s cur (lines, start) = if (decide (start ≤ cur) && Unicode.isLineBreak ((toL s)[cur])) = true then pure (ForInStep.yield (lines.push (start, cur, lsNext s cur), lsNext s cur)) else pure (ForInStep.yield (lines, start)) := by
      unfold lsBody
      rw [hg]
    rw [hbody]
    by_cases h1 : start ≤ cur
    · rw [if_pos h1]
      by_cases hb : Unicode.isLineBreak ((toL s)[cur]) = true
      · simp only [h1, decide_true, hb, Bool.and_self, if_true]
        have hnx : lsNext s cur = if (toL s)[cur] = 13 ∧ ((toL s).drop (cur + 1)).head? = some 10 then cur + 2 else cur + 1 := by
          unfold lsNext
          rw [getD_list s hlt, get?_list]
          have e : ((toL s).drop (cur + 1)).head? = (toL s)[cur + 1]? := by rw [List.head?_drop]
          rw [e]
          by_cases ha : (toL s)[cur] = 13 <;> by_cases hbb : (toL s)[cur + 1]? = some 10 <;> simp [ha, hbb]
        have ih := lines_run s m (cur + 1) (lines.push (start, cur, lsNext s cur), lsNext s cur) (by omega) (by
          show lsNext s cur ≤ cur + 1 + 1
          rw [hnx]; split <;> omega)
        refine Eq.trans ih ?_
        show (lines.push (start, cur, lsNext s cur)).toList.map _ ++ (if lsNext s cur ≤ cur + 1 then _ else _) = _
        rw [Array.toList_push, List.map_append, List.append_assoc]
        congr 1
        show [((toL s).drop start).take (cur - start)] ++ _ = _
        rw [hdc]
        by_cases hp : (toL s)[cur] = 13 ∧ ((toL s).drop (cur + 1)).head? = some 10
        · have e2 : lsNext s cur = cur + 2 := by rw [hnx, if_pos hp]
          rw [e2, if_neg (by omega)]
          have hd2 : (toL s).drop (cur + 1) = 10 :: (toL s).drop (cur + 1 + 1) := by
            cases hh : (toL s).drop (cur + 1) with
            | nil => rw [hh] at hp; cases hp.2
            | cons b t =>
              rw [hh] at hp
              rw [Option.some.inj hp.2]
              congr 1
              rw [← List.drop_drop, hh]
              rfl
          rw [hp.1, hd2, linesL_pair]
          rfl
        · have e2 : lsNext s cur = cur + 1 := by rw [hnx, if_neg hp]
          rw [e2, if_pos (Nat.le_refl _), Nat.sub_self, linesL_one hp, if_pos hb]
          rfl
      · have hb' : Unicode.isLineBreak ((toL s)[cur]) = false := by simpa using hb
        simp only [hb', Bool.and_false, Bool.false_eq_true, if_false]
        have ih := lines_run s m (cur + 1) (lines, start) (by omega) (by show start ≤ cur + 1 + 1; omega)
        refine Eq.trans ih ?_
        show lines.toList.map _ ++ (if start ≤ cur + 1 then _ else _) = _
        rw [if_pos hs', hdc, linesL_one, if_neg hb]
        · congr 2
          have e : cur + 1 - start = (cur - start) + 1 := by omega
          show ((toL s).drop start).take (cur + 1 - start) = ((toL s).drop start).take (cur - start) ++ [(toL s)[cur]]
          rw [e, List.take_add_one, List.getElem?_drop]
          have e2 : start + (cur - start) = cur := by omega
          rw [e2, List.getElem?_eq_getElem hlt]
          rfl
        · rintro ⟨hc, _⟩
          rw [hc, break13] at hb'
          cases hb'
    · have e : start = cur + 1 := by omega
      have hf : decide (start ≤ cur) = false := decide_eq_false h1
      rw [if_neg h1]
      simp only [hf, Bool.false_and, Bool.false_eq_true, if_false]
      have ih := lines_run s m (cur + 1) (lines, start) (by omega) (by show start ≤ cur + 1 + 1; omega)
      refine Eq.trans ih ?_
      show lines.toList.map _ ++ (if start ≤ cur + 1 then _ else _) = _
      rw [if_pos (by omega), e, Nat.sub_self]
      rfl
theorem lines_eq (x : Str) : (Txt.lines x).map toL = linesL [] (toL x) := by
  have h1 : (linesOf x).map toL = (lineSpans x).map (subL (toL x)) := by
    unfold linesOf lineCuts
    rw [List.map_map, List.map_map]
    apply List.map_congr_left
    intro ⟨i, j, k⟩ _
    exact sub_list x i j
  have h2 : (lineSpans x).map (subL (toL x)) = linesL [] (toL x) := by
    rw [ls_eq]
    have h := lines_run x x.length 0 (#[], 0) (by rw [toL_len, Nat.zero_add]) (by show 0 ≤ 1; decide)
    rw [h]
    rfl
  unfold Txt.lines
  split
  · rename_i hc
    have e : lineCuts x = [(0, x.length)] := eq_of_beq hc
    have e2 : linesOf x = [x] := by
      unfold linesOf
      rw [e]
      show [strSub x 0 x.length] = [x]
      rw [sub_whole]
    rw [← h2, ← h1, e2]
  · rw [h1, h2]

/-! the rows of a text -/
noncomputable def rowsL : List Nat → List Nat → List (List Nat)
  | acc, [] => [acc]
  | acc, c :: r => if c = 10 then acc :: rowsL [] r else rowsL (acc ++ [c]) r
theorem rowsL_ne : ∀ (l acc : List Nat), rowsL acc l ≠ []
  | [], acc => by simp [rowsL]
  | c :: r, acc => by
    rw [rowsL]
    split
    · simp
    · exact rowsL_ne r _
theorem rowsL_free : ∀ (p acc t : List Nat), 10 ∉ p → rowsL acc (p ++ t) = rowsL (acc ++ p) t
  | [], acc, t, _ => by simp
  | a :: r, acc, t, h => by
    rw [List.mem_cons, not_or] at h
    rw [List.cons_append, rowsL, if_neg (fun e => h.1 e.symm), rowsL_free r _ t h.2, List.append_assoc]
    rfl
theorem rowsL_rest : ∀ (r : List (List Nat)) (acc : List Nat), (∀ q ∈ r, 10 ∉ q) → rowsL acc (r.flatMap fun q => 10 :: q) = acc :: r
  | [], acc, _ => rfl
  | a :: r, acc, h => by
    show rowsL acc (10 :: (a ++ r.flatMap fun q => 10 :: q)) = _
    rw [rowsL, if_pos rfl, rowsL_free a [] _ (h a (List.mem_cons_self ..)), List.nil_append, rowsL_rest r a fun q hq => h q (List.mem_cons_of_mem _ hq)]
theorem split_rows (x : Str) : (Txt.split x (Str.ofString "\n")).map toL = rowsL [] (toL x) := by
  rw [nS]
  obtain ⟨p, r, e, hx, hp, hr⟩ := split_any x 10
  rw [e, hx, rowsL_free (toL p) [] _ hp, List.nil_append]
  have h := rowsL_rest (r.map toL) (toL p) (by intro q hq; obtain ⟨q', hq', rfl⟩ := List.mem_map.mp hq; exact hr q' hq')
  rw [List.flatMap_map] at h
  rw [h]
  rfl
noncomputable def norm (l : List Nat) : List Nat := (crlf l).map lf
theorem norm_eq (x : Str) : toL (normS x) = norm (toL x) := by
  unfold normS norm
  rw [replace_cr, replace_crlf]
def dropE (R : List (List Nat)) : List (List Nat) := if R.getLast? = some [] then R.dropLast else R
theorem dropE_cons {a : List Nat} {R : List (List Nat)} (h : R ≠ []) : dropE (a :: R) = a :: dropE R := by
  obtain ⟨b, R', rfl⟩ := List.exists_cons_of_ne_nil h
  unfold dropE
  rw [List.getLast?_cons_cons]
  split <;> rfl
def okL (l : List Nat) : Prop := ∀ c ∈ l, Unicode.isLineBreak c = (c == 10 || c == 13)
theorem lines_rows : ∀ (n : Nat) (l acc : List Nat), l.length ≤ n → okL l → linesL acc l = dropE (rowsL acc (norm l)) := by
  intro n
  induction n with
  | zero =>
    intro l acc h _
    have : l = [] := List.length_eq_zero_iff.mp (by omega)
    subst this
    rw [linesL_nil]
    show _ = dropE [acc]
    unfold dropE
    show _ = if some acc = some [] then [] else [acc]
    by_cases h : acc = [] <;> simp [h]
  | succ n ih =>
    intro l acc h hok
    match l with
    | [] =>
      rw [linesL_nil]
      show _ = dropE [acc]
      unfold dropE
      show _ = if some acc = some [] then [] else [acc]
      by_cases h : acc = [] <;> simp [h]
    | c :: r =>
      by_cases hp : c = 13 ∧ r.head? = some 10
      · obtain ⟨rfl, h2⟩ := hp
        match r, h2 with
        | 10 :: r', _ =>
          rw [linesL_pair, ih r' [] (by simp at h; omega) fun c hc => hok c (by simp [hc])]
          have e : norm (13 :: 10 :: r') = 10 :: norm r' := by unfold norm; rw [crlf_pair]; rfl
          rw [e, rowsL, if_pos rfl, dropE_cons (rowsL_ne _ _)]
      · have e : norm (c :: r) = lf c :: norm r := by unfold norm; rw [crlf_one hp]; rfl
        have hr : okL r := fun c hc => hok c (List.mem_cons_of_mem _ hc)
        rw [linesL_one hp, e, hok c (List.mem_cons_self ..), rowsL]
        by_cases hb : c = 10 ∨ c = 13
        · have h1 : (c == 10 || c == 13) = true := by rcases hb with rfl | rfl <;> rfl
          have h2 : lf c = 10 := by rcases hb with rfl | rfl <;> rfl
          rw [if_pos h1, if_pos h2, ih r [] (by simp at h; omega) hr, dropE_cons (rowsL_ne _ _)]
        · rw [not_or] at hb
          have h1 : ¬ (c == 10 || c == 13) = true := by simp [hb.1, hb.2]
          have h2 : lf c = c := by unfold lf; rw [if_neg hb.2]
          rw [if_neg h1, h2, if_neg hb.1, ih r _ (by simp at h; omega) hr]
def dropS (R : List Str) : List Str := if R.getLast? = some Str.empty then R.dropLast else R
theorem emp_iff {z : Str} : toL z = [] ↔ z = Str.empty := ⟨fun h => toL_inj h, fun h => by rw [h]; rfl⟩
theorem last_map (R : List Str) : (R.map toL).getLast? = some [] ↔ R.getLast? = some Str.empty := by
  rw [List.getLast?_map]
  cases R.getLast? with
  | none => simp
  | some z => simp only [Option.map_some, Option.some.injEq]; exact emp_iff
theorem dropS_map (R : List Str) : (dropS R).map toL = dropE (R.map toL) := by
  unfold dropS dropE
  by_cases h : R.getLast? = some Str.empty
  · rw [if_pos h, if_pos ((last_map R).mpr h), List.map_dropLast]
  · rw [if_neg h, if_neg (fun e => h ((last_map R).mp e))]
theorem map_inj : ∀ {a b : List Str}, a.map toL = b.map toL → a = b
  | [], [], _ => rfl
  | [], _ :: _, h => by cases h
  | _ :: _, [], h => by cases h
  | x :: a, y :: b, h => by
    rw [List.map_cons, List.map_cons, List.cons.injEq] at h
    rw [toL_inj h.1, map_inj h.2]
theorem lines_is (x : Str) (h : okL (toL x)) : Txt.lines x = dropS (rowsS x) := by
  apply map_inj
  rw [lines_eq, dropS_map]
  unfold rowsS
  rw [split_rows, norm_eq]
  exact lines_rows _ _ _ (Nat.le_refl _) h

/-- all rows but an empty last one -/
theorem rowsTo_init (R : List Str) (m : List Nat) (f : Str → List Nat) (hf : ∀ r, f r = lineOut m (toL (Txt.rstripChars r (Str.ofString " \t")))) : ∀ k, k < R.length → rowsTo R m k = (R.take k).flatMap f := by
  intro k
  induction k with
  | zero => intro _; rfl
  | succ k ih =>
    intro hk
    have hlt : k < R.length := by omega
    rw [rowsTo_succ, ih hlt, List.take_add_one, List.getElem?_eq_getElem hlt, rowAt_eq (row := R[k]) (List.getElem?_eq_getElem hlt)]
    unfold rowOut
    rw [if_neg]
    · rw [List.flatMap_append, ← hf]
      congr 1
      show f R[k] = f R[k] ++ []
      rw [List.append_nil]
    · rintro ⟨h1, _⟩
      have := eq_of_beq h1
      omega
theorem dueL_is (x y : Str) : dueL x y = (dropS (rowsS x)).flatMap fun r => lineOut (toL y) (toL (Txt.rstripChars r (Str.ofString " \t"))) := by
  have hpos : 0 < (rowsS x).length := split_pos (normS x)
  unfold dueL
  generalize rowsS x = R at *
  obtain ⟨k, hk⟩ : ∃ k, R.length = k + 1 := ⟨R.length - 1, by omega⟩
  have hlt : k < R.length := by omega
  have hg : R[k]? = some R[k] := List.getElem?_eq_getElem hlt
  have hlast : R.getLast? = some R[k] := by rw [List.getLast?_eq_getElem?, hk]; exact hg
  rw [hk, rowsTo_succ, rowsTo_init R (toL y) (fun r => lineOut (toL y) (toL (Txt.rstripChars r (Str.ofString " \t")))) (fun _ => rfl) k hlt, rowAt_eq hg]
  have htake : R.take (k + 1) = R := List.take_of_length_le (by omega)
  have hR : R = R.take k ++ [R[k]] := by
    conv => lhs; rw [← htake]
    rw [List.take_add_one, hg]
    rfl
  unfold dropS rowOut
  rw [hlast]
  by_cases h0 : R[k] = Str.empty
  · have hc : (k + 1 == R.length) = true ∧ R[k].length = 0 := ⟨by rw [hk]; simp, by rw [h0]; rfl⟩
    rw [if_pos hc, if_pos (congrArg some h0), List.append_nil, List.dropLast_eq_take, hk]
    rfl
  · rw [if_neg (fun e => h0 (Option.some.inj e)), if_neg (fun h => h0 (emp_iff.mp (toL_nil_of h.2)))]
    conv => rhs; rw [hR]
    rw [List.flatMap_append]
    simp

theorem while_congr {p q : Nat → Bool} : ∀ {l : List Nat}, (∀ c ∈ l, p c = q c) → l.takeWhile p = l.takeWhile q
  | [], _ => rfl
  | a :: r, h => by
    rw [List.takeWhile_cons, List.takeWhile_cons, h a (List.mem_cons_self ..), while_congr fun c hc => h c (List.mem_cons_of_mem _ hc)]
theorem strip_congr {x : Str} {p q : Nat → Bool} (h : ∀ c ∈ toL x, p c = q c) : Txt.stripBy p false true x = Txt.stripBy q false true x := by
  have e : stripHi p true x 0 = stripHi q true x 0 := by
    unfold stripHi
    have e2 : ((x.cps.toList.drop 0).reverse.takeWhile p) = ((x.cps.toList.drop 0).reverse.takeWhile q) := while_congr fun c hc => h c (by rw [List.drop_zero, List.mem_reverse] at hc; exact hc)
    rw [e2]
  have e0 : stripLo p false x = 0 := rfl
  have e1 : stripLo q false x = 0 := rfl
  unfold Txt.stripBy stripSame PySem.stripped
  rw [e0, e1, e]
theorem space_tab : (Str.ofString " \t").cps = #[32, 9] := by decide +kernel
theorem blanks : ∀ c ∈ List.range 256, okC c = true → c ≠ 10 → c ≠ 13 → Unicode.isSpace c = (#[32, 9] : Array Nat).contains c := by decide +kernel
theorem breaks : ∀ c ∈ List.range 256, okC c = true → Unicode.isLineBreak c = (c == 10 || c == 13) := by decide +kernel
theorem ok_lt {c : Nat} (h : okC c = true) : c ∈ List.range 256 := by
  rw [List.mem_range]
  unfold okC at h
  simp only [Bool.or_eq_true, Bool.and_eq_true, beq_iff_eq, decide_eq_true_eq] at h
  omega
theorem crlf_mem : ∀ (n : Nat) (l : List Nat), l.length ≤ n → ∀ c ∈ crlf l, c ∈ l := by
  intro n
  induction n with
  | zero => intro l h c hc; have : l = [] := List.length_eq_zero_iff.mp (by omega); subst this; cases hc
  | succ n ih =>
    intro l h c hc
    match l with
    | [] => cases hc
    | a :: r =>
      by_cases hp : a = 13 ∧ r.head? = some 10
      · obtain ⟨rfl, h2⟩ := hp
        match r, h2 with
        | 10 :: r', _ =>
          rw [crlf_pair] at hc
          rcases List.mem_cons.mp hc with rfl | hc
          · simp
          · have := ih r' (by simp at h; omega) c hc
            simp [this]
      · rw [crlf_one hp] at hc
        rcases List.mem_cons.mp hc with rfl | hc
        · simp
        · have := ih r (by simp at h; omega) c hc
          simp [this]
theorem row_ok {x r : Str} (hx : ∀ c ∈ toL x, okC c = true) (hr : r ∈ rowsS x) : ∀ c ∈ toL r, okC c = true ∧ c ≠ 10 ∧ c ≠ 13 := by
  intro c hc
  unfold rowsS at hr
  rw [nS] at hr
  have h10 := split_free (normS x) 10 r hr
  have hne : c ≠ 10 := fun e => h10 (e ▸ hc)
  obtain ⟨p, q, e, hz, _, _⟩ := split_any (normS x) 10
  have hmem : c ∈ toL (normS x) := by
    rw [hz]
    rw [e] at hr
    rcases List.mem_cons.mp hr with rfl | hr
    · exact List.mem_append.mpr (.inl hc)
    · exact List.mem_append.mpr (.inr (List.mem_flatMap.mpr ⟨r, hr, List.mem_cons_of_mem _ hc⟩))
  rw [norm_eq] at hmem
  obtain ⟨c', hc', he⟩ := List.mem_map.mp hmem
  have hin := crlf_mem _ _ (Nat.le_refl _) c' hc'
  unfold lf at he
  by_cases h13 : c' = 13
  · rw [if_pos h13] at he
    exact absurd he.symm hne
  · rw [if_neg h13] at he
    subst he
    exact ⟨hx c' hin, hne, h13⟩
theorem strip_row {x r : Str} (hx : ∀ c ∈ toL x, okC c = true) (hr : r ∈ rowsS x) : Txt.rstrip r = Txt.rstripChars r (Str.ofString " \t") := by
  unfold Txt.rstrip Txt.rstripChars
  refine strip_congr fun c hc => ?_
  obtain ⟨h1, h2, h3⟩ := row_ok hx hr c hc
  rw [space_tab]
  exact blanks c (ok_lt h1) h1 h2 h3
theorem mem_dropS {R : List Str} {r : Str} (h : r ∈ dropS R) : r ∈ R := by
  unfold dropS at h
  split at h
  · rw [List.dropLast_eq_take] at h
    exact List.mem_of_mem_take h
  · exact h
theorem flat_congr {f g : Str → List Nat} : ∀ {l : List Str}, (∀ r ∈ l, f r = g r) → l.flatMap f = l.flatMap g
  | [], _ => rfl
  | a :: r, h => by
    rw [List.flatMap_cons, List.flatMap_cons, h a (List.mem_cons_self ..), flat_congr fun q hq => h q (List.mem_cons_of_mem _ hq)]
theorem ok_breaks {x : Str} (hx : ∀ c ∈ toL x, okC c = true) : okL (toL x) := fun c hc => breaks c (ok_lt (hx c hc)) (hx c hc)
theorem dec_due (x y : Str) (hx : ∀ c ∈ toL x, okC c = true) : decL x y = dueL x y := by
  unfold decL
  rw [lines_is x (ok_breaks hx), dueL_is]
  exact flat_congr fun r hr => by rw [strip_row hx (mem_dropS hr)]

theorem crlf_last : ∀ (n : Nat) (l : List Nat), l.length ≤ n → (crlf l).getLast? = l.getLast? := by
  intro n
  induction n with
  | zero => intro l h; have : l = [] := List.length_eq_zero_iff.mp (by omega); subst this; rfl
  | succ n ih =>
    intro l h
    match l with
    | [] => rfl
    | a :: r =>
      by_cases hp : a = 13 ∧ r.head? = some 10
      · obtain ⟨rfl, h2⟩ := hp
        match r, h2 with
        | 10 :: r', _ =>
          have hi := ih r' (by simp at h; omega)
          rw [crlf_pair, List.getLast?_cons_cons, List.getLast?_cons, List.getLast?_cons, hi]
      · have hi := ih r (by simp at h; omega)
        rw [crlf_one hp, List.getLast?_cons, List.getLast?_cons, hi]
theorem norm_last (l : List Nat) : (norm l).getLast? = l.getLast?.map lf := by
  unfold norm
  rw [List.getLast?_map, crlf_last _ _ (Nat.le_refl _)]
theorem rows_last : ∀ (l acc : List Nat), (rowsL acc l).getLast? = some [] ↔ (l = [] ∧ acc = []) ∨ l.getLast? = some 10
  | [], acc => by simp [rowsL]
  | c :: r, acc => by
    rw [rowsL, List.getLast?_cons]
    by_cases hc : c = 10
    · rw [if_pos hc]
      obtain ⟨b, R, e⟩ := List.exists_cons_of_ne_nil (rowsL_ne r [])
      rw [e, List.getLast?_cons_cons, ← e, rows_last r []]
      cases hr : r.getLast? with
      | none =>
        have : r = [] := List.getLast?_eq_none_iff.mp hr
        subst this
        simp [hc]
      | some z =>
        have : r ≠ [] := by intro e2; rw [e2] at hr; cases hr
        simp [this]
    · rw [if_neg hc, rows_last r]
      cases hr : r.getLast? with
      | none =>
        have : r = [] := List.getLast?_eq_none_iff.mp hr
        subst this
        simp [hc]
      | some z =>
        have : r ≠ [] := by intro e2; rw [e2] at hr; cases hr
        simp [this]
theorem ends_iff {x : Str} (h0 : x.length ≠ 0) : endsNL x = true ↔ (rowsS x).getLast? = some Str.empty := by
  rw [← last_map]
  unfold rowsS
  rw [split_rows, rows_last, norm_eq, norm_last]
  have hne : norm (toL x) ≠ [] := by
    intro e
    have := norm_last (toL x)
    rw [e] at this
    cases hx : toL x with
    | nil => have hl := toL_len x; rw [hx] at hl; exact h0 hl.symm
    | cons a r => rw [hx, List.getLast?_cons] at this; cases this
  unfold endsNL
  cases (toL x).getLast? with
  | none => simp [hne]
  | some z =>
    simp only [Option.map_some, hne, false_and, false_or, Option.some.injEq]
    unfold lf
    by_cases h13 : z = 13
    · simp [h13]
    · simp [h13]
/-- the two readings agree -/
theorem dec_is_due (x y : Str) (hx : ∀ c ∈ toL x, okC c = true) : decF x y = dueF x y := by
  by_cases h0 : x.length = 0
  · have e : x = Str.empty := emp_iff.mp (toL_nil_of h0)
    have hr : (rowsS x).map toL = [[]] := by
      unfold rowsS
      rw [split_rows, norm_eq, e]
      rfl
    have hR : rowsS x = [Str.empty] := map_inj hr
    have hd := dueL_is x y
    have hl : (rowsS x).getLast? = some Str.empty := by rw [hR]; rfl
    have hdn : dueL x y = [] := by rw [hd, hR]; rfl
    unfold decF dueF
    rw [if_pos h0, if_pos hl, hdn]
    exact e
  · unfold decF dueF
    rw [if_neg h0, dec_due x y hx]
    congr 1
    by_cases h : endsNL x = true
    · rw [if_pos h, if_pos ((ends_iff h0).mp h)]
    · rw [if_neg h, if_neg (fun e => h ((ends_iff h0).mpr e))]

end

/-! U1 -/
section
theorem unquote_cb (w : World) (mean : ExcName → Option Value) (mg mb : Str → Option Value) (news : List (Addr × Obj)) (x : Str) (t : Tok) (p q : Nat) :
   Con 1 8 PySem.Challenge.rw_dp0019_01.row.prog w (hd.heap_39 w.params) hd.view_39 (looseW hd.view_39 [Str.ofString "hexdigits", Str.ofString "decode"]) mean mg mb 21 news (toL x = [61, p, q] ∧ isHex p = true ∧ isHex q = true) [.str x t] (fun t => .str ⟨#[hexVal p * 16 + hexVal q]⟩ t) := by
  w_top off
  k_fill
  intro dp un gd cn cs a ccd cl outer A₀ base h₀ L m s Q E B F X N T hcs hpre hdp0 hun0 hret
  have hdp : dp + 1 < recursionLimit := by omega
  have hun : un + 8 < cLine := by omega
  refine wpAny_call ?_
  obtain ⟨hx, hp, hq⟩ := hpre
  have hxl : x.length = 3 := by rw [← toL_len, hx]; rfl
  have hsl : toL (Txt.slice x (some 1) (some 3)) = [p, q] := by rw [slice_ss (by decide) (by decide) (by omega), hx]; rfl
  k_dflt (refine' code_def ?k1 ?k2 ?k3 ?k4 ?k5 ?kA ?kF ?kK ?k6 ?k7 ?k8 ?k9 ?kB ?_ ?c2 ?c3 ?c4 ?c5; (case kA => exact rfl); (case kF => exact rfl); (case kK => assumption); (case k1 => k_asm); (case k2 => k_asm); (case k3 => k_asm); (case k4 => k_asm); (case k5 => k_asm); (case k6 => k_is); (case k7 => k_is); (case k8 => ktr_room); (case k9 => first | exact BindsTo.of_eq rfl | exact binds_K (by k_in) rfl (by k_is) rfl rfl rfl); (case c5 => decide); (case kB => exact locs rfl); (case c2 => exact rfl); (case c3 => exact rfl); (case c4 => exact rfl); k_whole; intro g' L' h' FG' F' N' B' X' T'; (try dsimp only); (try k_lift B'); (try k_fold))
  k_steps
  refine call_hex hsl hp hq ?_
  dsimp only
  have h1 := hex_lt hp
  have h2 := hex_lt hq
  generalize hn : hexVal p * 16 + hexVal q = n at *
  have hn2 : n < 256 := by omega
  clear hn h1 h2
  k_steps
  rw [Int.toNat_natCast]
  exact hret _ _ _ (by assumption) (by assumption)

end

/-! D1 -/
section
local macro_rules | `(tactic| walk_at "exec While Compare cons nil") => `(tactic| refine Stop.go ?_)
local macro_rules | `(tactic| walk_at "KswPost") => `(tactic| refine Stop.go ?_)
local macro_rules | `(tactic| walk_at "InvPost") => `(tactic| refine Stop.go ?_)
theorem decode_cb (w : World) (mean : ExcName → Option Value) (mg mb : Str → Option Value) (news : List (Addr × Obj)) (x y : Str) (t u : Tok) (args : List Value) (ha : args = [.str x t, .str y u] ∨ (args = [.str x t] ∧ y = Str.ofString "\n" ∧ u = 189)) :
   Con 2 16 PySem.Challenge.rw_dp0019_01.row.prog w (hd.heap_39 w.params) hd.view_39 (looseW hd.view_39 [Str.ofString "hexdigits", Str.ofString "decode"]) mean mg mb 29 news (x.length ≤ 4000 ∧ y.length ≤ 40 ∧ 0 < y.length) args (fun t => .str (decF x y) t) := by
  w_top off
  k_fill
  intro dp un gd cn cs a ccd cl outer A₀ base h₀ L m s Q E B F X N T hcs hpre hdp0 hun0 hret
  have hdp : dp + 1 < recursionLimit := by omega
  have hun : un + 8 < cLine := by omega
  refine wpAny_call ?_
  obtain ⟨hx, hy, hy0⟩ := hpre
  k_dflt (refine' code_def (binds := [(Str.ofString "encoded", Value.str x t), (Str.ofString "eol", Value.str y u)]) ?k1 ?k2 ?k3 ?k4 ?k5 ?kA ?kF ?kK ?k6 ?k7 ?k8 ?k9 ?kB ?_ ?c2 ?c3 ?c4 ?c5; (case kA => exact rfl); (case kF => exact rfl); (case kK => assumption); (case k1 => k_asm); (case k2 => k_asm); (case k3 => k_asm); (case k4 => k_asm); (case k5 => k_asm); (case k6 => k_is); (case k7 => k_is); (case k8 => ktr_room); (case k9 => (rcases ha with rfl | ⟨rfl, rfl, rfl⟩; exact binds_K (by k_in) rfl (by k_is) rfl rfl (by with_unfolding_all rfl); exact binds_K (by k_in) rfl (by k_is) rfl rfl (by with_unfolding_all rfl))); (case c5 => decide); (case kB => exact locs rfl); (case c2 => exact rfl); (case c3 => exact rfl); (case c4 => exact rfl); k_whole; intro g' L' h' FG' F' N' B' X' T'; (try dsimp only); (try k_lift B'); (try k_fold))
  k_steps
  · rename StrsAre _ _ => hS
    rename (List.map _ _ = Txt.lines x) => hL
    rename Fr _ _ _ _ => lF'
    rename News _ _ _ _ => lN'
    rename (∀ (a : Str), a ∈ List.map _ _ → a.length ≤ x.length) => hA
    with_unfolding_all refine' loopV (σ := Str × Tok) (nn := 0) (fun c => [(Str.ofString "decoded", Value.str c.1 c.2)]) [Str.ofString "i", Str.ofString "n", Str.ofString "c"] (fun i c => DInv x y i c.1) (Str.ofString "", _) (by rfl) (List.Mem.head _) lF' lN' ?kk ?kp ?_ ?_
    case kk => kst_all
    case kp => exact DInv.start x y
    · intro c i v u9 h9 tk9 own9 hv hoff hP F9 N9
      obtain ⟨d, td⟩ := c
      obtain ⟨ln, tl, rfl, hln⟩ := StrsAre.item hS i v hv
      have hlen := hA ln (List.mem_of_getElem? hln)
      have hdl := DInv.size hP hy hx
      rw [hL] at hln
      clear lF' lN'
      try k_fold
      dsimp only at F9 hdl hP
      k_steps
      · unfold Stop
        rename Fr _ _ _ _ => lF'
        rename News _ _ _ _ => lN'
        with_unfolding_all refine' ksw_while (σ := Int × Tok × Str × Tok) (fun _ => _) (fun c => [(Str.ofString "i", Value.int c.1 c.2.1), (Str.ofString "decoded", Value.str c.2.2.1 c.2.2.2)]) (fun _ => True) [Str.ofString "c"] (fun c => WInv y d (Txt.rstrip ln) c.1 c.2.2.1) (fun c => (Txt.rstrip ln).length - c.1.toNat) (0, _, d, td) lF' lN' trivial ?kk ?kp ?_
        case kk => kst_all
        case kp => exact WInv.start _ _ _
        intro c u9 h9 tk9 _ hW F9 N9
        obtain ⟨j, tj, e, te⟩ := c
        dsimp only at F9 hW
        have hi0 := hW.1
        have hi1 := hW.2.1
        have hsz := hW.size
        clear lF' lN'
        try k_fold
        k_steps
        rotate_left 7
        · obtain ⟨p, q, hp, hq, hdr⟩ := pair_at (b := Txt.rstrip ln) (i := j) hi0 (by assumption) (by assumption) (by assumption) (by assumption)
          have hsl : toL (Txt.slice (Txt.rstrip ln) (some j) (some (j + 3))) = [61, p, q] := by
            rw [slice_ss hi0 (by omega) (by omega), hdr]
            have e3 : (j + 3 - j).toNat = 3 := by omega
            rw [e3]
            rfl
          k_dflt (refine' Con.use (unquote_cb _ _ _ _ _ _ _ p q) ?k1 ?k2 ?k3 ?k4 ?k5 ?kK ?kp ?kd ?ku ?_; (case k1 => k_asm); (case k2 => k_asm); (case k3 => k_asm); (case k4 => k_asm); (case k5 => k_asm); (case kK => exact rfl); (case kp => exact ⟨hsl, hp, hq⟩); (case kd => (simp only [depth_deeper]; omega)); (case ku => (simp only [units_deeper]; omega)))
          intro t9 h9 tk9 F9 N9
          (try dsimp only)
          have hl1 : (⟨#[hexVal p * 16 + hexVal q]⟩ : Str).length = 1 := rfl
          generalize hr : (⟨#[hexVal p * 16 + hexVal q]⟩ : Str) = r at *
          k_steps
          all_goals subst hr
          all_goals (first
          | (exfalso; omega)
          | (unfold Stop; (try dsimp only); (try dsimp only [KswPost]); (rename News _ _ _ _ => nE'); (refine ksw_end ⟨_, _, _, _⟩ (by assumption) nE' (by first | kst_in | kst_inAny) trivial (by kst_all) (by (intro z h2 h3; simp only [List.forall_mem_cons, List.not_mem_nil, false_implies, implies_true, and_true, ne_eq] at h2; simp only [List.contains_cons, List.contains_nil, Bool.or_false, Bool.or_eq_false_iff, beq_eq_false_iff_ne, ne_eq] at h3; simp [kstB, h2, h3])) ?kP ?kM); (case kM => (dsimp only; omega)); (case kP => (dsimp only; first
            | exact WInv.plainLast hW (by assumption) (by assumption) (by assumption)
            | exact WInv.plain hW (by assumption) (by assumption) (by assumption)
            | exact WInv.soft hW (by assumption) (by assumption) (by assumption)
            | exact WInv.stands hW (by assumption) (by assumption) (by assumption) (.inl (by assumption))
            | exact WInv.stands hW (by assumption) (by assumption) (by assumption) (.inr ⟨by assumption, .inl (by assumption)⟩)
            | exact WInv.stands hW (by assumption) (by assumption) (by assumption) (.inr ⟨by assumption, .inr (by assumption)⟩)
            | exact WInv.pairLast hW (by assumption) (by assumption) (by assumption) (by assumption) (by assumption)
            | exact WInv.pair hW (by assumption) (by assumption) (by assumption) (by assumption) (by assumption)))))
        rotate_left 3
        all_goals try (first
          | (exfalso; omega)
          | (unfold Stop; (try dsimp only); (try dsimp only [KswPost]); (rename News _ _ _ _ => nE'); (refine ksw_end ⟨_, _, _, _⟩ (by assumption) nE' (by first | kst_in | kst_inAny) trivial (by kst_all) (by (intro z h2 h3; simp only [List.forall_mem_cons, List.not_mem_nil, false_implies, implies_true, and_true, ne_eq] at h2; simp only [List.contains_cons, List.contains_nil, Bool.or_false, Bool.or_eq_false_iff, beq_eq_false_iff_ne, ne_eq] at h3; simp [kstB, h2, h3])) ?kP ?kM); (case kM => (dsimp only; omega)); (case kP => (dsimp only; first
            | exact WInv.plainLast hW (by assumption) (by assumption) (by assumption)
            | exact WInv.plain hW (by assumption) (by assumption) (by assumption)
            | exact WInv.soft hW (by assumption) (by assumption) (by assumption)
            | exact WInv.stands hW (by assumption) (by assumption) (by assumption) (.inl (by assumption))
            | exact WInv.stands hW (by assumption) (by assumption) (by assumption) (.inr ⟨by assumption, .inl (by assumption)⟩)
            | exact WInv.stands hW (by assumption) (by assumption) (by assumption) (.inr ⟨by assumption, .inr (by assumption)⟩)
            | exact WInv.pairLast hW (by assumption) (by assumption) (by assumption) (by assumption) (by assumption)
            | exact WInv.pair hW (by assumption) (by assumption) (by assumption) (by assumption) (by assumption)))))
        unfold Stop
        dsimp only [InvPost]
        refine InvEnd.intro (by assumption) (by assumption) (fun p hp => hp) ⟨(_, _), by kst_all, (by (intro z h1 h2 h3; simp only [List.forall_mem_cons, List.not_mem_nil, false_implies, implies_true, and_true, ne_eq] at h2; simp only [List.contains_cons, List.contains_nil, Bool.or_false, Bool.or_eq_false_iff, beq_eq_false_iff_ne, ne_eq] at h3; simp [kstB, h1, h2, h3])), ?kP⟩
        dsimp only
        exact DInv.line hP hln hW (by assumption) (by assumption)
      · unfold Stop
        dsimp only [InvPost]
        refine InvEnd.intro (by assumption) (by assumption) (fun p hp => hp) ⟨(_, _), by kst_all, (by (intro z h1 h2 h3; simp only [List.forall_mem_cons, List.not_mem_nil, false_implies, implies_true, and_true, ne_eq] at h2; simp only [List.contains_cons, List.contains_nil, Bool.or_false, Bool.or_eq_false_iff, beq_eq_false_iff_ne, ne_eq] at h3; simp [kstB, h1, h2, h3])), ?kQ⟩
        dsimp only
        exact DInv.blank hP hln (by assumption)
    · intro c u9 h9 tk9 hP F9 N9
      obtain ⟨d, td⟩ := c
      have hdl := DInv.size hP hy hx
      dsimp only at F9 hdl hP
      clear lF' lN'
      have hdL : toL d = decL x y := hP.done (by rw [strValues_len, ← hL, List.length_map])
      k_steps
      · rw [decF_cut (by assumption) hy0 hdL (by assumption) (by assumption)]
        exact hret _ _ _ (by assumption) (fun p hp => (by assumption : News h₀ L _ _) p (List.mem_cons_of_mem _ hp))
      · rw [decF_whole (by assumption) hdL (by assumption) (by assumption)]
        exact hret _ _ _ (by assumption) (fun p hp => (by assumption : News h₀ L _ _) p (List.mem_cons_of_mem _ hp))
      · rw [decF_nl (by assumption) hdL (by assumption)]
        exact hret _ _ _ (by assumption) (fun p hp => (by assumption : News h₀ L _ _) p (List.mem_cons_of_mem _ hp))
  · have e : x = decF x y := decF_nil (by assumption)
    have hr := hret t h' tk (by assumption) (by assumption)
    rw [← e] at hr
    exact hr

end

/-! R1 -/
section
local macro_rules | `(tactic| walk_at "no such key: one") => `(tactic| fail "none")
local macro_rules | `(tactic| walk_at "no such key: two") => `(tactic| fail "none")
local macro_rules | `(tactic| walk_at "no such key: three") => `(tactic| fail "none")
local macro_rules | `(tactic| walk_at "exec For") => `(tactic| (k_here; (rename Fr _ _ _ _ => lF'); (with_unfolding_all refine' For_invVF lF' ?k1 ?k2 ?_; (case k1 => exact rfl); (case k2 => exact rfl); k_whole)))
local macro_rules | `(tactic| walk_at "exec Assign cons ListComp") => `(tactic| refine Stop.go ?_)
local macro_rules | `(tactic| walk_at "InvPost") => `(tactic| refine Stop.go ?_)
theorem read_cb (w : World) (mean : ExcName → Option Value) (mg mb : Str → Option Value) (news : List (Addr × Obj)) (x : Str) (t : Tok) :
   Con 1 8 PySem.Challenge.rw_dp0019_01.row.prog w (hd.heap_39 w.params) hd.view_39 (looseW hd.view_39 [Str.ofString "hexdigits", Str.ofString "decode"]) mean mg mb 39 news (x.length ≤ 4000) [.str x t] (fun t => .str (rdF x) t) := by
  w_top off
  k_fill
  intro dp un gd cn cs a ccd cl outer A₀ base h₀ L m s Q E B F X N T hcs hpre hdp0 hun0 hret
  have hdp : dp + 1 < recursionLimit := by omega
  have hun : un + 8 < cLine := by omega
  refine wpAny_call ?_
  k_dflt (refine' code_defC ?k1 ?k2 ?k3 ?k4 ?k5 ?kA ?kF ?kK ?k6 ?k7 ?k8 ?k9 ?kB ?kD ?_ ?c2 ?c3 ?c4; (case kA => exact rfl); (case kF => exact rfl); (case kK => assumption); (case k1 => k_asm); (case k2 => k_asm); (case k3 => k_asm); (case k4 => k_asm); (case k5 => k_asm); (case k6 => k_is); (case k7 => k_is); (case k8 => ktr_room); (case k9 => first | exact BindsTo.of_eq rfl | exact binds_K (by k_in) rfl (by k_is) rfl rfl rfl); (case kB => exact rfl); (case kD => decide +kernel); (case c2 => exact rfl); (case c3 => exact rfl); (case c4 => exact rfl); k_whole; intro g' L' h' tk' cells' FG' F' N' Y' B' X' T' l1; k_cells Y'; (try simp only [List.cons_append, List.nil_append] at N'); (try dsimp only); (try k_lift B'); (try k_fold))
  have hoffN : OwnOff news [L' + 1] := fun p hp b hb => by
    rw [List.mem_singleton.mp hb]
    exact Nat.ne_of_lt (Nat.lt_succ_of_lt (l1 p hp))
  k_steps
  rename StrsAre _ _ => hS
  rename (List.map _ _ = Txt.split x _) => hL
  rename ((List.map _ _)[_]? = some _) => h0
  rw [hL] at h0
  rename Fr _ _ _ _ => lF'
  rename News _ _ _ _ => lN'
  rename (∀ (a : Str), a ∈ List.map _ _ → a.length ≤ x.length) => hA
  rw [pick_from1] at lN'
  with_unfolding_all refine' loopV (σ := Str × Tok) (nn := 0) (fun c => [(Str.ofString "read", Value.str c.1 c.2)]) [Str.ofString "pair"] (fun i c => RInv x _ i c.1) (_, _) (by rfl) (List.Mem.head _) lF' lN' ?kk ?kp ?_ ?_
  case kk => kst_all
  case kp => exact RInv.start _ _
  · intro c i v u9 h9 tk9 own9 hv hoff hP F9 N9
    obtain ⟨r, tr⟩ := c
    rw [List.getElem?_drop] at hv
    obtain ⟨pt, tp, rfl, hpt⟩ := StrsAre.item hS (1 + i) v hv
    have hptl := hA pt (List.mem_of_getElem? hpt)
    clear lF' lN'
    rw [hL] at hpt
    have hrl := RInv.size hP h0
    try k_fold
    dsimp only at F9 hP hrl
    k_steps
    unfold Stop
    rename Fr _ _ _ _ => lF'
    refine assign_signsC (h₀ := g') (L := L') (fun a => PyData.int (Txt.find (Str.ofString "0123456789abcdef0123456789ABCDEF") a)) lF' (by with_unfolding_all rfl) (by with_unfolding_all rfl) (by with_unfolding_all rfl) (by with_unfolding_all rfl) (by decide) (by with_unfolding_all rfl) (by decide) (by with_unfolding_all rfl) (by with_unfolding_all rfl) (by with_unfolding_all rfl) ?kh (by intro _; with_unfolding_all rfl)
    k_steps
    try clear lF'
    rename Fr _ _ _ _ => lF'
    rename News _ _ _ _ => lN'
    refine ⟨_, _, _, rfl, ?ksz, lF', lN', ?kelt, ?kdone⟩
    case ksz => rw [sizeLine_eq]; omega
    case kelt =>
      intro C a v s₂ m₂ E' hC ha hv hns hm hk
      obtain ⟨ua, rfl⟩ := hv
      k_steps
      exact ⟨Carried.int _ _, _, _, rfl, fun _ _ e => e⟩
    case kdone =>
      intro D ys h9 tk9 F9 N9 hD hlD hnp hca
      obtain ⟨nl, N8⟩ := ledger_list F9 N9 hD hnp
      rw [signs_slice] at hca
      clear lF' lN' N9 hlD hnp
      match hpl : toL pt with
      | [] =>
        rw [hpl] at hca
        have e := carried0 hca
        subst e
        k_steps
        unfold Stop
        dsimp only [InvPost]
        refine InvEnd.intro (by assumption) (by assumption) (fun p hp => List.mem_cons_of_mem _ hp) ⟨(_, _), by kst_all, (by (intro z h1 h2 h3; simp only [List.forall_mem_cons, List.not_mem_nil, false_implies, implies_true, and_true, ne_eq] at h2; simp only [List.contains_cons, List.contains_nil, Bool.or_false, Bool.or_eq_false_iff, beq_eq_false_iff_ne, ne_eq] at h3; simp [kstB, h1, h2, h3])), RInv.stands hP hpt (out0 hpl)⟩
      | [p] =>
        rw [hpl] at hca
        obtain ⟨t1, rfl⟩ := carried1 hca
        k_steps
        unfold Stop
        dsimp only [InvPost]
        refine InvEnd.intro (by assumption) (by assumption) (fun p hp => List.mem_cons_of_mem _ hp) ⟨(_, _), by kst_all, (by (intro z h1 h2 h3; simp only [List.forall_mem_cons, List.not_mem_nil, false_implies, implies_true, and_true, ne_eq] at h2; simp only [List.contains_cons, List.contains_nil, Bool.or_false, Bool.or_eq_false_iff, beq_eq_false_iff_ne, ne_eq] at h3; simp [kstB, h1, h2, h3])), RInv.stands hP hpt (out1 hpl)⟩
      | p :: q :: r9 =>
        rw [hpl] at hca
        obtain ⟨t1, t2, rfl⟩ := carried2 hca
        k_steps
        all_goals rename (_ ∨ _) => hor
        all_goals rename (_ ≤ _ ∧ _ ≤ Txt.find _ _) => hand
        · skip
          unfold Stop
          dsimp only [InvPost]
          refine InvEnd.intro (by assumption) (by assumption) (fun p hp => List.mem_cons_of_mem _ hp) ⟨(_, _), by kst_all, (by (intro z h1 h2 h3; simp only [List.forall_mem_cons, List.not_mem_nil, false_implies, implies_true, and_true, ne_eq] at h2; simp only [List.contains_cons, List.contains_nil, Bool.or_false, Bool.or_eq_false_iff, beq_eq_false_iff_ne, ne_eq] at h3; simp [kstB, h1, h2, h3])), RInv.pair hP hpt hpl hand (by assumption)⟩
        · skip
          unfold Stop
          dsimp only [InvPost]
          refine InvEnd.intro (by assumption) (by assumption) (fun p hp => List.mem_cons_of_mem _ hp) ⟨(_, _), by kst_all, (by (intro z h1 h2 h3; simp only [List.forall_mem_cons, List.not_mem_nil, false_implies, implies_true, and_true, ne_eq] at h2; simp only [List.contains_cons, List.contains_nil, Bool.or_false, Bool.or_eq_false_iff, beq_eq_false_iff_ne, ne_eq] at h3; simp [kstB, h1, h2, h3])), RInv.stands hP hpt (out2 hpl hor (by assumption))⟩
  · intro c u9 h9 tk9 hP F9 N9
    obtain ⟨r, tr⟩ := c
    have e : r = rdF x := RInv.done hP h0 (by rw [List.length_drop, List.length_drop, strValues_len, ← hL, List.length_map])
    subst e
    clear lF' lN'
    dsimp only at F9 hP
    k_steps
    exact hret _ _ _ (by assumption) (fun p hp => (by assumption : News h₀ L _ _) p (List.mem_cons_of_mem _ (List.mem_cons_of_mem _ (List.mem_cons_of_mem _ hp))))

end

/-! Q1 -/
section
local macro_rules | `(tactic| walk_at "exec For Name Call cons nil") => `(tactic| (k_here; (rename Fr _ _ _ _ => lF'); (with_unfolding_all refine' For_invVF lF' ?k1 ?k2 ?_; (case k1 => exact rfl); (case k2 => exact rfl); k_whole)))
local macro_rules | `(tactic| walk_at "pyIter ref") => `(tactic| refine Stop.go ?_)
local macro_rules | `(tactic| walk_at "InvPostN") => `(tactic| refine Stop.go ?_)
local macro_rules | `(tactic| walk_at "call ref") => `(tactic| (k_here; (with_reducible show wpAny _ _ (call (Value.ref 39) _) _ _ _); k_dflt (refine' Con.use (read_cb _ _ _ _ _ _ _) ?k1 ?k2 ?k3 ?k4 ?k5 ?kK ?kp ?kd ?ku ?_; (case k1 => k_asm); (case k2 => k_asm); (case k3 => k_asm); (case k4 => k_asm); (case k5 => k_asm); (case kK => exact rfl); (case kp => omega); (case kd => (simp only [depth_deeper]; omega)); (case ku => (simp only [units_deeper]; omega))); intro t9 h9 tk9 F9 N9; (try dsimp only)))
local macro_rules | `(tactic| walk_at "call builtin:list.append") => `(tactic| (k_here; (with_reducible show wpAny _ _ (call (Value.builtin _) [Value.ref _, _]) _ _ _); k_dflt (refine' append_first ?k1 ?k2 ?k3 ?kz ?_; (case k1 => k_asm); (case k2 => k_asm); (case k3 => assumption); (case kz => omega); k_whole); intro h' F' N'))
theorem due_cb (w : World) (mean : ExcName → Option Value) (mg mb : Str → Option Value) (news : List (Addr × Obj)) (x y : Str) (t u : Tok) :
   Con 2 16 PySem.Challenge.rw_dp0019_01.row.prog w (hd.heap_39 w.params) hd.view_39 (looseW hd.view_39 [Str.ofString "hexdigits", Str.ofString "decode"]) mean mg mb 46 news (x.length ≤ 4000 ∧ y.length ≤ 40 ∧ 0 < y.length) [.str x t, .str y u] (fun t => .str (dueF x y) t) := by
  w_top off
  k_fill
  intro dp un gd cn cs a ccd cl outer A₀ base h₀ L m s Q E B F X N T hcs hpre hdp0 hun0 hret
  have hdp : dp + 1 < recursionLimit := by omega
  have hun : un + 8 < cLine := by omega
  refine wpAny_call ?_
  obtain ⟨hx, hy, hy0⟩ := hpre
  k_dflt (refine' code_def ?k1 ?k2 ?k3 ?k4 ?k5 ?kA ?kF ?kK ?k6 ?k7 ?k8 ?k9 ?kB ?_ ?c2 ?c3 ?c4 ?c5; (case kA => exact rfl); (case kF => exact rfl); (case kK => assumption); (case k1 => k_asm); (case k2 => k_asm); (case k3 => k_asm); (case k4 => k_asm); (case k5 => k_asm); (case k6 => k_is); (case k7 => k_is); (case k8 => ktr_room); (case k9 => first | exact BindsTo.of_eq rfl | exact binds_K (by k_in) rfl (by k_is) rfl rfl rfl); (case c5 => decide); (case kB => exact locs rfl); (case c2 => exact rfl); (case c3 => exact rfl); (case c4 => exact rfl); k_whole; intro g' L' h' FG' F' N' B' X' T'; (try dsimp only); (try k_lift B'); (try k_fold))
  refine gen_toks (by with_unfolding_all exact Nat.succ_pos _) fun tk htk => ?_
  k_steps
  refine replaceT (by show @Ne Nat _ _; omega) (by show @Ne Nat _ _; omega) (by show @Ne Nat _ _; omega) (by decide +kernel) (by omega) (by decide +kernel) ?_
  intro t2 k2 hk2
  dsimp only at hk2 ⊢
  have hx2 : (Txt.replace x (Str.ofString "\r\n") (Str.ofString "\n")).length ≤ 4000 := Nat.le_trans (norm_len1 x) hx
  k_steps
  refine replaceT (by show @Ne Nat _ _; omega) (by show @Ne Nat _ _; omega) (by show @Ne Nat _ _; omega) (by decide +kernel) (by omega) (by decide +kernel) ?_
  intro t3 k3 hk3
  dsimp only at hk3 ⊢
  have hx3 : (Txt.replace (Txt.replace x (Str.ofString "\r\n") (Str.ofString "\n")) (Str.ofString "\r") (Str.ofString "\n")).length ≤ 4000 := by rw [norm_len2]; exact hx2
  generalize hz : Txt.replace (Txt.replace x (Str.ofString "\r\n") (Str.ofString "\n")) (Str.ofString "\r") (Str.ofString "\n") = z at *
  k_steps
  unfold Stop
  rename StrsAre _ _ => hS
  rename (List.map _ _ = Txt.split z _) => hL
  have hLk := KIN.Hid.mk hL
  rename Fr _ _ _ _ => lF'
  rename News _ _ _ _ => lN'
  rename (∀ (a : Str), a ∈ List.map _ _ → a.length ≤ z.length) => hA
  rename IsRange _ _ _ _ _ _ _ _ => rgX
  rename List (Str × Tok) => lst
  rename (Nat.lt _ _ ∧ AllLt _ _) => l1
  have hll : lst.length ≤ 4001 := by
    have h1 := split_count z 10
    rw [← nS, ← hL, List.length_map] at h1
    omega
  with_unfolding_all refine' kst_range (σ := List Value × Nat) (fun c => (_, W.listOf c.1.toArray c.2) :: _) (fun c => []) (fun c => c.1.length ≤ 4001) [Str.ofString "bare"] (fun pre c => QInv (Txt.split z (Str.ofString "\n")) y pre.length c.1) ([], 0) (by rfl) rgX (by exact small_one (by omega) (by omega) (by omega) (by omega)) (by first | exact rangeSize_nat _ _ | rfl) lF' lN' ?kf ?kk ?kp ?_ ?_
  case kf => show 0 ≤ 4001; decide
  case kk => kst_all
  case kp => exact QInv.start _ _
  · intro c pre k tk9 u9 h9 tkn own hk hlt hoff hf hP F9 N9
    obtain ⟨vs, nn⟩ := c
    rw [Int.zero_add] at hk
    have hk0 : 0 ≤ k := by omega
    have hk1 : k < (lst.length : Int) := by omega
    clear lF' lN' rgX
    try k_fold
    dsimp only at F9 N9 hf hP
    obtain ⟨N8, hneL⟩ := due_led N9 l1 hoff
    clear N9
    k_steps
    rename ((List.map _ _)[_]? = some _) => hrow
    have hRl : (lst.length : Int) = ((Txt.split z (Str.ofString "\n")).length : Int) := by rw [← hLk.out, List.length_map]
    have hrl := hA _ (List.mem_of_getElem? hrow)
    rename Str => row
    have hbl := len_rstripChars row (Str.ofString " \t")
    have hrd := rdF_len (Txt.rstripChars row (Str.ofString " \t"))
    k_steps
    all_goals unfold Stop
    all_goals dsimp only [InvPostN]
    all_goals rw [hLk.out] at hrow
    · have hq := fun t => QInv.soft (t := t) hk hP hrow (by assumption)
      refine kst_end (_, nn + 1) (by assumption) (by assumption) (List.forall_mem_cons.mpr ⟨.head _, List.forall_mem_cons.mpr ⟨.tail _ (.head _), fun p hp => .tail _ (.tail _ (List.mem_append.mpr (.inl hp)))⟩⟩) (fun p hp => .tail _ (.tail _ (List.mem_append.mpr (.inr hp)))) rfl ?kF1 (fun p hp => nomatch hp) (by (intro z h1 h2 h3; simp only [List.contains_cons, List.contains_nil, Bool.or_false, Bool.or_eq_false_iff, beq_eq_false_iff_ne, ne_eq] at h3; simp [kstB, h1, h3])) (hq _)
      have h9 := (hq 0).len
      simp only [List.length_append, List.length_singleton] at h9 ⊢
      omega
    · have hq := fun t => QInv.hard (t := t) hk hP hrow (by assumption) (.inl (by omega))
      refine kst_end (_, nn + 1) (by assumption) (by assumption) (List.forall_mem_cons.mpr ⟨.head _, List.forall_mem_cons.mpr ⟨.tail _ (.head _), fun p hp => .tail _ (.tail _ (List.mem_append.mpr (.inl hp)))⟩⟩) (fun p hp => .tail _ (.tail _ (List.mem_append.mpr (.inr hp)))) rfl ?kF2 (fun p hp => nomatch hp) (by (intro z h1 h2 h3; simp only [List.contains_cons, List.contains_nil, Bool.or_false, Bool.or_eq_false_iff, beq_eq_false_iff_ne, ne_eq] at h3; simp [kstB, h1, h3])) (hq _)
      have h9 := (hq 0).len
      simp only [List.length_append, List.length_singleton] at h9 ⊢
      omega
    · rename ((List.map _ _)[_]? = some _) => hrow2
      rw [hLk.out, hrow] at hrow2
      cases hrow2
      have hq := fun t => QInv.hard (t := t) hk hP hrow (by assumption) (.inr (ne_empty (by assumption)))
      refine kst_end (_, nn + 1) (by assumption) (by assumption) (List.forall_mem_cons.mpr ⟨.head _, List.forall_mem_cons.mpr ⟨.tail _ (.head _), fun p hp => .tail _ (.tail _ (List.mem_append.mpr (.inl hp)))⟩⟩) (fun p hp => .tail _ (.tail _ (List.mem_append.mpr (.inr hp)))) rfl ?kF3 (fun p hp => nomatch hp) (by (intro z h1 h2 h3; simp only [List.contains_cons, List.contains_nil, Bool.or_false, Bool.or_eq_false_iff, beq_eq_false_iff_ne, ne_eq] at h3; simp [kstB, h1, h3])) (hq _)
      have h9 := (hq 0).len
      simp only [List.length_append, List.length_singleton] at h9 ⊢
      omega
    · rename ((List.map _ _)[_]? = some _) => hrow2
      rw [hLk.out, hrow] at hrow2
      cases hrow2
      have hq := fun (_ : Tok) => QInv.none hk hP hrow (by omega) (is_empty (by assumption))
      refine kst_end (_, nn) (by assumption) (by assumption) (List.forall_mem_cons.mpr ⟨.head _, List.forall_mem_cons.mpr ⟨.tail _ (.head _), fun p hp => .tail _ (.tail _ (List.mem_append.mpr (.inl hp)))⟩⟩) (fun p hp => .tail _ (.tail _ (List.mem_append.mpr (.inr hp)))) rfl ?kF4 (fun p hp => nomatch hp) (by (intro z h1 h2 h3; simp only [List.contains_cons, List.contains_nil, Bool.or_false, Bool.or_eq_false_iff, beq_eq_false_iff_ne, ne_eq] at h3; simp [kstB, h1, h3])) (hq 0)
      have h9 := (hq 0).len
      simp only [List.length_append, List.length_singleton] at h9 ⊢
      omega
  · intro c u9 h9 tk9 hf hP F9 N9
    obtain ⟨vs, nn⟩ := c
    dsimp only at F9 N9 hf hP
    clear lF' lN' rgX
    obtain ⟨ws, hw1, hw2, hw3⟩ := hP
    k_steps
    have hl8 : { heap := h9, gens := s.gens, drawn := s.drawn, toks := tk9 + 1, os := s.os : Shared }.heap.IsList _ vs.toArray := ⟨_, (N9 _ (.head _)).1, rfl, nn, rfl⟩
    rw [rangeKs_length, ← List.length_map (f := fun x : Str × Tok => x.fst), hLk.out] at hw2 hw3
    have hsum := due_size hx3 hy hw3
    refine PyProof.Rows.join_list hl8 hw1 (by rw [show (Str.ofString "").length = 0 from by decide +kernel]; omega) ?_
    intro t7 k7
    dsimp only
    have hdue : toL (Txt.join (Str.ofString "") ws) = dueL x y := by
      subst hz
      exact (join_flat ws).trans hw3
    have hdk := KIN.Hid.mk hdue
    clear hdue
    have hdl : (Txt.join (Str.ofString "") ws).length ≤ 200000 := by rw [← toL_len, join_flat, ← sum_flat]; exact hsum
    generalize hdd : Txt.join (Str.ofString "") ws = dd at *
    k_steps
    rename Fr _ _ _ _ => lF'
    rename News _ _ _ _ => lN'
    have hp0 := split_pos z
    rw [← hLk.out, List.length_map] at hp0
    refine item_strsTneg (l := lst) ⟨_, (lN' _ (.tail _ (.head _))).1, rfl, 0, rfl⟩ (by decide) (by omega) (by decide) ?_
    intro lr t6 hlr
    have hlast := KIN.Hid.mk (last_row (x := x) (by subst hz; exact hLk.out) (by rw [List.length_map]) hp0 hlr)
    clear hlr
    dsimp only
    k_steps
    · rw [dueF_cut hy0 hdk.out hlast.out (by assumption) (by assumption)]
      exact hret _ _ _ (by assumption) (fun p hp => (by assumption : News h₀ L _ _) p (List.mem_cons_of_mem _ (List.mem_cons_of_mem _ hp)))
    · rw [dueF_whole hy0 hdk.out hlast.out (by assumption) (by assumption)]
      exact hret _ _ _ (by assumption) (fun p hp => (by assumption : News h₀ L _ _) p (List.mem_cons_of_mem _ (List.mem_cons_of_mem _ hp)))
    · rw [dueF_nl hdk.out hlast.out (by assumption)]
      exact hret _ _ _ (by assumption) (fun p hp => (by assumption : News h₀ L _ _) p (List.mem_cons_of_mem _ (List.mem_cons_of_mem _ hp)))

end

/-! T1 -/
section
local macro_rules | `(tactic| walk_at "exec For Name Name cons nil") => `(tactic| (k_here; (rename Fr _ _ _ _ => lF'); (with_unfolding_all refine' For_invVF lF' ?k1 ?k2 ?_; (case k1 => exact rfl); (case k2 => exact rfl); k_whole)))
local macro_rules | `(tactic| walk_at "pyIter ref") => `(tactic| refine Stop.go ?_)
local macro_rules | `(tactic| walk_at "call builtin:str.join") => `(tactic| refine Stop.go ?_)
local macro_rules | `(tactic| walk_at "eval ListComp") => `(tactic| refine Stop.go ?_)
local macro_rules | `(tactic| walk_at "exec While BoolOp cons nil") => `(tactic| refine Stop.go ?_)
local macro_rules | `(tactic| walk_at "exec While") => `(tactic| refine Stop.go ?_)
local macro_rules | `(tactic| walk_at "InvPostN") => `(tactic| refine Stop.go ?_)
local macro_rules | `(tactic| walk_at "KswPost") => `(tactic| refine Stop.go ?_)
local macro_rules | `(tactic| walk_at "call builtin:list.append") => `(tactic| (k_here; (with_reducible show wpAny _ _ (call (Value.builtin _) [Value.ref _, _]) _ _ _); k_dflt (refine' append_first ?k1 ?k2 ?k3 ?kz ?_; (case k1 => k_asm); (case k2 => k_asm); (case k3 => assumption); (case kz => omega); k_whole); intro h' F' N'))
local macro_rules | `(tactic| walk_at "call builtin:len") => `(tactic| (k_here; (with_reducible show wpAny _ _ (call (Value.builtin "len") [Value.ref _]) _ _ _); k_dflt (refine' kst_len ?k1 (List.Mem.head _) rfl ?k4 ?_; (case k1 => k_asm); (case k4 => omega)); k_whole))
theorem text_cb (w : World) (mean : ExcName → Option Value) (mg mb : Str → Option Value) (news : List (Addr × Obj)) (l : Addr) (vs : List Value) (ns : List Int) (nn : Nat) (hl : (l, W.listOf vs.toArray nn) ∈ news) (hi : IntsAre vs ns) :
   ConT 1 8 PySem.Challenge.rw_dp0019_01.row.prog w (hd.heap_39 w.params) hd.view_39 (looseW hd.view_39 [Str.ofString "hexdigits", Str.ofString "decode"]) mean mg mb 34 news [.ref l] := by
  w_top off
  k_fill
  intro dp un gd cn cs a ccd cl outer A₀ base h₀ L m s Q E B F X N T hcs hpre hdp0 hun0 hret
  have hdp : dp + 1 < recursionLimit := by omega
  have hun : un + 8 < cLine := by omega
  refine wpAny_call ?_
  k_dflt (refine' code_def ?k1 ?k2 ?k3 ?k4 ?k5 ?kA ?kF ?kK ?k6 ?k7 ?k8 ?k9 ?kB ?_ ?c2 ?c3 ?c4 ?c5; (case kA => exact rfl); (case kF => exact rfl); (case kK => assumption); (case k1 => k_asm); (case k2 => k_asm); (case k3 => k_asm); (case k4 => k_asm); (case k5 => k_asm); (case k6 => k_is); (case k7 => k_is); (case k8 => ktr_room); (case k9 => first | exact BindsTo.of_eq rfl | exact binds_K (by k_in) rfl (by k_is) rfl rfl rfl); (case c5 => decide); (case kB => exact locs rfl); (case c2 => exact rfl); (case c3 => exact rfl); (case c4 => exact rfl); k_whole; intro g' L' h' FG' F' N' B' X' T'; (try dsimp only); (try k_lift B'); (try k_fold))
  k_steps
  unfold Stop
  rename Fr _ _ _ _ => lF'
  refine comp_range (h₀ := g') (L := L') pzA (fun k => PyData.str ⟨#[k.toNat]⟩) lF' (by with_unfolding_all rfl) (by with_unfolding_all rfl) (by decide) (by with_unfolding_all rfl) (by decide) (by with_unfolding_all rfl) ?kh (by intro _; with_unfolding_all rfl)
  k_steps
  rename Fr _ _ _ _ => lG'
  rename News _ _ _ _ => lN'
  rename IsRange _ _ _ _ _ _ _ _ => rgX
  refine ⟨_, _, 32, 256, 1, _, _, _, 224, rfl, rgX, by decide, by decide, by rw [sizeLine_eq]; decide, lG', lN', ?kt, ?ke, ?kd⟩
  case kt =>
    intro C a v s₂ m₂ E' hC ha hv hns hm hk
    obtain ⟨ua, rfl⟩ := hv
    k_steps
    · refine ⟨?_, _, _, rfl, fun _ _ e => e⟩
      unfold pzA
      simp [*]
    · refine ⟨?_, _, _, rfl, fun _ _ e => e⟩
      unfold pzA
      simp [*]
  case ke =>
    intro C a v s₂ m₂ E' hC ha hv hp hns hm hk
    obtain ⟨ua, rfl⟩ := hv
    obtain ⟨hb1, hb2⟩ := range_mem ha
    k_steps
    exact ⟨Carried.str _ _, _, _, rfl, fun _ _ e => e⟩
  case kd =>
    intro D ys h9 tk9 F9 N9 hD hlD hnp hca
    clear lG' lN' rgX
    k_steps
    unfold Stop
    refine PyProof.Rows.join_list hlD (alph_strs hca) (by rw [alph_sum.1, alph_sum.2, show (Str.ofString "").length = 0 from by decide +kernel]; decide) ?_
    intro t7 k7
    dsimp only
    have hj := alph_join
    k_steps
    unfold Stop
    have hal1 := alph_len
    have hal2 := alph_ok
    unfold alphS at hal1 hal2
    clear hj hca hlD hnp
    generalize hal0 : Txt.mul (Str.ofString "=\n4 =\rdE\t=0a") 8 ++ Txt.join (Str.ofString "") alphL = al at *
    clear hal0
    have hal3 := KIN.Hid.mk hal2
    clear hal2
    rename News _ _ _ _ => lN'
    rename Fr _ _ _ _ => lF'
    rename (∀ (p : Addr × Obj), p ∈ news → p.1 < _) => l1
    have hl1k := KIN.Hid.mk l1
    with_unfolding_all refine' kst_listL (σ := List Value × Nat) (fun c => (_, W.listOf c.1.toArray c.2) :: news) (fun c => []) (fun c => True) [Str.ofString "rest", Str.ofString "figure"] (fun pre c => TInv c.1) ([], 0) (by rfl) (fun c => List.mem_cons_of_mem _ hl) hi lF' lN' trivial ?kk ?kp ?_ ?_
    case kk => kst_all
    case kp => exact TInv.start
    · intro c pre post n t5 u9 h9 tk9 own hns hmem hoff hf hP F9 N9
      obtain ⟨us, un9⟩ := c
      clear lF' lN'
      try k_fold
      dsimp only at F9 N9 hP
      have hul := hP.len
      have hneL : ∀ p ∈ news ++ own, p.1 ≠ _ := List.forall_mem_append.mpr ⟨fun p hp => Nat.ne_of_lt (hl1k.out p hp), fun p hp => hoff p hp _ (List.mem_cons_self ..)⟩
      have N8 : News _ _ _ ((_, W.listOf us.toArray un9) :: (news ++ own)) := N9
      clear N9
      have hPk := KIN.Hid.mk hP
      clear hP
      k_steps
      unfold Stop
      rename Fr _ _ _ _ => lF'
      rename News _ _ _ _ => lN'
      with_unfolding_all refine' ksw_while (σ := Int × Tok × List Value × Nat) (fun c => (_, W.listOf c.2.2.1.toArray c.2.2.2) :: (news ++ own)) (fun c => [(Str.ofString "rest", Value.int c.1 c.2.1)]) (fun _ => True) [Str.ofString "figure"] (fun c => 0 ≤ c.1 ∧ TInv c.2.2.1) (fun c => c.1.toNat) (if n < 0 then -n else n, _, us, un9) lF' lN' trivial ?kk ?kp ?_
      case kk => kst_all
      case kp => exact ⟨by (show 0 ≤ (if n < 0 then -n else n); split <;> omega), hPk.out⟩
      intro c u8 h8 tk8 _ hW F8 N7
      obtain ⟨j, tj, ws, wn⟩ := c
      dsimp only at F8 N7 hW
      obtain ⟨hj0, hPw⟩ := hW
      have hwl := hPw.len
      have hPj := KIN.Hid.mk hPw
      clear hPw lF' lN' hPk hul
      try k_fold
      obtain ⟨hm0, hm1⟩ := fmod_in j hal1
      k_steps
      · rename News _ _ _ _ => lN'
        have N6 := kst_newsOf lN' (fun p hp => List.mem_cons_of_mem _ hp)
        have hq := fdiv_in (j := j) hal1 (by assumption)
        k_dflt (refine append_first (by assumption) N6 hneL (by omega) ?_)
        intro h7 F7 N5
        k_steps
        unfold Stop
        dsimp only [KswPost]
        refine ksw_end ⟨_, _, _, _⟩ (by assumption) (by assumption) (fun p hp => hp) trivial (by kst_all) (by (intro z h2 h3; simp only [List.forall_mem_cons, List.not_mem_nil, false_implies, implies_true, and_true, ne_eq] at h2; simp only [List.contains_cons, List.contains_nil, Bool.or_false, Bool.or_eq_false_iff, beq_eq_false_iff_ne, ne_eq] at h3; simp [kstB, h2, h3])) ?kP ?kM
        case kP => exact ⟨hq.1, TInv.push hPj.out (by omega) hal3.out hm0 hm1⟩
        case kM => (dsimp only; omega)
      all_goals
        unfold Stop
        dsimp only [InvPostN]
        refine kst_end (ws, wn) (by assumption) (by assumption) (List.forall_mem_cons.mpr ⟨.head _, fun p hp => .tail _ (List.mem_append.mpr (.inl hp))⟩) (fun p hp => .tail _ (List.mem_append.mpr (.inr hp))) rfl trivial (fun p hp => nomatch hp) (by (intro z h1 h2 h3; simp only [List.contains_cons, List.contains_nil, Bool.or_false, Bool.or_eq_false_iff, beq_eq_false_iff_ne, ne_eq] at h3; simp [kstB, h1, h3])) hPj.out
    · intro c u9 h9 tk9 hf hP F9 N9
      obtain ⟨us, un9⟩ := c
      dsimp only at F9 N9 hP
      clear lF' lN'
      obtain ⟨ws, hw1, hw2, hw3, hw4⟩ := hP.text
      have hl8 : h9.IsList _ us.toArray := ⟨_, (N9 _ (.head _)).1, rfl, un9, rfl⟩
      k_steps
      unfold Stop
      refine PyProof.Rows.join_list hl8 hw1 (by rw [show (Str.ofString "").length = 0 from by decide +kernel]; omega) ?_
      intro t7 k7
      dsimp only
      generalize Txt.join (Str.ofString "") ws = dd at *
      k_steps
      exact hret _ _ _ _ hw4 (by assumption) (fun p hp => (by assumption : News h₀ L _ _) p (List.mem_cons_of_mem _ hp))

end

/-! L1 -/
section
theorem due_cb2 (w : World) (mean : ExcName → Option Value) (mg mb : Str → Option Value) (news : List (Addr × Obj)) (x y : Str) (t u : Tok) :
   Con 2 16 PySem.Challenge.rw_dp0019_01.row.prog w (hd.heap_39 w.params) hd.view_39 (looseW hd.view_39 [Str.ofString "hexdigits", Str.ofString "decode"]) mean mg mb 46 news (x.length ≤ 4000 ∧ y.length ≤ 40 ∧ 0 < y.length ∧ KIN.Hid (∀ c ∈ toL x, okC c = true)) [.str x t, .str y u] (fun t => .str (decF x y) t) := by
  intro dp un gd cn cs a ccd cl outer A₀ base h₀ L m s Q E B F X N T hcs hpre hdp hun hret
  obtain ⟨h1, h2, h3, h4⟩ := hpre
  have e := dec_is_due x y h4.out
  refine due_cb w mean mg mb news x y t u dp un gd cn cs a ccd cl outer A₀ base h₀ L m s Q E B F X N T hcs ⟨h1, h2, h3⟩ hdp hun ?_
  intro t' h' tk' F' N'
  rw [← e]
  exact hret t' h' tk' F' N'
theorem TextOk.len {r : Str} (h : TextOk r) : r.length ≤ 4000 := h.1
theorem TextOk.hid {r : Str} (h : TextOk r) : KIN.Hid (∀ c ∈ toL r, okC c = true) := ⟨h.2⟩
theorem slice40 (r : Str) : (Txt.slice r none (some 40)).length ≤ 40 := by
  rw [← toL_len, slice_to (by decide), List.length_take]
  exact Nat.min_le_left _ _
theorem lit_ok : (Str.ofString "a=E9= \r\n =4==3d\t\n\r=0A=").length ≤ 4000 ∧ ∀ c ∈ toL (Str.ofString "a=E9= \r\n =4==3d\t\n\r=0A="), okC c = true := by decide +kernel
theorem nl_one : (Str.ofString "\n").length = 1 := by decide +kernel
local macro_rules | `(tactic| walk_at "call ref") => `(tactic| (k_here; (with_reducible show wpAny _ _ (call (Value.ref 34) [Value.ref _]) _ _ _); k_dflt (refine' ConT.use (text_cb _ _ _ _ _ _ _ _ _ ?kl ?ki) ?k1 ?k2 ?k3 ?k4 ?k5 ?kK ?kd ?ku ?_; (case k1 => k_asm); (case k2 => k_asm); (case k3 => k_asm); (case k4 => k_asm); (case k5 => k_asm); (case kK => exact rfl); (case kl => first | k_mem | exact List.Mem.head _); (case ki => assumption); (case kd => first | decide | (simp only [depth_deeper, depth_caller]; decide)); (case ku => first | decide | (simp only [units_deeper, units_caller]; decide))); intro r9 t9 h9 tk9 hr9 F9 N9; (have hr8 := TextOk.len hr9); (have hr7 := TextOk.hid hr9); clear hr9; (have hs9 := slice40 r9); (try dsimp only)))
local macro_rules | `(tactic| walk_at "call ref") => `(tactic| (k_here; (with_reducible show wpAny _ _ (call (Value.ref 29) [Value.str _ _, Value.str _ _]) _ _ _); k_dflt (refine' Con.use (decode_cb _ _ _ _ _ _ _ _ _ _ (.inl rfl)) ?k1 ?k2 ?k3 ?k4 ?k5 ?kK ?kp ?kd ?ku ?_; (case k1 => k_asm); (case k2 => k_asm); (case k3 => k_asm); (case k4 => k_asm); (case k5 => k_asm); (case kK => exact rfl); (case kp => exact ⟨by omega, by omega, by omega⟩); (case kd => first | decide | (simp only [depth_deeper, depth_caller]; decide)); (case ku => first | decide | (simp only [units_deeper, units_caller]; decide))); intro t9 h9 tk9 F9 N9; (try dsimp only)))
local macro_rules | `(tactic| walk_at "call ref") => `(tactic| (k_here; (with_reducible show wpAny _ _ (call (Value.ref 29) [Value.str _ _]) _ _ _); k_dflt (refine' Con.use (decode_cb _ _ _ _ _ _ _ _ _ _ (.inr ⟨rfl, rfl, rfl⟩)) ?k1 ?k2 ?k3 ?k4 ?k5 ?kK ?kp ?kd ?ku ?_; (case k1 => k_asm); (case k2 => k_asm); (case k3 => k_asm); (case k4 => k_asm); (case k5 => k_asm); (case kK => exact rfl); (case kp => exact ⟨by omega, by omega, by omega⟩); (case kd => first | decide | (simp only [depth_deeper, depth_caller]; decide)); (case ku => first | decide | (simp only [units_deeper, units_caller]; decide))); intro t9 h9 tk9 F9 N9; (try dsimp only)))
local macro_rules | `(tactic| walk_at "call ref") => `(tactic| (k_here; (with_reducible show wpAny _ _ (call (Value.ref 46) [Value.str _ _, Value.str _ _]) _ _ _); k_dflt (refine' Con.use (due_cb2 _ _ _ _ _ _ _ _ _) ?k1 ?k2 ?k3 ?k4 ?k5 ?kK ?kp ?kd ?ku ?_; (case k1 => k_asm); (case k2 => k_asm); (case k3 => k_asm); (case k4 => k_asm); (case k5 => k_asm); (case kK => exact rfl); (case kp => exact ⟨by omega, by omega, by omega, by assumption⟩); (case kd => first | decide | (simp only [depth_deeper, depth_caller]; decide)); (case ku => first | decide | (simp only [units_deeper, units_caller]; decide))); intro t9 h9 tk9 F9 N9; (try dsimp only)))
theorem w1 : PySem.Challenge.rw_dp0019_01.Holds := hd (by
  have hn1 := nl_one
  have hlo := lit_ok.1
  have hlk := KIN.Hid.mk lit_ok.2
  k_go0
  (all_goals try k_fold)
  k_steps)

end

end Mine

theorem PySem.Challenge.cw_dp0019_01_holds : PySem.Challenge.rw_dp0019_01.Holds := by
  exact Mine.w1
