import PyProof.Rows.All
import Wide.All
import OpenK.AllK
import Wide.FinOn
import PySem.Challenge.RW_dm0114_03
open PySem PySem.W PyProof.Rows
set_option Elab.async false

namespace Mine

/-- what parse257 reads behind the opening -/
def par : List Nat → List Nat
  | [] => []
  | [c] => if c = 34 then [] else [c]
  | c :: d :: r => if c = 34 then (if d = 34 then 34 :: par r else []) else c :: par (d :: r)

def dbl (l : List Nat) : List Nat := l.flatMap fun c => if c = 34 then [34, 34] else [c]

theorem par_ne {c : Nat} (h : c ≠ 34) (r : List Nat) : par (c :: r) = c :: par r := by
  cases r with
  | nil => simp [par, h]
  | cons d r => simp [par, h]

theorem par_qq (r : List Nat) : par (34 :: 34 :: r) = 34 :: par r := by simp [par]

theorem par_q_end : par [34] = [] := by simp [par]

theorem par_q_ne {d : Nat} (h : d ≠ 34) (r : List Nat) : par (34 :: d :: r) = [] := by simp [par, h]

theorem dbl_nil : dbl [] = [] := rfl

theorem dbl_cons (c : Nat) (l : List Nat) : dbl (c :: l) = (if c = 34 then [34, 34] else [c]) ++ dbl l := rfl

theorem par_dbl (p r : List Nat) : par (dbl p ++ r) = p ++ par r := by
  induction p with
  | nil => rfl
  | cons c p ih =>
    rw [dbl_cons, List.append_assoc]
    by_cases h : c = 34
    · subst h
      simp only [if_true, List.cons_append, List.nil_append]
      rw [par_qq, ih]
    · simp only [h, if_false, List.cons_append, List.nil_append]
      rw [par_ne h, ih]

theorem dbl_length (l : List Nat) : (dbl l).length ≤ 2 * l.length := by
  induction l with
  | nil => exact Nat.le_refl _
  | cons c l ih =>
    rw [dbl_cons, List.length_append, List.length_cons]
    split <;> simp only [List.length_cons, List.length_nil] <;> omega

theorem par_length_aux (n : Nat) : ∀ l : List Nat, l.length ≤ n → (par l).length ≤ l.length := by
  induction n with
  | zero =>
    intro l h
    have e : l = [] := List.eq_nil_of_length_eq_zero (by omega)
    subst e
    exact Nat.le_refl _
  | succ n ih =>
    intro l h
    match l, h with
    | [], _ => exact Nat.le_refl _
    | [c], _ =>
      by_cases hc : c = 34
      · simp [par, hc]
      · simp [par, hc]
    | c :: d :: r, h =>
      simp only [List.length_cons] at h
      by_cases hc : c = 34
      · by_cases hd : d = 34
        · subst hc; subst hd
          rw [par_qq]
          have := ih r (by omega)
          simp only [List.length_cons]; omega
        · subst hc
          rw [par_q_ne hd]
          simp
      · rw [par_ne hc]
        have := ih (d :: r) (by simp only [List.length_cons]; omega)
        simp only [List.length_cons] at *; omega

theorem par_length (l : List Nat) : (par l).length ≤ l.length := par_length_aux _ l (Nat.le_refl _)

/-- the texts as lists of signs -/
def T (l : List Nat) : Str := ⟨l.toArray⟩
theorem T_toList (x : Str) : T x.cps.toList = x := rfl
theorem toList_T (l : List Nat) : (T l).cps.toList = l := rfl
theorem T_length (l : List Nat) : (T l).length = l.length := by show l.toArray.size = _; simp
theorem length_toList (x : Str) : x.cps.toList.length = x.length := Array.length_toList
theorem T_append (a b : List Nat) : T a ++ T b = T (a ++ b) := by
  refine PySem.Str.ext' (Array.toList_inj.mp ?_)
  rw [PySem.Str.cps_append, Array.toList_append]
  rfl
theorem toList_append (a b : Str) : (a ++ b).cps.toList = a.cps.toList ++ b.cps.toList := by
  rw [PySem.Str.cps_append, Array.toList_append]
theorem ext {a b : Str} (h : a.cps.toList = b.cps.toList) : a = b := PySem.Str.ext' (Array.toList_inj.mp h)

def parS (s : Str) : Str := T (par (s.cps.toList.drop 5))
def dblS (s : Str) : Str := T (dbl s.cps.toList)

theorem dblS_length (s : Str) : (dblS s).length ≤ 2 * s.length := by
  unfold dblS
  rw [T_length, ← length_toList s]
  exact dbl_length _

theorem parS_length (s : Str) : (parS s).length ≤ s.length := by
  unfold parS
  rw [T_length, ← length_toList s]
  refine Nat.le_trans (par_length _) ?_
  rw [List.length_drop]; omega

def opn : List Nat := [50, 53, 55, 32, 34]
theorem opn_eq : (Str.ofString "257 \"").cps.toList = opn := by decide +kernel

def Opens (s : Str) : Prop := s.cps.toList.take 5 = opn ∧ s.length ≤ 1048576

theorem opens_add {x : Str} (h : x.length ≤ 1048000) : Opens (Str.ofString "257 \"" ++ x) := by
  refine ⟨?_, ?_⟩
  · rw [toList_append, opn_eq]; rfl
  · rw [PySem.Str.length_append]
    have : (Str.ofString "257 \"").length = 5 := by decide +kernel
    omega

theorem parS_open (x : Str) : parS (Str.ofString "257 \"" ++ x) = T (par x.cps.toList) := by
  unfold parS
  rw [toList_append, opn_eq]
  rfl

theorem parS_open_cat (x y : Str) : parS (Str.ofString "257 \"" ++ x ++ y) = T (par (x.cps.toList ++ y.cps.toList)) := by
  unfold parS
  rw [toList_append, toList_append, opn_eq]
  rfl


section
variable {prog : Program} {w : World} {A : Around} {E : Value → Shared → Prop} {s : Shared} {t : Tok} {Q : Value → Shared → Prop} {D : Addr} {ys : List Value} {l : List Int} {g : Int → Str}
theorem join_any (b : Nat) (hl : s.heap.IsList D ys.toArray) (hc : CarriedAll ys (l.map fun a => PyData.str (g a))) (h1 : ∀ a, (g a).length = 1) (hn : l.length ≤ b) (hb : b ≤ 1000)
    (h : ∀ (x : Str) t' k, x.length ≤ b → Q (.str x t') { s with toks := k }) :
    wpAny (model prog w) A (call (.builtin "str.join") [.str (Str.ofString "") t, .ref D]) Q E s :=
  KT.join_1 hl hc (fun a _ => h1 a) (by omega) fun t' k e => h _ t' k (by rw [e]; exact hn)
end


theorem join_flat : ∀ l : List Str, (Str.join (Str.ofString "") l).cps.toList = l.flatMap fun a => a.cps.toList
  | [] => rfl
  | [a] => by simp [Str.join]
  | a :: b :: r => by
    have e : (Str.ofString "").cps.toList = [] := by decide +kernel
    rw [Str.join, toList_append, toList_append, e, join_flat (b :: r), List.append_nil]
    · rfl
    · intro h
      cases h

def dsg (a : Str) : Str := if (a == Str.ofString "\"") = true then Str.ofString "\"\"" else a

theorem dsg_one (c : Nat) : (dsg ⟨#[c]⟩).cps.toList = if c = 34 then [34, 34] else [c] := by
  unfold dsg
  by_cases h : c = 34
  · subst h
    decide +kernel
  · have e : (Str.ofString "\"") = ⟨#[34]⟩ := by decide +kernel
    have n : ¬ (((⟨#[c]⟩ : Str) == Str.ofString "\"") = true) := by
      intro q
      rw [e] at q
      have q' := eq_of_beq q
      injection q' with q''
      injection q'' with q3
      injection q3 with q4
      exact h q4
    rw [if_neg n, if_neg h]

theorem join_dsg (x : Str) : Txt.join (Str.ofString "") ((signs x).map dsg) = dblS x := by
  refine ext ?_
  show (Builtin.Str.glued (Str.ofString "") _).cps.toList = _
  rw [StrLaws.glued_eq_join, join_flat]
  show _ = dbl x.cps.toList
  unfold signs dbl
  rw [List.flatMap_map, List.flatMap_map]
  refine congrArg (fun f => List.flatMap f x.cps.toList) ?_
  funext c
  exact dsg_one c

theorem dsg_len {x a : Str} (h : a ∈ signs x) : (dsg a).length ≤ 2 := by
  obtain ⟨c, rfl⟩ := sign_is h
  rw [← length_toList, dsg_one]
  split <;> simp

section
variable {prog : Program} {w : World} {A : Around} {E : Value → Shared → Prop} {s : Shared} {t : Tok} {Q : Value → Shared → Prop} {D : Addr} {ys : List Value} {x : Str}
theorem join_dbl (hl : s.heap.IsList D ys.toArray)
    (hc : CarriedAll ys (((signs x).filter fun _ => true).map fun a => if (a == Str.ofString "\"") = true then PyData.str (Str.ofString "\"\"") else PyData.str a))
    (hn : x.length ≤ 1048576) (h : ∀ t' k, (dblS x).length ≤ 2 * x.length → Q (.str (dblS x) t') { s with toks := k }) :
    wpAny (model prog w) A (call (.builtin "str.join") [.str (Str.ofString "") t, .ref D]) Q E s := by
  have e : (((signs x).filter fun _ => true).map fun a => if (a == Str.ofString "\"") = true then PyData.str (Str.ofString "\"\"") else PyData.str a) = (signs x).map fun a => PyData.str (dsg a) := by
    rw [filter_true']
    refine List.map_congr_left fun a _ => ?_
    unfold dsg
    split <;> rfl
  rw [e] at hc
  refine KT.join_B 2 hl hc (fun a ha => dsg_len ha) (by rw [signs_length]; exact hn) (by decide) fun t' k => ?_
  rw [join_dsg]
  exact h t' k (dblS_length x)
end


section
variable {prog : Program} {w : World} {A : Around} {E : Value → Shared → Prop} {s : Shared} {t u : Tok} {Q : Value → Shared → Prop} {x y : Str}
theorem add_len (hsz : x.length + y.length ≤ 1048576) (h : ∀ t' tk, Q (.str (x ++ y) t') { s with toks := tk }) :
    wpAny (model prog w) A (binaryOp .Add (.str x t) (.str y u)) Q E s :=
  PyProof.Rows.add_str h (by rw [sizeLine_eq]; omega)
theorem ne_same (e : x = y) (h : Q (.bool false) s) : wpAny (model prog w) A (compareOp .NotEq (.str x t) (.str y u)) Q E s :=
  PyProof.Rows.ne_str (by subst e; rw [bne_self_eq_false]; exact h)
theorem ne_other (e : x ≠ y) (h : Q (.bool true) s) : wpAny (model prog w) A (compareOp .NotEq (.str x t) (.str y u)) Q E s :=
  PyProof.Rows.ne_str (by rw [bne_iff_ne.mpr e]; exact h)
theorem pre_fact {P : Prop} {tree : Sem Value} (hp : P) (h : P → wpAny (model prog w) A tree Q E s) : wpAny (model prog w) A tree Q E s := h hp
end

theorem lit_o : (Str.ofString "257 \"").length = 5 := by decide +kernel
theorem lit_q : (Str.ofString "\"").length = 1 := by decide +kernel
theorem lit_e : (Str.ofString "").length = 0 := by decide +kernel

theorem opens_left {a b : Str} (h : Opens a) (hl : (a ++ b).length ≤ 1048576) : Opens (a ++ b) := by
  refine ⟨?_, hl⟩
  have h5 : 5 ≤ a.cps.toList.length := by
    have := congrArg List.length h.1
    simp [opn] at this
    rw [length_toList]
    have e : a.cps.size = a.length := rfl
    omega
  rw [toList_append, List.take_append_of_le_length h5]
  exact h.1


theorem opens_len {s : Str} (h : Opens s) : 5 ≤ s.length := by
  have := congrArg List.length h.1
  simp [opn] at this
  have e : s.cps.size = s.length := rfl
  omega

theorem slice_to {x : Str} {j : Int} (h0 : 0 ≤ j) (h2 : j ≤ x.length) : Txt.slice x none (some j) = T (x.cps.toList.take j.toNat) := by
  have e := eq_of_beq (slice_closes_toL h0 h2)
  rw [e]
  show T ((x.cps.toList.drop 0).take (j - 0).toNat) = _
  rw [List.drop_zero, Int.sub_zero]
theorem slice_from {x : Str} {j : Int} (h0 : 0 ≤ j) (h2 : j ≤ x.length) : Txt.slice x (some j) none = T (x.cps.toList.drop j.toNat) := by
  rw [slice_from_eq h0 h2 rfl]
  show T _ = _
  refine congrArg T (List.take_of_length_le ?_)
  rw [List.length_drop, length_toList]
  omega
theorem slice_run {x : Str} {i j : Int} (h0 : 0 ≤ i) (h1 : i ≤ j) (h2 : j ≤ x.length) : Txt.slice x (some i) (some j) = T ((x.cps.toList.drop i.toNat).take (j - i).toNat) :=
  eq_of_beq (slice_closesL h0 h1 h2)

theorem opens_head {s : Str} (h : Opens s) : Txt.slice s none (some 3) = Str.ofString "257" := by
  have h5 := opens_len h
  rw [slice_to (by decide) (by omega)]
  have e : (s.cps.toList.take 5).take 3 = s.cps.toList.take 3 := by rw [List.take_take]; rfl
  show T (s.cps.toList.take 3) = _
  rw [← e, h.1]
  decide +kernel
theorem opens_mid {s : Str} (h : Opens s) : Txt.slice s (some 3) (some 5) = Str.ofString " \"" := by
  have h5 := opens_len h
  rw [slice_run (by decide) (by decide) (by omega)]
  have e : (s.cps.toList.take 5).drop 3 = (s.cps.toList.drop 3).take 2 := by rw [List.drop_take]
  show T ((s.cps.toList.drop 3).take 2) = _
  rw [← e, h.1]
  decide +kernel

theorem item_at {s : Str} {i : Int} (h0 : 0 ≤ i) (h : i < s.length) : ∃ c, Txt.item s i = ⟨#[c]⟩ ∧ s.cps.toList.drop i.toNat = c :: s.cps.toList.drop (i.toNat + 1) := by
  have hi : i.toNat < s.cps.toList.length := by rw [length_toList]; omega
  refine ⟨s.cps.toList[i.toNat], ?_, List.drop_eq_getElem_cons hi⟩
  unfold Txt.item Txt.charAt
  rw [seqIndex_of h0 h]
  have e : s.cps[i.toNat]? = some s.cps.toList[i.toNat] := by
    rw [← Array.getElem?_toList]
    exact List.getElem?_eq_getElem hi
  show (⟨#[(s.cps[i.toNat]?).getD 0]⟩ : Str) = _
  rw [e]
  rfl

theorem quote_eq : Str.ofString "\"" = ⟨#[34]⟩ := by decide +kernel
theorem one_quote {c : Nat} : (((⟨#[c]⟩ : Str) == Str.ofString "\"") = true) ↔ c = 34 := by
  rw [quote_eq]
  constructor
  · intro q
    have q' := eq_of_beq q
    injection q' with q''
    injection q'' with q3
    injection q3 with q4
  · intro h
    subst h
    exact beq_self_eq_true _

/-- the loop of parse257 stands at i and has gathered d -/
def Goes (s : Str) (i : Int) (d : Str) : Prop := d.cps.toList ++ par (s.cps.toList.drop i.toNat) = par (s.cps.toList.drop 5)

theorem goes_start (s : Str) : Goes s 5 (Str.ofString "") := by
  unfold Goes
  have e : (Str.ofString "").cps.toList = [] := by decide +kernel
  rw [e]
  rfl

theorem goes_end {s : Str} {i : Int} {d : Str} (g : Goes s i d) (h : ¬ i < s.length) : d = parS s := by
  refine ext ?_
  unfold Goes at g
  have e : s.cps.toList.drop i.toNat = [] := List.drop_eq_nil_of_le (by rw [length_toList]; omega)
  rw [e] at g
  show _ = par (s.cps.toList.drop 5)
  rw [← g]
  simp [par]

theorem goes_plain {s : Str} {i : Int} {d : Str} (g : Goes s i d) (h0 : 0 ≤ i) (h : i < s.length) (hq : ¬ (Txt.item s i == Str.ofString "\"") = true) : Goes s (i + 1) (d ++ Txt.item s i) := by
  obtain ⟨c, e, hd⟩ := item_at h0 h
  rw [e] at hq ⊢
  unfold Goes at g ⊢
  have hc : c ≠ 34 := fun x => hq (one_quote.mpr x)
  rw [hd, par_ne hc] at g
  have e1 : (i + 1).toNat = i.toNat + 1 := by omega
  rw [toList_append, e1, List.append_assoc, ← g]
  rfl

theorem goes_pair {s : Str} {i : Int} {d : Str} (g : Goes s i d) (h0 : 0 ≤ i) (h : i + 1 < s.length) (hq : (Txt.item s i == Str.ofString "\"") = true) (hq2 : (Txt.item s (i + 1) == Str.ofString "\"") = true) :
    Goes s (i + 1 + 1) (d ++ Txt.item s i) := by
  obtain ⟨c, e, hd⟩ := item_at h0 (by omega : i < s.length)
  obtain ⟨c', e', hd'⟩ := item_at (by omega : 0 ≤ i + 1) h
  rw [e] at hq ⊢
  rw [e'] at hq2
  have hc := one_quote.mp hq
  have hc' := one_quote.mp hq2
  subst hc
  subst hc'
  unfold Goes at g ⊢
  have e1 : (i + 1).toNat = i.toNat + 1 := by omega
  have e2 : (i + 1 + 1).toNat = i.toNat + 1 + 1 := by omega
  rw [e1] at hd'
  rw [hd, hd', par_qq] at g
  rw [toList_append, e2, List.append_assoc, ← g]
  rfl

theorem goes_last {s : Str} {i : Int} {d : Str} (g : Goes s i d) (h0 : 0 ≤ i) (h : i < s.length) (h1 : ¬ i + 1 < s.length) (hq : (Txt.item s i == Str.ofString "\"") = true) : d = parS s := by
  obtain ⟨c, e, hd⟩ := item_at h0 h
  rw [e] at hq
  have hc := one_quote.mp hq
  subst hc
  refine ext ?_
  unfold Goes at g
  have en : s.cps.toList.drop (i.toNat + 1) = [] := List.drop_eq_nil_of_le (by rw [length_toList]; omega)
  rw [hd, en, par_q_end, List.append_nil] at g
  exact g

theorem goes_stop {s : Str} {i : Int} {d : Str} (g : Goes s i d) (h0 : 0 ≤ i) (h : i + 1 < s.length) (hq : (Txt.item s i == Str.ofString "\"") = true) (hq2 : ¬ (Txt.item s (i + 1) == Str.ofString "\"") = true) : d = parS s := by
  obtain ⟨c, e, hd⟩ := item_at h0 (by omega : i < s.length)
  obtain ⟨c', e', hd'⟩ := item_at (by omega : 0 ≤ i + 1) h
  rw [e] at hq
  rw [e'] at hq2
  have hc := one_quote.mp hq
  have hc' : c' ≠ 34 := fun x => hq2 (one_quote.mpr x)
  subst hc
  refine ext ?_
  unfold Goes at g
  have e1 : (i + 1).toNat = i.toNat + 1 := by omega
  rw [e1] at hd'
  rw [hd, hd', par_q_ne hc', List.append_nil] at g
  exact g

/-- the three shapes that the laws ask of parse257 -/
theorem par_ends {t : List Nat} {tail : List Nat} (h : tail.head? ≠ some 34) : par (dbl t ++ (34 :: tail)) = t := by
  rw [par_dbl]
  cases tail with
  | nil => rw [par_q_end, List.append_nil]
  | cons c r => rw [par_q_ne (fun x => h (by rw [x]; rfl)), List.append_nil]

theorem parS_full {t tail : Str} (h : tail.cps.toList.head? ≠ some 34) : parS (Str.ofString "257 \"" ++ dblS t ++ Str.ofString "\"" ++ tail) = t := by
  refine ext ?_
  unfold parS
  rw [toList_T, toList_append, toList_append, toList_append, opn_eq, quote_eq]
  have e : (opn ++ (dblS t).cps.toList ++ [34] ++ tail.cps.toList).drop 5 = dbl t.cps.toList ++ (34 :: tail.cps.toList) := by
    rw [List.append_assoc, List.append_assoc]
    rfl
  show par ((opn ++ (dblS t).cps.toList ++ [34] ++ tail.cps.toList).drop 5) = _
  rw [e, par_ends h]

theorem parS_part (t : Str) : parS (Str.ofString "257 \"" ++ dblS t) = t := by
  refine ext ?_
  rw [parS_open]
  show par (dbl t.cps.toList) = _
  have e := par_dbl t.cps.toList []
  rw [List.append_nil] at e
  rw [e]
  exact List.append_nil _


theorem opens_base {x : Str} (h : x.length ≤ 1000000) : Opens (Str.ofString "257 \"" ++ x) := by
  refine ⟨?_, ?_⟩
  · rw [toList_append, opn_eq]; rfl
  · rw [PySem.Str.length_append, lit_o]; omega

section
variable {prog : Program} {w : World} {A : Around} {E : Value → Shared → Prop} {s : Shared} {t u : Tok} {Q : Value → Shared → Prop} {x r : Str} {f : Addr}
theorem pre_parse (hp : Opens x) (he : parS x = r) (h : Opens x → parS x = r → wpAny (model prog w) A (call (.ref f) [.str x t]) Q E s) : wpAny (model prog w) A (call (.ref f) [.str x t]) Q E s := h hp he
end


theorem opens_fits {x : Str} (h : Opens x) : x.length ≤ sizeLine := by
  have := h.2
  rw [sizeLine_eq]; omega


theorem item_len {s : Str} {i : Int} (h0 : 0 ≤ i) (h : i < s.length) : (Txt.item s i).length = 1 := by
  obtain ⟨c, e, _⟩ := item_at h0 h
  rw [e]
  rfl

theorem st_start {s : Str} (h : 5 ≤ s.length) : (5 : Int) ≤ 5 ∧ (5 : Int) ≤ (s.length : Int) ∧ (((Str.ofString "").length : Nat) : Int) ≤ 5 ∧ Goes s 5 (Str.ofString "") :=
  ⟨by decide, by omega, by rw [lit_e]; decide, goes_start s⟩

theorem st_plain {s d : Str} {i : Int} (g : Goes s i d) (h5 : 5 ≤ i) (h : i < s.length) (hd : (d.length : Int) ≤ i) (hq : ¬ (Txt.item s i == Str.ofString "\"") = true) :
    5 ≤ i + 1 ∧ i + 1 ≤ (s.length : Int) ∧ ((d ++ Txt.item s i).length : Int) ≤ i + 1 ∧ Goes s (i + 1) (d ++ Txt.item s i) := by
  refine ⟨by omega, by omega, ?_, goes_plain g (by omega) h hq⟩
  rw [PySem.Str.length_append, item_len (by omega) h]
  omega

theorem st_pair {s d : Str} {i : Int} (g : Goes s i d) (h5 : 5 ≤ i) (h : i + 1 < s.length) (hd : (d.length : Int) ≤ i) (hq : (Txt.item s i == Str.ofString "\"") = true) (hq2 : ¬ (Txt.item s (i + 1) != Str.ofString "\"") = true) :
    5 ≤ i + 1 + 1 ∧ i + 1 + 1 ≤ (s.length : Int) ∧ ((d ++ Txt.item s i).length : Int) ≤ i + 1 + 1 ∧ Goes s (i + 1 + 1) (d ++ Txt.item s i) := by
  have hq3 : (Txt.item s (i + 1) == Str.ofString "\"") = true := by
    cases hb : (Txt.item s (i + 1) == Str.ofString "\"") with
    | true => rfl
    | false => exact absurd (by unfold bne; rw [hb]; rfl) hq2
  refine ⟨by omega, by omega, ?_, goes_pair g (by omega) h hq hq3⟩
  rw [PySem.Str.length_append, item_len (by omega) (by omega)]
  omega

theorem goes_stop' {s d : Str} {i : Int} (g : Goes s i d) (h0 : 0 ≤ i) (h : i + 1 < s.length) (hq : (Txt.item s i == Str.ofString "\"") = true) (hq2 : (Txt.item s (i + 1) != Str.ofString "\"") = true) : d = parS s := by
  refine goes_stop g h0 h hq fun x => ?_
  unfold bne at hq2
  rw [x] at hq2
  exact absurd hq2 (by decide)

theorem not_of_false {b : Bool} (h : b = false) : ¬ b = true := by rw [h]; decide


/-- the four shapes that the second law asks -/
theorem law_two {p r a : Str} (h : parS (Str.ofString "257 \"" ++ r) = a) : parS (Str.ofString "257 \"" ++ dblS p ++ r) = p ++ a := by
  subst h
  refine ext ?_
  rw [parS_open_cat, toList_append, parS_open]
  exact par_dbl _ _

theorem law_three {p r a : Str} (h : parS (Str.ofString "257 \"" ++ r) = a) : parS (Str.ofString "257 \"" ++ dblS p ++ Str.ofString "\"\"" ++ r) = p ++ Str.ofString "\"" ++ a := by
  subst h
  refine ext ?_
  have e2 : (Str.ofString "\"\"").cps.toList = [34, 34] := by decide +kernel
  have e1 : (Str.ofString "\"").cps.toList = [34] := by decide +kernel
  unfold parS
  rw [toList_T, toList_append, toList_append, toList_append, toList_append, toList_append, toList_append, opn_eq, e2, e1]
  have e : (opn ++ (dblS p).cps.toList ++ [34, 34] ++ r.cps.toList).drop 5 = dbl p.cps.toList ++ (34 :: 34 :: r.cps.toList) := by
    rw [List.append_assoc, List.append_assoc]
    rfl
  rw [e, par_dbl, par_qq, List.append_assoc]
  rfl

theorem law_four (p r : Str) : parS (Str.ofString "257 \"" ++ dblS p ++ Str.ofString "\" " ++ r) = p := by
  refine ext ?_
  have e2 : (Str.ofString "\" ").cps.toList = [34, 32] := by decide +kernel
  unfold parS
  rw [toList_T, toList_append, toList_append, toList_append, opn_eq, e2]
  have e : (opn ++ (dblS p).cps.toList ++ [34, 32] ++ r.cps.toList).drop 5 = dbl p.cps.toList ++ (34 :: 32 :: r.cps.toList) := by
    rw [List.append_assoc, List.append_assoc]
    rfl
  rw [e, par_ends (by simp)]

theorem lit_qq : (Str.ofString "\"\"").length = 2 := by decide +kernel
theorem lit_qb : (Str.ofString "\" ").length = 2 := by decide +kernel

theorem opens_two {p r : Str} (hp : p.length ≤ 16) (hr : r.length ≤ 16) : Opens (Str.ofString "257 \"" ++ dblS p ++ r) := by
  have hd := dblS_length p
  refine opens_left (opens_base (by omega)) ?_
  rw [PySem.Str.length_append, PySem.Str.length_append, lit_o]
  omega

theorem opens_three {p m r : Str} (hp : p.length ≤ 16) (hm : m.length = 2) (hr : r.length ≤ 16) : Opens (Str.ofString "257 \"" ++ dblS p ++ m ++ r) := by
  refine opens_left (opens_two hp (by omega)) ?_
  have hd := dblS_length p
  rw [PySem.Str.length_append, PySem.Str.length_append, PySem.Str.length_append, lit_o]
  omega

section
variable {prog : Program} {w : World} {A : Around} {E : Value → Shared → Prop} {s : Shared} {t : Tok} {Q : Value → Shared → Prop} {r : Str} {f : Addr}
theorem pre_alone (hr : r.length ≤ 16) (h : ∀ a, Opens (Str.ofString "257 \"" ++ r) → parS (Str.ofString "257 \"" ++ r) = a → a.length ≤ 21 → wpAny (model prog w) A (call (.ref f) [.str (Str.ofString "257 \"" ++ r) t]) Q E s) :
    wpAny (model prog w) A (call (.ref f) [.str (Str.ofString "257 \"" ++ r) t]) Q E s := by
  refine h _ (opens_base (by omega)) rfl ?_
  have hl := parS_length (Str.ofString "257 \"" ++ r)
  rw [PySem.Str.length_append, lit_o] at hl
  omega
end

section
variable {prog : Program} {w : World} {A : Around} {E : Value → Shared → Prop} {s : Shared} {t uj ui : Tok} {i j : Int} {Q : Value → Shared → Prop} {value slice : Expr} {x : Str} {h₀ : Heap} {L : Addr} {m : Str → Option Value} {news : List (Addr × Obj)} {b : Nat}
theorem cut_to (hb : x.length ≤ b) (hb2 : b ≤ 1000) (hF : Fr h₀ L s.heap m) (hN : News h₀ L s.heap news)
    (h : ∀ h' t' k p, p.length ≤ b → Fr h₀ L h' m → News h₀ L h' news → Q (.str p t') { s with heap := h', toks := k })
    (hs : subscripted slice false (.str x t) (.ref s.heap.objs.size) = operate [.ref s.heap.objs.size, .str x t] (getItem (.str x t) (.ref s.heap.objs.size)) := by with_unfolding_all rfl)
    (ht : ∀ r, letTemporaryGo value (.str x t) r = pure () := by intro _; with_unfolding_all rfl) :
    wpAny (model prog w) A (subscriptTail value slice (.str x t) (.ref s.heap.objs.size)) Q E { s with heap := s.heap.push { cls := .type "slice", data := .fields #[.none, .int j uj, .none] } } :=
  slice_strN_ns hF hN (fun h' t' k F N => h h' t' k _ (Nat.le_trans (Txt.slice_le _ _ _) hb) F N) hs ht (by rw [sizeLine_eq]; omega)
theorem cut_from (hb : x.length ≤ b) (hb2 : b ≤ 1000) (hF : Fr h₀ L s.heap m) (hN : News h₀ L s.heap news)
    (h : ∀ h' t' k p, p.length ≤ b → Fr h₀ L h' m → News h₀ L h' news → Q (.str p t') { s with heap := h', toks := k })
    (hs : subscripted slice false (.str x t) (.ref s.heap.objs.size) = operate [.ref s.heap.objs.size, .str x t] (getItem (.str x t) (.ref s.heap.objs.size)) := by with_unfolding_all rfl)
    (ht : ∀ r, letTemporaryGo value (.str x t) r = pure () := by intro _; with_unfolding_all rfl) :
    wpAny (model prog w) A (subscriptTail value slice (.str x t) (.ref s.heap.objs.size)) Q E { s with heap := s.heap.push { cls := .type "slice", data := .fields #[.int i ui, .none, .none] } } :=
  slice_strN_sn hF hN (fun h' t' k F N => h h' t' k _ (Nat.le_trans (Txt.slice_le _ _ _) hb) F N) hs ht (by rw [sizeLine_eq]; omega)
end


-- a loop over a range whose turns store names alone that nothing behind asks
section
variable {prog : Program} {w : World} {A : Around} {E : Value → Shared → Prop} {s : Shared} {env : Env} {h₀ : Heap} {x : Str} {body : List Stmt} {Q : Flow → Shared → Prop} {r L : Addr} {a₀ b₀ : Int} {t₀ u₀ v₀ : Tok} {n : Nat} {m₀ m' : Str → Option Value} {news own news' : List (Addr × Obj)}
abbrev Idle (news : List (Addr × Obj)) (x : Str) (stored : List Str) (m₀ : Str → Option Value) (pre : List Int) : (Str → Option Value) → List (Addr × Obj) → Prop :=
  KstS (σ := Unit) (fun _ => news) (fun _ => []) (fun _ => True) x stored m₀ (fun _ _ => True) pre
theorem rng_any (stored : List Str) (hh : A.handled = none) (hr : IsRange s.heap r a₀ b₀ 1 t₀ u₀ v₀) (hsmall : Builtin.Range.small a₀ b₀ 1 = true) (hn : Builtin.Range.rangeSize a₀ b₀ 1 = (n : Int))
    (F : Fr h₀ env.locals s.heap m₀) (N : News h₀ env.locals s.heap news)
    (turn : ∀ (pre : List Int) (k : Int) t (u : Str → Option Value) h tk own, Fr h₀ env.locals h (fun y => if y = x then some (.int k t) else if stored.contains y then u y else m₀ y) → News h₀ env.locals h (news ++ own) →
      wpAny (model prog w) A (execs body env) (InvPostN h₀ env.locals (Idle news x stored m₀ (pre ++ [k])) own (news.map (·.1)) { s with heap := h, toks := tk } Q) E { s with heap := h, toks := tk })
    (done : ∀ (u : Str → Option Value) h tk, Fr h₀ env.locals h (fun y => if y = x then u y else if stored.contains y then u y else m₀ y) → News h₀ env.locals h news → Q .next { s with heap := h, toks := tk }) :
    wpAny (model prog w) A (pyIter (.ref r)) (fun it s₂ => LoopAtV prog w A h₀ env x body Q E it s₂) E s :=
  kst_range (σ := Unit) (fun _ => news) (fun _ => []) (fun _ => True) stored (fun _ _ => True) () hh hr hsmall hn F N True.intro (fun _ hp => nomatch hp) True.intro
    (fun _ pre k t u h tk own _ _ _ _ _ F' N' => turn pre k t u h tk own F' N') (fun _ u h tk _ _ F' N' => done u h tk F' N')
theorem rng_end {stored : List Str} {pre : List Int} {s₁ : Shared} {h' : Heap} {tk : Nat} (F : Fr h₀ L h' m') (N : News h₀ L h' news') (hn : ∀ p ∈ news, p ∈ news') (ho : ∀ p ∈ own, p ∈ news') (hr : ∀ z, z ≠ x → stored.contains z = false → m' z = m₀ z) :
    InvEndN h₀ L (Idle news x stored m₀ pre) own (news.map (·.1)) s₁ { s₁ with heap := h', toks := tk } :=
  kst_end () F N hn ho rfl True.intro (fun _ hp => nomatch hp) (fun z h1 _ h3 => hr z h1 h3) True.intro
end

end Mine

namespace Mine
def sgn (k : Int) : Str := if Int.fmod k 6 = 0 then Str.ofString "\"" else if Int.fmod k 6 = 1 then Str.ofString "a" else if Int.fmod k 6 = 2 then Str.ofString "\"" else if Int.fmod k 6 = 3 then Str.ofString " " else if Int.fmod k 6 = 4 then Str.ofString "/" else Str.ofString "\n"
theorem sgn_len (k : Int) : (sgn k).length = 1 := by
  unfold sgn
  repeat' split
  all_goals decide +kernel
end Mine

local macro_rules | `(tactic| walk_at "CompSrc") => `(tactic| (k_here; (try k_fmods); (try kcf_lens); k_dflt (refine LCg.CompSrc.ledger (by rfl) (by k_asm) (by k_asm) (by k_mem) (by kcf_size) ?_; intro g'; (refine' kct_list Mine.sgn (by first | assumption | l_ints) (fun k' t' I' oI' C' oC' D' m' ys' h' tk' E' hk' hC' hx' F' N' off' ne' => ?_) ?_); (all_goals (try (simp only [LCg.Off3, and_true] at off'))); (all_goals (try ((show KPfMark → _); intro hMark'))); kcf_last)))

local macro_rules | `(tactic| walk_at "call builtin:str.join") => `(tactic| (k_here; (with_reducible show wpAny _ _ (call (Value.builtin "str.join") [Value.str _ _, Value.ref _]) _ _ _); (with_reducible rename CarriedAll _ (List.map _ _) => ktC); first | (refine Mine.join_dbl (by first | assumption | is_list) ktC (by omega) ?_; intro tN' kN' hdN') | (refine Mine.join_any 16 (by first | assumption | is_list | exact News.isList (by k_asm) (by k_mem)) ktC Mine.sgn_len (by omega) (by decide) ?_; intro xN' tN' kN' hxN')))

local macro_rules | `(tactic| walk_at "binaryOp Add str str") => `(tactic| (k_here; (with_reducible show wpAny _ _ (binaryOp Operator.Add (Value.str _ _) (Value.str _ _)) _ _ _); (refine Mine.add_len (by first | omega | ((simp only [PySem.Str.length_append, Mine.lit_o, Mine.lit_q, Mine.lit_e, Mine.lit_qq, Mine.lit_qb]); omega)) ?_; intro tA' kA')))

local macro_rules | `(tactic| walk_at "call ref") => `(tactic| (k_here; first
  | ((refine' Mine.pre_parse ?A ?B ?_; (case B => (first | exact Mine.parS_part _ | exact Mine.law_two (by with_reducible assumption) | exact Mine.law_three (by with_reducible assumption) | exact Mine.law_four _ _)); (case A => (first | exact Mine.opens_base (by omega) | exact Mine.opens_two (by omega) (by omega) | exact Mine.opens_three (by omega) Mine.lit_qq (by omega) | exact Mine.opens_three (by omega) Mine.lit_qb (by omega)))); intro hOp' hPa'; k_call_by "parse257" Mine.parS Mine.Opens)
  | ((refine' Mine.pre_alone ?A ?_; (case A => omega)); intro aN' hOp' hPa' hLe'; k_call_by "parse257" Mine.parS Mine.Opens; rw [hPa'])))

local macro_rules | `(tactic| walk_at "compareOp NotEq str str") => `(tactic| (k_here; (with_reducible show wpAny _ _ (compareOp CmpOp.NotEq (Value.str _ _) (Value.str _ _)) _ _ _); first | (with_reducible refine Mine.ne_same rfl ?_) | (refine Mine.ne_same (by with_reducible assumption) ?_) | (refine Mine.ne_same (Mine.opens_head (by assumption)) ?_) | (refine Mine.ne_same (Mine.opens_mid (by assumption)) ?_)))

local macro_rules | `(tactic| walk_at "subscriptTail") => `(tactic| (k_here; (with_reducible show wpAny _ _ (subscriptTail _ (Expr.Slice none (some _) none _) (Value.str _ _) (Value.ref _)) _ _ _); (with_reducible rename Mine.Opens _ => hOpX); (with_reducible rename Fr _ _ _ _ => F'); (with_reducible rename News _ _ _ _ => N'); (refine slice_strN_ns (hsz := Mine.opens_fits hOpX) (s := ⟨_, _, _, _, _⟩) F' N' ?_); intro _ _ _ _ _; have hOpL := hOpX.2; have hOpS := Mine.opens_len hOpX))
local macro_rules | `(tactic| walk_at "subscriptTail") => `(tactic| (k_here; (with_reducible show wpAny _ _ (subscriptTail _ (Expr.Slice (some _) (some _) none _) (Value.str _ _) (Value.ref _)) _ _ _); (with_reducible rename Mine.Opens _ => hOpX); (with_reducible rename Fr _ _ _ _ => F'); (with_reducible rename News _ _ _ _ => N'); (refine slice_strN_ss (hsz := Mine.opens_fits hOpX) (s := ⟨_, _, _, _, _⟩) F' N' ?_); intro _ _ _ _ _))

local macro_rules | `(tactic| walk_at "subscriptTail") => `(tactic| (k_here; (with_reducible show wpAny _ _ (subscriptTail _ (Expr.Slice none (some _) none _) (Value.str _ _) (Value.ref _)) _ _ _); (with_reducible rename Fr _ _ _ _ => F'); (with_reducible rename News _ _ _ _ => N'); (refine Mine.cut_to (b := 16) (s := ⟨_, _, _, _, _⟩) (by omega) (by decide) F' N' ?_); intro hC' tC' kC' pC' hpC' FC' NC'))
local macro_rules | `(tactic| walk_at "subscriptTail") => `(tactic| (k_here; (with_reducible show wpAny _ _ (subscriptTail _ (Expr.Slice (some _) none none _) (Value.str _ _) (Value.ref _)) _ _ _); (with_reducible rename Fr _ _ _ _ => F'); (with_reducible rename News _ _ _ _ => N'); (refine Mine.cut_from (b := 16) (s := ⟨_, _, _, _, _⟩) (by omega) (by decide) F' N' ?_); intro hC' tC' kC' pC' hpC' FC' NC'))

local macro_rules | `(tactic| walk_at "pyIter ref") => `(tactic| (k_here; (with_reducible show wpAny _ _ (pyIter (Value.ref _)) (fun it s₂ => LoopAtV _ _ _ _ _ _ _ _ _ it s₂) _ _); (rename Fr _ _ _ _ => lF'); (rename News _ _ _ _ => lN'); (rename IsRange _ _ _ _ _ _ _ _ => rgX); (with_unfolding_all refine' Mine.rng_any [Str.ofString "part", Str.ofString "rest", Str.ofString "opening", Str.ofString "alone"] ?a1 rgX ?a2 ?a3 lF' lN' ?_ ?_; (case a1 => rfl); (case a2 => exact small_one (by omega) (by omega) (by omega) (by omega)); (case a3 => exact rangeSize_nat _ _)); (all_goals (try clear lF' lN' rgX)); first
  | (intro pre' k' t' u' h' tk' own' kFr kNews; (try simp only [List.nil_append, List.cons_append] at kNews); (try k_fold))
  | skip))
local macro_rules | `(tactic| walk_at "InvEndN") => `(tactic| ((rename News _ _ _ _ => nE'); (refine Mine.rng_end (by assumption) nE' (by first | kst_in | kst_inAny) (by first | (intro p hp; kst_mem) | kst_anyIn) ?_); intro z h1 h3; (simp only [List.contains_cons, List.contains_nil, Bool.or_false, Bool.or_eq_false_iff, beq_eq_false_iff_ne, ne_eq] at h3); simp [h1, h3]))

set_option maxRecDepth 100000 in
set_option maxHeartbeats 8000000 in
theorem PySem.Challenge.cw_dm0114_03_holds : PySem.Challenge.rw_dm0114_03.Holds := by
  k_with "exec While Compare cons nil" => k_while_given ["resp"] (fun resp script i d => 5 ≤ i ∧ i ≤ (resp.length : Int) ∧ (d.length : Int) ≤ i ∧ Mine.Goes resp i d) (fun resp script i d => resp.length - i.toNat) "i" "dirname"
  k_with "tree" => first
    | exact Mine.goes_end (by assumption) (by omega)
    | exact Mine.goes_last (by assumption) (by omega) (by omega) (by omega) (by assumption)
    | exact Mine.goes_stop' (by assumption) (by omega) (by omega) (by assumption) (by assumption)
  k_with "state" => first
    | exact Mine.st_start (by omega)
    | exact Mine.st_plain (by assumption) (by omega) (by omega) (by omega) (by first | assumption | exact Mine.not_of_false (by assumption))
    | exact Mine.st_pair (by assumption) (by omega) (by omega) (by omega) (by assumption) (by first | assumption | exact Mine.not_of_false (by assumption))
  open_k
