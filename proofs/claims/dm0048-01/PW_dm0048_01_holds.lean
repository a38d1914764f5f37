import PyProof.Rows.All
import Wide.All
import OpenK.AllK
import Wide.FinOn
import Lean
import PySem.Challenge.RW_dm0048_01
set_option Elab.async false
section
open PySem PySem.W PySem.Calls PyProof.Rows
set_option maxRecDepth 100000
namespace Mine

/-- the text of an int -/
abbrev num (n : Int) : PySem.Str := PySem.Str.ofString (toString n)

theorem num_len {n : Int} {k : Nat} (hk : 0 < k) (h : n.natAbs < 10 ^ k) : (num n).length ≤ k + 1 := by
  rw [PySem.ofString_length]
  exact PySem.int_text_length_le10 hk h
theorem nat_of {n : Int} {k : Nat} (h1 : -(10 ^ k : Int) < n) (h2 : n < (10 ^ k : Int)) : n.natAbs < 10 ^ k := by
  have e : ((10 ^ k : Nat) : Int) = (10 ^ k : Int) := by exact Int.natCast_pow 10 k
  omega
/-- a number that the laws write -/
def Fit (n : Int) : Prop := n.natAbs < 10 ^ 50
theorem Fit.len {n : Int} (h : Fit n) : (num n).length ≤ 51 := num_len (by decide) h
theorem Fit.log {n : Int} (h : Fit n) : n.natAbs.log2 < 1920 := by
  have h' : n.natAbs < 10 ^ 50 := h
  have e : (10 : Nat) ^ 50 < 2 ^ 1920 := by decide +kernel
  have h2 : n.natAbs < 2 ^ 1920 := Nat.lt_trans h' e
  by_cases h0 : n.natAbs = 0
  · rw [h0]; decide
  · exact (Nat.log2_lt h0).mpr h2

local macro_rules | `(tactic| kfm_len) => `(tactic| (with_reducible exact Fit.len (by assumption)))
local macro_rules | `(tactic| kfm_hd) => `(tactic| (with_reducible exact Fit.log (by assumption)))

section
variable {prog : Program} {w : World} {A : Around} {E : Value → Shared → Prop} {s : Shared} {Q : Value → Shared → Prop} {a b : Int} {t u v : Tok}
theorem fmt1_meets (ha : Fit a) : Meets (Builtin.«str.format» ⟨[.str (PySem.Str.mk #[123, 125]) t, .int a u], []⟩) (fun _ R s => ∀ t' k, R (.ok (.ret (.str (num a) t'))) { s with toks := k }) := by
  k_dflt kfm_run
theorem fmt2_meets (ha : Fit a) (hb : Fit b) : Meets (Builtin.«str.format» ⟨[.str (PySem.Str.mk #[123, 125, 44, 123, 125]) t, .int a u, .int b v], []⟩) (fun _ R s => ∀ t' k, R (.ok (.ret (.str (num a ++ PySem.Str.ofString "," ++ num b) t'))) { s with toks := k }) := by
  k_dflt kfm_run
theorem fmt1 (ha : Fit a) (h : ∀ t' k, Q (.str (num a) t') { s with toks := k }) : wpAny (model prog w) A (call (.builtin "str.format") [.str (PySem.Str.ofString "{}") t, .int a u]) Q E s :=
  KFm.call_k (X' := PySem.Str.mk #[123, 125]) (by decide +kernel) (KFm.args_2 _ _) (fmt1_meets ha) h
theorem fmt2 (ha : Fit a) (hb : Fit b) (h : ∀ t' k, Q (.str (num a ++ PySem.Str.ofString "," ++ num b) t') { s with toks := k }) : wpAny (model prog w) A (call (.builtin "str.format") [.str (PySem.Str.ofString "{},{}") t, .int a u, .int b v]) Q E s :=
  KFm.call_k (X' := PySem.Str.mk #[123, 125, 44, 123, 125]) (by decide +kernel) (KFm.args_3 _ _ _) (fmt2_meets ha hb) h
end
end Mine
end

section
open PySem PySem.W PySem.Calls PySem.NumText PyProof.Rows
set_option maxRecDepth 100000
namespace Mine

/-- plain figures of a number -/
def figs (m : Nat) : List Nat := (Nat.toDigits 10 m).map Char.toNat
theorem figs_digits (m : Nat) : AllDigits (figs m) := by
  intro c hc
  obtain ⟨ch, hch, e⟩ := List.mem_map.mp hc
  have r := digit_range (Nat.isDigit_of_mem_toDigits (by decide) (by decide) hch)
  rw [← e]
  exact r
theorem figs_ne (m : Nat) : figs m ≠ [] := by
  intro e
  have h := toDigits_len_ge 10 m
  rw [List.map_eq_nil_iff.mp e] at h
  exact absurd h (by decide)
theorem num_nat {n : Int} (h0 : 0 ≤ n) : (num n).cps.toList = figs n.toNat := by
  obtain ⟨m, rfl⟩ := Int.eq_ofNat_of_zero_le h0
  exact KIN.signs_num m
theorem num_neg {n : Int} (h0 : n < 0) : (num n).cps.toList = 45 :: figs (-n).toNat := by
  obtain ⟨m, rfl⟩ := Int.eq_negSucc_of_lt_zero h0
  show (PySem.Str.ofString (toString (Int.negSucc m))).cps.toList = _
  rw [signs_ofString]
  have e : (toString (Int.negSucc m)).toList = '-' :: (Nat.toDigits 10 (m + 1)) := by
    show (Int.repr (Int.negSucc m)).toList = _
    rw [Int.repr]
    simp [Nat.toList_repr]
  rw [e]
  show '-'.toNat :: (Nat.toDigits 10 (m + 1)).map Char.toNat = _
  have e2 : (-(Int.negSucc m)).toNat = m + 1 := by omega
  rw [e2]
  rfl
theorem num_signs (n : Int) : ∀ c ∈ (num n).cps.toList, c = 45 ∨ (48 ≤ c ∧ c ≤ 57) := by
  intro c hc
  by_cases h0 : 0 ≤ n
  · rw [num_nat h0] at hc
    exact .inr (figs_digits _ c hc)
  · rw [num_neg (by omega)] at hc
    rcases List.mem_cons.mp hc with e | hc
    · exact .inl e
    · exact .inr (figs_digits _ c hc)
theorem num_comma (n : Int) : 44 ∉ (num n).cps.toList := by
  intro h
  have := num_signs n 44 h
  omega
theorem num_inj {a b : Int} (h : num a = num b) : a = b := by
  have := congrArg PySem.Str.cps h
  have e : (num a).cps.toList = (num b).cps.toList := by rw [h]
  by_cases ha : 0 ≤ a <;> by_cases hb : 0 ≤ b
  · rw [num_nat ha, num_nat hb] at e
    have := congrArg digitsVal e
    rw [figs, figs, KIN.val_back, KIN.val_back] at this
    omega
  · rw [num_nat ha, num_neg (by omega)] at e
    have := figs_digits a.toNat 45 (by rw [e]; exact .head _)
    omega
  · rw [num_nat hb, num_neg (by omega)] at e
    have := figs_digits b.toNat 45 (by rw [← e]; exact .head _)
    omega
  · rw [num_neg (by omega), num_neg (by omega)] at e
    injection e with _ e
    have := congrArg digitsVal e
    rw [figs, figs, KIN.val_back, KIN.val_back] at this
    omega

theorem num_reads {n : Int} (h0 : 0 ≤ n) (h : Fit n) : PySem.intText? (num n) = some n := by
  have e := intText_digits (x := num n) (by rw [num_nat h0]; exact figs_digits _) (by rw [num_nat h0]; exact figs_ne _) (Nat.le_trans h.len (by decide))
  rw [num_nat h0, figs, KIN.val_back] at e
  rw [e]
  congr 1
  omega
theorem digit_uni : ∀ c : Nat, 48 ≤ c → c ≤ 57 → Unicode.isDigit c = true := by
  intro c h1 h2
  have : ∀ d : Fin 10, Unicode.isDigit (48 + d.val) = true := by decide +kernel
  have := this ⟨c - 48, by omega⟩
  have e : 48 + (c - 48) = c := by omega
  simp only [e] at this
  exact this
theorem num_isdigit {n : Int} (h0 : 0 ≤ n) : PySem.Txt.isdigit (num n) = true := by
  have hl : 0 < (num n).length := by
    have e : (num n).cps.toList.length = (num n).length := Array.length_toList
    rw [num_nat h0] at e
    have := figs_ne n.toNat
    cases hf : figs n.toNat with
    | nil => exact absurd hf this
    | cons c r => rw [hf] at e; simp at e; omega
  unfold PySem.Txt.isdigit
  rw [Bool.and_eq_true]
  refine ⟨decide_eq_true hl, ?_⟩
  rw [← Array.all_toList, num_nat h0, List.all_eq_true]
  intro c hc
  have := figs_digits _ c hc
  exact digit_uni c this.1 this.2

theorem cut_eq {c : Nat} : ∀ {a b x y : List Nat}, c ∉ a → c ∉ b → a ++ c :: x = b ++ c :: y → a = b ∧ x = y
  | [], [], _, _, _, _, h => ⟨rfl, (List.cons.inj h).2⟩
  | [], d :: b, _, _, _, hb, h => absurd (by rw [(List.cons.inj h).1]; exact .head _) hb
  | d :: a, [], _, _, ha, _, h => absurd (by rw [← (List.cons.inj h).1]; exact .head _) ha
  | d :: a, e :: b, _, _, ha, hb, h => by
    obtain ⟨h1, h2⟩ := List.cons.inj h
    obtain ⟨h3, h4⟩ := cut_eq (fun m => ha (.tail _ m)) (fun m => hb (.tail _ m)) h2
    exact ⟨by rw [h1, h3], h4⟩
theorem cut_no {c : Nat} {a b y : List Nat} (ha : c ∉ a) (h : a = b ++ c :: y) : False := ha (by rw [h]; exact List.mem_append_right _ (.head _))
abbrev comma : PySem.Str := PySem.Str.ofString ","
theorem comma_is : comma = ⟨#[44]⟩ := by decide +kernel
theorem join_cps1 (p : PySem.Str) : (PySem.Str.join comma [p]).cps.toList = p.cps.toList := rfl
theorem join_cps2 (p q : PySem.Str) (r : List PySem.Str) : (PySem.Str.join comma (p :: q :: r)).cps.toList = p.cps.toList ++ 44 :: (PySem.Str.join comma (q :: r)).cps.toList := by
  show (p ++ comma ++ PySem.Str.join comma (q :: r)).cps.toList = _
  rw [PySem.Str.cps_append, PySem.Str.cps_append, comma_is]
  simp
theorem join_inj : ∀ {ps qs : List PySem.Str}, ps ≠ [] → qs ≠ [] → (∀ p ∈ ps, 44 ∉ p.cps.toList) → (∀ q ∈ qs, 44 ∉ q.cps.toList) → (PySem.Str.join comma ps).cps.toList = (PySem.Str.join comma qs).cps.toList → ps = qs
  | [], _, h, _, _, _, _ => absurd rfl h
  | _, [], _, h, _, _, _ => absurd rfl h
  | [p], [q], _, _, _, _, h => by
    rw [join_cps1, join_cps1] at h
    rw [PySem.Str.ext' (Array.toList_inj.mp h)]
  | [p], q :: q2 :: r, _, _, hp, _, h => by
    rw [join_cps1, join_cps2] at h
    exact (cut_no (hp p (.head _)) h).elim
  | p :: p2 :: r, [q], _, _, _, hq, h => by
    rw [join_cps1, join_cps2] at h
    exact (cut_no (hq q (.head _)) h.symm).elim
  | p :: p2 :: r, q :: q2 :: r2, _, _, hp, hq, h => by
    rw [join_cps2, join_cps2] at h
    obtain ⟨h1, h2⟩ := cut_eq (hp p (.head _)) (hq q (.head _)) h
    have := join_inj (List.cons_ne_nil _ _) (List.cons_ne_nil _ _) (fun z hz => hp z (.tail _ hz)) (fun z hz => hq z (.tail _ hz)) h2
    rw [PySem.Str.ext' (Array.toList_inj.mp h1), this]
theorem split_ne (x : PySem.Str) : PySem.Txt.split x comma ≠ [] := by
  intro e
  have h := StrLaws.join_split x comma
  rw [e] at h
  have hx : x.length = 0 := by rw [← h]; rfl
  have hc : comma.length = 1 := by decide +kernel
  unfold PySem.Txt.split at e
  rw [if_pos (by rw [hx, hc]; rfl)] at e
  cases e
theorem split_join {ps : List PySem.Str} (hne : ps ≠ []) (hf : ∀ p ∈ ps, 44 ∉ p.cps.toList) : PySem.Txt.split (PySem.Str.join comma ps) comma = ps := by
  refine join_inj (split_ne _) hne ?_ hf ?_
  · have := StrLaws.split_free (PySem.Str.join comma ps) 44
    rw [← comma_is] at this
    exact this
  · rw [StrLaws.join_split]
theorem split_one (a : Int) : PySem.Txt.split (num a) comma = [num a] :=
  split_join (ps := [num a]) (by simp) (by intro p hp; rw [List.mem_singleton.mp hp]; exact num_comma a)
theorem split_two (a b : Int) : PySem.Txt.split (num a ++ comma ++ num b) comma = [num a, num b] :=
  split_join (ps := [num a, num b]) (by simp) (by
    intro p hp
    rcases List.mem_cons.mp hp with e | hp
    · rw [e]; exact num_comma a
    · rw [List.mem_singleton.mp hp]; exact num_comma b)

/-- texts of numbers not below nought -/
def numKind : ItemKind Int where
  is := fun n v => (∃ t, v = .str (num n) t) ∧ Fit n ∧ 0 ≤ n
  un := fun v => match v with | .str x _ => PySem.intText? x | _ => none
  ok := fun a v h => by
    obtain ⟨⟨t, rfl⟩, hf, h0⟩ := h
    exact num_reads h0 hf
section
variable {prog : Program} {w : World} {A : Around} {E : Value → Shared → Prop} {s : Shared} {Q : Value → Shared → Prop} {n : Int} {t : Tok}
theorem call_isdigit (h0 : 0 ≤ n) (h : Q (.bool true) s) : wpAny (model prog w) A (call (.builtin "str.isdigit") [.str (num n) t]) Q E s :=
  SC.isdigit (by rw [num_isdigit h0]; exact h)
theorem call_int (h0 : 0 ≤ n) (hf : Fit n) (h : Q (.int n s.toks) { s with toks := s.toks + 1 }) : wpAny (model prog w) A (call (.type "int") [.str (num n) t]) Q E s :=
  KIN.call_text (num_reads h0 hf) (Nat.le_trans hf.len (by decide)) h
theorem call_str {u : Tok} (hf : Fit n) (h : ∀ t' k, Q (.str (num n) t') { s with toks := k }) : wpAny (model prog w) A (call (.type "str") [.int n u]) Q E s :=
  P.str_of_int hf.log (h _ _)
end
end Mine
end

section
open PySem PySem.W PySem.Calls PySem.NumText PyProof.Rows
set_option maxRecDepth 100000
namespace Mine
/-- ints that are written -/
def fitKind : ItemKind Int where
  is := fun n v => (∃ t, v = .int n t) ∧ Fit n
  un := fun v => match v with | .int a _ => some a | _ => none
  ok := fun a v h => by
    obtain ⟨⟨t, rfl⟩, _⟩ := h
    rfl
theorem fit_of {n : Int} (h1 : -1000000000000000000000000000000000000000000000 < n) (h2 : n < 1000000000000000000000000000000000000000000000) : Fit n := by
  unfold Fit
  have e : (10 : Nat) ^ 50 = 100000000000000000000000000000000000000000000000000 := by decide +kernel
  rw [e]
  omega
theorem len_one {a : Int} (ha : Fit a) : (num a).length + 2 ≤ sizeLine := by
  have := ha.len
  rw [sizeLine_eq]; omega
theorem len_two {a b : Int} (ha : Fit a) (hb : Fit b) : (num a ++ comma ++ num b).length + 2 ≤ sizeLine := by
  have h1 := ha.len
  have h2 := hb.len
  have h3 : comma.length = 1 := by decide +kernel
  rw [PySem.Str.length_append, PySem.Str.length_append, sizeLine_eq, h3]; omega
theorem ints1 {ys : List Value} {a : Int} (h : IntsAre ys [a]) : ∃ t, ys = [.int a t] := by
  cases h with
  | cons _ t h => cases h with | nil => exact ⟨t, rfl⟩
theorem ints2 {ys : List Value} {a b : Int} (h : IntsAre ys [a, b]) : ∃ t u, ys = [.int a t, .int b u] := by
  cases h with
  | cons _ t h =>
    obtain ⟨u, rfl⟩ := ints1 h
    exact ⟨t, u, rfl⟩
theorem filter_all {α : Type} (l : List α) : l.filter (fun _ => true) = l := by simp
theorem carried_ints {ys : List Value} {ns : List Int} (h : CarriedAll ys ((ns.filter (fun _ => true)).map PyData.int)) : IntsAre ys ns := by
  rw [filter_all] at h
  have := CarriedAll.intsOf (f := fun n : Int => n) (as := ns) h
  simpa using this
theorem carried_strs {ys : List Value} {ns : List Int} (h : CarriedAll ys ((ns.filter (fun _ => true)).map fun n => PyData.str (num n))) : StrsAre ys (ns.map num) := by
  rw [filter_all] at h
  exact CarriedAll.strsOf h
section
variable {prog : Program} {w : World} {A : Around} {E : Value → Shared → Prop} {s₁ : Shared} {h₀ : Heap} {L : Addr} {m : PySem.Str → Option Value} {news : List (Addr × Obj)}
theorem compA_nums {name : PySem.Str} {fscope : Scope} {a : Addr} {cd : Value} {elt : PySem.Expr} {x z : PySem.Str} {ifs : List PySem.Expr} {scope : Scope} {Q : Flow → Shared → Prop} {l : Addr} {vs : List Value} {ns : List Int}
    (hh : A.handled = none) (hl : s₁.heap.IsList l vs.toArray) (hi : AreOf numKind vs ns) (F : Fr h₀ L s₁.heap m) (N : News h₀ L s₁.heap news)
    (g1 : ∀ C n t s₂ m₂ E', 0 ≤ n → Fit n → s₂.heap.Ns (compEnv scope C (envOf name fscope L a cd)).locals m₂ → m₂ x = some (.str (num n) t) → s₁.toks ≤ s₂.toks →
        wpAny (model prog w) A (forIn ifs true fun c r => if r = true then do let ok ← isTrue c (compEnv scope C (envOf name fscope L a cd)) (eval c (compEnv scope C (envOf name fscope L a cd))); pure (ForInStep.yield ok) else pure (ForInStep.yield r))
          (fun ok s₃ => ok = true ∧ Keeps s₂ s₃) E' s₂)
    (g2 : ∀ C n t s₂ m₂ E', 0 ≤ n → Fit n → s₂.heap.Ns (compEnv scope C (envOf name fscope L a cd)).locals m₂ → m₂ x = some (.str (num n) t) → s₁.toks ≤ s₂.toks → wpAny (model prog w) A (eval elt (compEnv scope C (envOf name fscope L a cd))) (fun r s₃ => Carried r (PyData.int n) ∧ Keeps s₂ s₃) E' s₂)
    (g3 : ∀ D (ys : List Value) n h' tk, IntsAre ys ns → Fr h₀ L h' (fun q => if q = z then some (.ref D) else m q) → News h₀ L h' ((D, W.listOf ys.toArray n) :: news) → GnNe D news → Q .next { s₁ with heap := h', toks := tk })
    (hsz : ns.length ≤ sizeLine) :
    wpAny (model prog w) A (pyIter (.ref l)) (CompPostA prog w A (envOf name fscope L a cd) scope x z ifs elt Q) E s₁ := by
  refine srcA_listD (K := numKind) (pz := fun _ => true) (d := PyData.int) hh hl hi F N ?_ ?_ ?_ hsz
  · rintro C n v s₂ m₂ E' ⟨⟨t, rfl⟩, hf, h0⟩ hn hm htk
    exact g1 C n t s₂ m₂ E' h0 hf hn hm htk
  · rintro C n v s₂ m₂ E' ⟨⟨t, rfl⟩, hf, h0⟩ _ hn hm htk
    exact g2 C n t s₂ m₂ E' h0 hf hn hm htk
  · intro D ys h' tk F' N' hn _ hp hc
    obtain ⟨n, N'', hne⟩ := gn_enter hp F' N' hn
    exact g3 D ys n h' tk (carried_ints hc) F' N'' hne
theorem compC_nums {env : Env} {elt : PySem.Expr} {x : PySem.Str} {scope : Scope} {Q : Value → Shared → Prop} {l : Addr} {vs : List Value} {ns : List Int}
    (hh : A.handled = none) (hl : s₁.heap.IsList l vs.toArray) (hi : AreOf fitKind vs ns) (F : Fr h₀ L s₁.heap m) (N : News h₀ L s₁.heap news)
    (g2 : ∀ C n t s₂ m₂ E', Fit n → s₂.heap.Ns (compEnv scope C env).locals m₂ → m₂ x = some (.int n t) → s₁.toks ≤ s₂.toks → wpAny (model prog w) A (eval elt (compEnv scope C env)) (fun r s₃ => Carried r (PyData.str (num n)) ∧ Keeps s₂ s₃) E' s₂)
    (g3 : ∀ D (ys : List Value) n h' tk, StrsAre ys (ns.map num) → Fr h₀ L h' m → News h₀ L h' ((D, W.listOf ys.toArray n) :: news) → GnNe D news → Q (.ref D) { s₁ with heap := h', toks := tk })
    (hsz : ns.length ≤ sizeLine) :
    wpAny (model prog w) A (pyIter (.ref l)) (CompPost prog w A env scope x [] elt Q) E s₁ := by
  refine srcC_listD (K := fitKind) (pz := fun _ => true) (d := fun n => PyData.str (num n)) hh hl hi F N ?_ ?_ ?_ hsz
  · intro C n v s₂ m₂ E' _ _ _ _
    exact wpAny_pure ⟨rfl, s₂.heap, s₂.toks, rfl, fun _ _ e => e⟩
  · rintro C n v s₂ m₂ E' ⟨⟨t, rfl⟩, hf⟩ _ hn hm htk
    exact g2 C n t s₂ m₂ E' hf hn hm htk
  · intro D ys h' tk F' N' hn _ hp hc
    obtain ⟨n, N'', hne⟩ := gn_enter hp F' N' hn
    exact g3 D ys n h' tk (carried_strs hc) F' N'' hne
theorem join_nums {Q : Value → Shared → Prop} {D : Addr} {ys : List Value} {ns : List Int} {t : Tok} (hl : s₁.heap.IsList D ys.toArray) (hi : StrsAre ys (ns.map num)) (hf : ∀ n ∈ ns, Fit n) (hn : ns.length ≤ 2)
    (h : ∀ t' k, Q (.str (PySem.Str.join comma (ns.map num)) t') { s₁ with toks := k }) : wpAny (model prog w) A (call (.builtin "str.join") [.str comma t, .ref D]) Q E s₁ := by
  have hs : ((ns.map num).map (·.length)).sum ≤ (ns.map num).length * 51 := StrLaws.sumLen_le (B := 51) _ (by
    intro y hy
    obtain ⟨n, hn, rfl⟩ := List.mem_map.mp hy
    exact (hf n hn).len)
  have hc : comma.length = 1 := by decide +kernel
  refine join_list hl (by simpa using hi) (by rw [hc]; simp only [List.length_map] at *; omega) ?_
  intro t' k
  have := h t' k
  rw [← StrLaws.glued_eq_join] at this
  exact this
theorem join1 {Q : Value → Shared → Prop} {D : Addr} {a : Int} {t t1 : Tok} (hl : s₁.heap.IsList D #[.str (num a) t1]) (ha : Fit a)
    (h : ∀ t' k, Q (.str (num a) t') { s₁ with toks := k }) : wpAny (model prog w) A (call (.builtin "str.join") [.str comma t, .ref D]) Q E s₁ :=
  join_nums (ys := [.str (num a) t1]) (ns := [a]) hl (.cons _ _ .nil) (by intro n hn; rw [List.mem_singleton.mp hn]; exact ha) (by simp) h
theorem join2 {Q : Value → Shared → Prop} {D : Addr} {a b : Int} {t t1 t2 : Tok} (hl : s₁.heap.IsList D #[.str (num a) t1, .str (num b) t2]) (ha : Fit a) (hb : Fit b)
    (h : ∀ t' k, Q (.str (num a ++ comma ++ num b) t') { s₁ with toks := k }) : wpAny (model prog w) A (call (.builtin "str.join") [.str comma t, .ref D]) Q E s₁ :=
  join_nums (ys := [.str (num a) t1, .str (num b) t2]) (ns := [a, b]) hl (.cons _ _ (.cons _ _ .nil)) (by
    intro n hn
    rcases List.mem_cons.mp hn with e | hn
    · rw [e]; exact ha
    · rw [List.mem_singleton.mp hn]; exact hb) (by simp) h
theorem eq_same {Q : Value → Shared → Prop} {x y : PySem.Str} {t u : Tok} (e : x = y) (h : Q (.bool true) s₁) : wpAny (model prog w) A (compareOp .Eq (.str x t) (.str y u)) Q E s₁ := by
  subst e
  exact eq_str (by simpa using h)
end
theorem noIndex {w : List Int} (h : decide (w = []) = false) (h2 : (0 : Int) < -(w.length : Int) ∨ (w.length : Int) ≤ 0) : False := by
  cases w with
  | nil => exact absurd h (by decide)
  | cons a r => simp at h2; omega
end Mine
end

open PySem PySem.W PyProof.Rows
namespace Mine
set_option maxRecDepth 100000 in
set_option maxHeartbeats 8000000 in
open_top hd01 for PySem.Challenge.rw_dm0048_01
theorem item4 {prog : Program} {w : World} {A : Around} {E : Value → Shared → Prop} {s : Shared} {Q : Value → Shared → Prop} {value slice : PySem.Expr} {l : Addr} {d k : Int} {u t0 t1 t2 t3 : Tok}
    (hl : s.heap.IsList l #[.int 0 t0, .int 1 t1, .int 2 t2, .int (d.fmod (10 ^ Int.toNat 30)) t3])
    (h0 : ∀ t, Q (.int 0 t) s) (h1 : ∀ t, Q (.int 1 t) s) (h2 : ∀ e t, 2 ≤ e → e < 10 ^ 30 → Q (.int e t) s)
    (hs : subscripted slice false (.ref l) (.int (k.fmod 4) u) = operate [.ref l, .int (k.fmod 4) u] (getItem (.ref l) (.int (k.fmod 4) u)) := by with_unfolding_all rfl) :
    wpAny (model prog w) A (subscriptTail value slice (.ref l) (.int (k.fmod 4) u)) Q E s := by
  have j0 : 0 ≤ k.fmod 4 := fmod_lo k (by decide)
  have j1 : k.fmod 4 < 4 := fmod_hi k (by decide)
  have d0 : 0 ≤ d.fmod (10 ^ Int.toNat 30) := fmod_lo d (by decide)
  have d1 : d.fmod (10 ^ Int.toNat 30) < 10 ^ 30 := fmod_hi d (by decide)
  have h : ∀ e t, 0 ≤ e → e < 10 ^ 30 → Q (.int e t) s := by
    intro e t e0 e1
    have : e = 0 ∨ e = 1 ∨ 2 ≤ e := by omega
    rcases this with rfl | rfl | h
    · exact h0 t
    · exact h1 t
    · exact h2 e t h e1
  generalize d.fmod (10 ^ Int.toNat 30) = d' at *
  generalize k.fmod 4 = j at *
  have hj : j = 0 ∨ j = 1 ∨ j = 2 ∨ j = 3 := by omega
  rcases hj with rfl | rfl | rfl | rfl
  · exact tail_any hl.typeIs slot_list_getitem.lookup (wpAny_getItem_list hl (by decide) (by decide) rfl (h _ _ (by decide) (by decide))) hs
  · exact tail_any hl.typeIs slot_list_getitem.lookup (wpAny_getItem_list hl (by decide) (by decide) rfl (h _ _ (by decide) (by decide))) hs
  · exact tail_any hl.typeIs slot_list_getitem.lookup (wpAny_getItem_list hl (by decide) (by decide) rfl (h _ _ (by decide) (by decide))) hs
  · exact tail_any hl.typeIs slot_list_getitem.lookup (wpAny_getItem_list hl (by decide) (by decide) rfl (h _ _ d0 d1)) hs
theorem start_ok (x : Int) : 0 ≤ x.fmod (10 ^ Int.toNat 30) ∧ x.fmod (10 ^ Int.toNat 30) < 10 ^ 30 * (((([] : List Int).length : Nat) : Int) + 1) := by
  refine ⟨fmod_lo x (by decide), ?_⟩
  have := fmod_hi x (show (0 : Int) < 10 ^ Int.toNat 30 by decide)
  exact this
theorem turn_ok {a d n : Int} {pre : List Int} (h1 : 0 ≤ a) (h2 : a < 10 ^ 30 * ((pre.length : Int) + 1)) (h3 : 0 ≤ d) (h4 : d < 10 ^ 30) : 0 ≤ a + d ∧ a + d < 10 ^ 30 * (((pre ++ [n]).length : Int) + 1) := by
  rw [List.length_append, List.length_singleton]
  omega
end Mine
local macro_rules | `(tactic| walk_at "exec For Name BinOp cons nil") => `(tactic| (k_here; (rename Fr _ _ _ _ => lF'); (with_unfolding_all refine' For_invVF lF' ?k1 ?k2 ?_; (case k1 => exact rfl); (case k2 => exact rfl); k_whole)))
local macro_rules | `(tactic| walk_at "subscriptTail") => `(tactic| (k_here; (with_reducible show wpAny _ _ (subscriptTail _ _ (Value.ref _) (Value.int (Int.fmod _ _) _)) _ _ _); (have hz9 : ([] : List Int).length = 0 := rfl); (rename (_ < 10 ^ 30 * _) => hR9); (have hS9 := Int.lt_of_lt_of_le hR9 (show _ ≤ (10000000000000000000000000000000000 : Int) by omega)); clear hz9; (with_unfolding_all refine' Mine.item4 ?k1 (fun _ => ?_) (fun _ => ?_) (fun e' te' elo' ehi' => ?_) ?k2; (case k1 => is_list); (case k2 => with_unfolding_all rfl))))
local macro_rules | `(tactic| walk_at "call builtin:str.format") => `(tactic| (k_here; first | ((with_reducible refine Mine.fmt1 (by exact Mine.fit_of (by omega) (by omega)) ?_); intro _ _) | ((with_reducible refine Mine.fmt2 (by exact Mine.fit_of (by omega) (by omega)) (by exact Mine.fit_of (by omega) (by omega)) ?_); intro _ _)))
local macro_rules | `(tactic| walk_at "call builtin:str.split") => `(tactic| (k_here; (with_reducible show wpAny _ _ (call (Value.builtin "str.split") _) _ _ _); (first | (refine KSpl.split1 (by k_asm) (by k_asm) (by decide) ?_ (Mine.len_one (by exact Mine.fit_of (by omega) (by omega)))) | (refine KSpl.split1 (by k_asm) (by k_asm) (by decide) ?_ (Mine.len_two (by exact Mine.fit_of (by omega) (by omega)) (by exact Mine.fit_of (by omega) (by omega))))); (intro D' l' h' k' e' a' F' N' l1); (try k_lt l1); (first | rw [Mine.split_two] at e' | rw [Mine.split_one] at e'); (kspl_open e'); (simp only [strValues, List.map_cons, List.map_nil] at N' a')))
local macro_rules | `(tactic| walk_at "call builtin:str.isdigit") => `(tactic| (k_here; with_reducible refine Mine.call_isdigit (by omega) ?_))
local macro_rules | `(tactic| walk_at "call type:int") => `(tactic| (k_here; with_reducible refine Mine.call_int (by omega) (by exact Mine.fit_of (by omega) (by omega)) ?_))
local macro_rules | `(tactic| walk_at "call type:str") => `(tactic| (k_here; (with_reducible refine Mine.call_str (by exact Mine.fit_of (by omega) (by omega)) ?_); intro _ _))
local macro_rules | `(tactic| walk_at "ite") => `(tactic| (k_here; k_openite; first | (refine ite_pos (by (try simp only [decide_eq_true_eq, Bool.and_eq_true, Bool.or_eq_true, Bool.not_eq_true', decide_eq_false_iff_not, Bool.not_eq_true, Bool.and_eq_false_imp, Bool.not_eq_false', beq_iff_eq, beq_eq_false_iff_ne, bne_iff_ne, bne_eq_false_iff_eq, ne_eq, Bool.or_eq_false_iff, Int.toNat_zero, Int.toNat_one, List.getD_cons_zero, List.getD_cons_succ, List.any_cons, List.any_nil, Bool.or_false, Bool.and_false, Bool.and_true]); omega) ?_) | (refine ite_neg (by (try simp only [decide_eq_true_eq, Bool.and_eq_true, Bool.or_eq_true, Bool.not_eq_true', decide_eq_false_iff_not, Bool.not_eq_true, Bool.and_eq_false_imp, Bool.not_eq_false', beq_iff_eq, beq_eq_false_iff_ne, bne_iff_ne, bne_eq_false_iff_eq, ne_eq, Bool.or_eq_false_iff, Int.toNat_zero, Int.toNat_one, List.getD_cons_zero, List.getD_cons_succ, List.any_cons, List.any_nil, Bool.or_false, Bool.and_false, Bool.and_true]); omega) ?_)))
local macro_rules | `(tactic| walk_at "InvEndN") => `(tactic| (k_here; kst_close))
local macro_rules | `(tactic| walk_at "compareOp In int ref") => `(tactic| (k_here; refine in_tuple_ints (News.isTup (by assumption) (by first | exact .head _ | exact .tail _ (.head _) | exact .tail _ (.tail _ (.head _)))) (by first | assumption | (repeat constructor)) ?_))
local macro_rules | `(tactic| walk_at "FinE") => `(tactic| (k_here; (unfold LCg.FinE); intro D' h' tk' F' N' o1'; clear o1'; (repeat ((rename (@Ne Nat _ _ ∧ @Ne Nat _ _ ∧ @Ne Nat _ _) => z9); clear z9)); (repeat ((rename ((@Ne Nat _ _ ∧ @Ne Nat _ _ ∧ @Ne Nat _ _) ∧ _) => z9); clear z9)); (try simp only [List.nil_append, List.cons_append] at N'); (try dsimp only)))
local macro_rules | `(tactic| walk_at "FinA") => `(tactic| (k_here; (unfold LCg.FinA); intro D' h' tk' F' N' o1'; clear o1'; (repeat ((rename (@Ne Nat _ _ ∧ @Ne Nat _ _ ∧ @Ne Nat _ _) => z9); clear z9)); (repeat ((rename ((@Ne Nat _ _ ∧ @Ne Nat _ _ ∧ @Ne Nat _ _) ∧ _) => z9); clear z9)); (try simp only [List.nil_append, List.cons_append] at N'); (try dsimp only)))
local macro_rules | `(tactic| walk_at "CompEnd") => `(tactic| (k_here; refine LCg.CompEnd.intro (by assumption) (by assumption) _ (fun _ hp => hp) (by first | assumption | (simp only [LCg.Off3, and_true]; done) | (simp only [LCg.Off3, and_true]; assumption)) (by lcg_src) ?_))
local macro_rules | `(tactic| walk_at "call builtin:str.join") => `(tactic| (k_here; (with_reducible show wpAny _ _ (call (Value.builtin "str.join") [Value.str _ _, Value.ref _]) _ _ _); (first | (refine Mine.join1 (by is_list) (by exact Mine.fit_of (by omega) (by omega)) ?_) | (refine Mine.join2 (by is_list) (by exact Mine.fit_of (by omega) (by omega)) (by exact Mine.fit_of (by omega) (by omega)) ?_)); intro _ _))
local macro_rules | `(tactic| walk_at "compareOp Eq str str") => `(tactic| (k_here; with_reducible refine Mine.eq_same (by rfl) ?_))
set_option maxRecDepth 100000 in
set_option maxHeartbeats 40000000 in
theorem PySem.Challenge.cw_dm0048_01_holds : PySem.Challenge.rw_dm0048_01.Holds := by
  k_with "pyIter ref" => k_state (fun pre start => 0 ≤ start ∧ start < 10 ^ 30 * ((pre.length : Int) + 1)) "start"
  k_with "state" => first | exact Mine.start_ok _ | exact Mine.turn_ok (by assumption) (by assumption) (by first | assumption | decide | omega) (by first | assumption | decide)
  exact Mine.hd01 (by k_go0; (all_goals try k_fold); k_steps; (all_goals try (exfalso; exact Mine.noIndex (by assumption) (by assumption))); (all_goals (try k_data)); all_goals w_report)
