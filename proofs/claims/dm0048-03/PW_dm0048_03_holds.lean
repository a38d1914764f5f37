import PyProof.Rows.All
import Wide.All
import OpenK.AllK
import Wide.FinOn
import Lean
import PySem.Challenge.RW_dm0048_03
set_option Elab.async false
section
open PySem PySem.W PyProof.Rows
set_option maxRecDepth 100000
set_option maxHeartbeats 8000000
namespace Mine
open_top hd03 for PySem.Challenge.rw_dm0048_03
end Mine
end

section
open PySem PySem.W PySem.Calls PyProof.Rows
set_option maxRecDepth 100000
namespace Mine

/-- the text of an int -/
abbrev num (n : Int) : PySem.Str := PySem.Str.ofString (toString n)

theorem num_len {n : Int} {k : Nat} (hk : 0 < k) (h : n.natAbs < 10 ^ k) : (num n).length ≤ k + 1 := by
  rw [PySem.ofString_length]
  exact PySem.int_text_length_le10 hk h
theorem nat_of {n : Int} {k : Nat} (h1 : -(10 ^ k : Int) < n) (h2 : n < (10 ^ k : Int)) : n.natAbs < 10 ^ k := by
  have e : ((10 ^ k : Nat) : Int) = (10 ^ k : Int) := by exact Int.natCast_pow 10 k
  omega
/-- a number that the laws write -/
def Fit (n : Int) : Prop := n.natAbs < 10 ^ 50
theorem Fit.len {n : Int} (h : Fit n) : (num n).length ≤ 51 := num_len (by decide) h
theorem Fit.log {n : Int} (h : Fit n) : n.natAbs.log2 < 1920 := by
  have h' : n.natAbs < 10 ^ 50 := h
  have e : (10 : Nat) ^ 50 < 2 ^ 1920 := by decide +kernel
  have h2 : n.natAbs < 2 ^ 1920 := Nat.lt_trans h' e
  by_cases h0 : n.natAbs = 0
  · rw [h0]; decide
  · exact (Nat.log2_lt h0).mpr h2

local macro_rules | `(tactic| kfm_len) => `(tactic| (with_reducible exact Fit.len (by assumption)))
local macro_rules | `(tactic| kfm_hd) => `(tactic| (with_reducible exact Fit.log (by assumption)))

section
variable {prog : Program} {w : World} {A : Around} {E : Value → Shared → Prop} {s : Shared} {Q : Value → Shared → Prop} {a b : Int} {t u v : Tok}
theorem fmt1_meets (ha : Fit a) : Meets (Builtin.«str.format» ⟨[.str (PySem.Str.mk #[123, 125]) t, .int a u], []⟩) (fun _ R s => ∀ t' k, R (.ok (.ret (.str (num a) t'))) { s with toks := k }) := by
  k_dflt kfm_run
theorem fmt2_meets (ha : Fit a) (hb : Fit b) : Meets (Builtin.«str.format» ⟨[.str (PySem.Str.mk #[123, 125, 44, 123, 125]) t, .int a u, .int b v], []⟩) (fun _ R s => ∀ t' k, R (.ok (.ret (.str (num a ++ PySem.Str.ofString "," ++ num b) t'))) { s with toks := k }) := by
  k_dflt kfm_run
theorem fmt1 (ha : Fit a) (h : ∀ t' k, Q (.str (num a) t') { s with toks := k }) : wpAny (model prog w) A (call (.builtin "str.format") [.str (PySem.Str.ofString "{}") t, .int a u]) Q E s :=
  KFm.call_k (X' := PySem.Str.mk #[123, 125]) (by decide +kernel) (KFm.args_2 _ _) (fmt1_meets ha) h
theorem fmt2 (ha : Fit a) (hb : Fit b) (h : ∀ t' k, Q (.str (num a ++ PySem.Str.ofString "," ++ num b) t') { s with toks := k }) : wpAny (model prog w) A (call (.builtin "str.format") [.str (PySem.Str.ofString "{},{}") t, .int a u, .int b v]) Q E s :=
  KFm.call_k (X' := PySem.Str.mk #[123, 125, 44, 123, 125]) (by decide +kernel) (KFm.args_3 _ _ _) (fmt2_meets ha hb) h
end
end Mine
end

section
open PySem PySem.W PySem.Calls PySem.NumText PyProof.Rows
set_option maxRecDepth 100000
namespace Mine

/-- plain figures of a number -/
def figs (m : Nat) : List Nat := (Nat.toDigits 10 m).map Char.toNat
theorem figs_digits (m : Nat) : AllDigits (figs m) := by
  intro c hc
  obtain ⟨ch, hch, e⟩ := List.mem_map.mp hc
  have r := digit_range (Nat.isDigit_of_mem_toDigits (by decide) (by decide) hch)
  rw [← e]
  exact r
theorem figs_ne (m : Nat) : figs m ≠ [] := by
  intro e
  have h := toDigits_len_ge 10 m
  rw [List.map_eq_nil_iff.mp e] at h
  exact absurd h (by decide)
theorem num_nat {n : Int} (h0 : 0 ≤ n) : (num n).cps.toList = figs n.toNat := by
  obtain ⟨m, rfl⟩ := Int.eq_ofNat_of_zero_le h0
  exact KIN.signs_num m
theorem num_neg {n : Int} (h0 : n < 0) : (num n).cps.toList = 45 :: figs (-n).toNat := by
  obtain ⟨m, rfl⟩ := Int.eq_negSucc_of_lt_zero h0
  show (PySem.Str.ofString (toString (Int.negSucc m))).cps.toList = _
  rw [signs_ofString]
  have e : (toString (Int.negSucc m)).toList = '-' :: (Nat.toDigits 10 (m + 1)) := by
    show (Int.repr (Int.negSucc m)).toList = _
    rw [Int.repr]
    simp [Nat.toList_repr]
  rw [e]
  show '-'.toNat :: (Nat.toDigits 10 (m + 1)).map Char.toNat = _
  have e2 : (-(Int.negSucc m)).toNat = m + 1 := by omega
  rw [e2]
  rfl
theorem num_signs (n : Int) : ∀ c ∈ (num n).cps.toList, c = 45 ∨ (48 ≤ c ∧ c ≤ 57) := by
  intro c hc
  by_cases h0 : 0 ≤ n
  · rw [num_nat h0] at hc
    exact .inr (figs_digits _ c hc)
  · rw [num_neg (by omega)] at hc
    rcases List.mem_cons.mp hc with e | hc
    · exact .inl e
    · exact .inr (figs_digits _ c hc)
theorem num_comma (n : Int) : 44 ∉ (num n).cps.toList := by
  intro h
  have := num_signs n 44 h
  omega
theorem num_inj {a b : Int} (h : num a = num b) : a = b := by
  have := congrArg PySem.Str.cps h
  have e : (num a).cps.toList = (num b).cps.toList := by rw [h]
  by_cases ha : 0 ≤ a <;> by_cases hb : 0 ≤ b
  · rw [num_nat ha, num_nat hb] at e
    have := congrArg digitsVal e
    rw [figs, figs, KIN.val_back, KIN.val_back] at this
    omega
  · rw [num_nat ha, num_neg (by omega)] at e
    have := figs_digits a.toNat 45 (by rw [e]; exact .head _)
    omega
  · rw [num_nat hb, num_neg (by omega)] at e
    have := figs_digits b.toNat 45 (by rw [← e]; exact .head _)
    omega
  · rw [num_neg (by omega), num_neg (by omega)] at e
    injection e with _ e
    have := congrArg digitsVal e
    rw [figs, figs, KIN.val_back, KIN.val_back] at this
    omega

theorem num_reads {n : Int} (h0 : 0 ≤ n) (h : Fit n) : PySem.intText? (num n) = some n := by
  have e := intText_digits (x := num n) (by rw [num_nat h0]; exact figs_digits _) (by rw [num_nat h0]; exact figs_ne _) (Nat.le_trans h.len (by decide))
  rw [num_nat h0, figs, KIN.val_back] at e
  rw [e]
  congr 1
  omega
theorem digit_uni : ∀ c : Nat, 48 ≤ c → c ≤ 57 → Unicode.isDigit c = true := by
  intro c h1 h2
  have : ∀ d : Fin 10, Unicode.isDigit (48 + d.val) = true := by decide +kernel
  have := this ⟨c - 48, by omega⟩
  have e : 48 + (c - 48) = c := by omega
  simp only [e] at this
  exact this
theorem num_isdigit {n : Int} (h0 : 0 ≤ n) : PySem.Txt.isdigit (num n) = true := by
  have hl : 0 < (num n).length := by
    have e : (num n).cps.toList.length = (num n).length := Array.length_toList
    rw [num_nat h0] at e
    have := figs_ne n.toNat
    cases hf : figs n.toNat with
    | nil => exact absurd hf this
    | cons c r => rw [hf] at e; simp at e; omega
  unfold PySem.Txt.isdigit
  rw [Bool.and_eq_true]
  refine ⟨decide_eq_true hl, ?_⟩
  rw [← Array.all_toList, num_nat h0, List.all_eq_true]
  intro c hc
  have := figs_digits _ c hc
  exact digit_uni c this.1 this.2

theorem cut_eq {c : Nat} : ∀ {a b x y : List Nat}, c ∉ a → c ∉ b → a ++ c :: x = b ++ c :: y → a = b ∧ x = y
  | [], [], _, _, _, _, h => ⟨rfl, (List.cons.inj h).2⟩
  | [], d :: b, _, _, _, hb, h => absurd (by rw [(List.cons.inj h).1]; exact .head _) hb
  | d :: a, [], _, _, ha, _, h => absurd (by rw [← (List.cons.inj h).1]; exact .head _) ha
  | d :: a, e :: b, _, _, ha, hb, h => by
    obtain ⟨h1, h2⟩ := List.cons.inj h
    obtain ⟨h3, h4⟩ := cut_eq (fun m => ha (.tail _ m)) (fun m => hb (.tail _ m)) h2
    exact ⟨by rw [h1, h3], h4⟩
theorem cut_no {c : Nat} {a b y : List Nat} (ha : c ∉ a) (h : a = b ++ c :: y) : False := ha (by rw [h]; exact List.mem_append_right _ (.head _))
abbrev comma : PySem.Str := PySem.Str.ofString ","
theorem comma_is : comma = ⟨#[44]⟩ := by decide +kernel
theorem join_cps1 (p : PySem.Str) : (PySem.Str.join comma [p]).cps.toList = p.cps.toList := rfl
theorem join_cps2 (p q : PySem.Str) (r : List PySem.Str) : (PySem.Str.join comma (p :: q :: r)).cps.toList = p.cps.toList ++ 44 :: (PySem.Str.join comma (q :: r)).cps.toList := by
  show (p ++ comma ++ PySem.Str.join comma (q :: r)).cps.toList = _
  rw [PySem.Str.cps_append, PySem.Str.cps_append, comma_is]
  simp
theorem join_inj : ∀ {ps qs : List PySem.Str}, ps ≠ [] → qs ≠ [] → (∀ p ∈ ps, 44 ∉ p.cps.toList) → (∀ q ∈ qs, 44 ∉ q.cps.toList) → (PySem.Str.join comma ps).cps.toList = (PySem.Str.join comma qs).cps.toList → ps = qs
  | [], _, h, _, _, _, _ => absurd rfl h
  | _, [], _, h, _, _, _ => absurd rfl h
  | [p], [q], _, _, _, _, h => by
    rw [join_cps1, join_cps1] at h
    rw [PySem.Str.ext' (Array.toList_inj.mp h)]
  | [p], q :: q2 :: r, _, _, hp, _, h => by
    rw [join_cps1, join_cps2] at h
    exact (cut_no (hp p (.head _)) h).elim
  | p :: p2 :: r, [q], _, _, _, hq, h => by
    rw [join_cps1, join_cps2] at h
    exact (cut_no (hq q (.head _)) h.symm).elim
  | p :: p2 :: r, q :: q2 :: r2, _, _, hp, hq, h => by
    rw [join_cps2, join_cps2] at h
    obtain ⟨h1, h2⟩ := cut_eq (hp p (.head _)) (hq q (.head _)) h
    have := join_inj (List.cons_ne_nil _ _) (List.cons_ne_nil _ _) (fun z hz => hp z (.tail _ hz)) (fun z hz => hq z (.tail _ hz)) h2
    rw [PySem.Str.ext' (Array.toList_inj.mp h1), this]
theorem split_ne (x : PySem.Str) : PySem.Txt.split x comma ≠ [] := by
  intro e
  have h := StrLaws.join_split x comma
  rw [e] at h
  have hx : x.length = 0 := by rw [← h]; rfl
  have hc : comma.length = 1 := by decide +kernel
  unfold PySem.Txt.split at e
  rw [if_pos (by rw [hx, hc]; rfl)] at e
  cases e
theorem split_join {ps : List PySem.Str} (hne : ps ≠ []) (hf : ∀ p ∈ ps, 44 ∉ p.cps.toList) : PySem.Txt.split (PySem.Str.join comma ps) comma = ps := by
  refine join_inj (split_ne _) hne ?_ hf ?_
  · have := StrLaws.split_free (PySem.Str.join comma ps) 44
    rw [← comma_is] at this
    exact this
  · rw [StrLaws.join_split]
theorem split_one (a : Int) : PySem.Txt.split (num a) comma = [num a] :=
  split_join (ps := [num a]) (by simp) (by intro p hp; rw [List.mem_singleton.mp hp]; exact num_comma a)
theorem split_two (a b : Int) : PySem.Txt.split (num a ++ comma ++ num b) comma = [num a, num b] :=
  split_join (ps := [num a, num b]) (by simp) (by
    intro p hp
    rcases List.mem_cons.mp hp with e | hp
    · rw [e]; exact num_comma a
    · rw [List.mem_singleton.mp hp]; exact num_comma b)

/-- texts of numbers not below nought -/
def numKind : ItemKind Int where
  is := fun n v => (∃ t, v = .str (num n) t) ∧ Fit n ∧ 0 ≤ n
  un := fun v => match v with | .str x _ => PySem.intText? x | _ => none
  ok := fun a v h => by
    obtain ⟨⟨t, rfl⟩, hf, h0⟩ := h
    exact num_reads h0 hf
section
variable {prog : Program} {w : World} {A : Around} {E : Value → Shared → Prop} {s : Shared} {Q : Value → Shared → Prop} {n : Int} {t : Tok}
theorem call_isdigit (h0 : 0 ≤ n) (h : Q (.bool true) s) : wpAny (model prog w) A (call (.builtin "str.isdigit") [.str (num n) t]) Q E s :=
  SC.isdigit (by rw [num_isdigit h0]; exact h)
theorem call_int (h0 : 0 ≤ n) (hf : Fit n) (h : Q (.int n s.toks) { s with toks := s.toks + 1 }) : wpAny (model prog w) A (call (.type "int") [.str (num n) t]) Q E s :=
  KIN.call_text (num_reads h0 hf) (Nat.le_trans hf.len (by decide)) h
theorem call_str {u : Tok} (hf : Fit n) (h : ∀ t' k, Q (.str (num n) t') { s with toks := k }) : wpAny (model prog w) A (call (.type "str") [.int n u]) Q E s :=
  P.str_of_int hf.log (h _ _)
end
end Mine
end

section
open PySem PySem.W PySem.Calls PySem.NumText PyProof.Rows
set_option maxRecDepth 100000
namespace Mine
/-- ints that are written -/
def fitKind : ItemKind Int where
  is := fun n v => (∃ t, v = .int n t) ∧ Fit n
  un := fun v => match v with | .int a _ => some a | _ => none
  ok := fun a v h => by
    obtain ⟨⟨t, rfl⟩, _⟩ := h
    rfl
theorem fit_of {n : Int} (h1 : -1000000000000000000000000000000000000000000000 < n) (h2 : n < 1000000000000000000000000000000000000000000000) : Fit n := by
  unfold Fit
  have e : (10 : Nat) ^ 50 = 100000000000000000000000000000000000000000000000000 := by decide +kernel
  rw [e]
  omega
theorem len_one {a : Int} (ha : Fit a) : (num a).length + 2 ≤ sizeLine := by
  have := ha.len
  rw [sizeLine_eq]; omega
theorem len_two {a b : Int} (ha : Fit a) (hb : Fit b) : (num a ++ comma ++ num b).length + 2 ≤ sizeLine := by
  have h1 := ha.len
  have h2 := hb.len
  have h3 : comma.length = 1 := by decide +kernel
  rw [PySem.Str.length_append, PySem.Str.length_append, sizeLine_eq, h3]; omega
theorem ints1 {ys : List Value} {a : Int} (h : IntsAre ys [a]) : ∃ t, ys = [.int a t] := by
  cases h with
  | cons _ t h => cases h with | nil => exact ⟨t, rfl⟩
theorem ints2 {ys : List Value} {a b : Int} (h : IntsAre ys [a, b]) : ∃ t u, ys = [.int a t, .int b u] := by
  cases h with
  | cons _ t h =>
    obtain ⟨u, rfl⟩ := ints1 h
    exact ⟨t, u, rfl⟩
theorem filter_all {α : Type} (l : List α) : l.filter (fun _ => true) = l := by simp
theorem carried_ints {ys : List Value} {ns : List Int} (h : CarriedAll ys ((ns.filter (fun _ => true)).map PyData.int)) : IntsAre ys ns := by
  rw [filter_all] at h
  have := CarriedAll.intsOf (f := fun n : Int => n) (as := ns) h
  simpa using this
theorem carried_strs {ys : List Value} {ns : List Int} (h : CarriedAll ys ((ns.filter (fun _ => true)).map fun n => PyData.str (num n))) : StrsAre ys (ns.map num) := by
  rw [filter_all] at h
  exact CarriedAll.strsOf h
section
variable {prog : Program} {w : World} {A : Around} {E : Value → Shared → Prop} {s₁ : Shared} {h₀ : Heap} {L : Addr} {m : PySem.Str → Option Value} {news : List (Addr × Obj)}
theorem compA_nums {name : PySem.Str} {fscope : Scope} {a : Addr} {cd : Value} {elt : PySem.Expr} {x z : PySem.Str} {ifs : List PySem.Expr} {scope : Scope} {Q : Flow → Shared → Prop} {l : Addr} {vs : List Value} {ns : List Int}
    (hh : A.handled = none) (hl : s₁.heap.IsList l vs.toArray) (hi : AreOf numKind vs ns) (F : Fr h₀ L s₁.heap m) (N : News h₀ L s₁.heap news)
    (g1 : ∀ C n t s₂ m₂ E', 0 ≤ n → Fit n → s₂.heap.Ns (compEnv scope C (envOf name fscope L a cd)).locals m₂ → m₂ x = some (.str (num n) t) → s₁.toks ≤ s₂.toks →
        wpAny (model prog w) A (forIn ifs true fun c r => if r = true then do let ok ← isTrue c (compEnv scope C (envOf name fscope L a cd)) (eval c (compEnv scope C (envOf name fscope L a cd))); pure (ForInStep.yield ok) else pure (ForInStep.yield r))
          (fun ok s₃ => ok = true ∧ Keeps s₂ s₃) E' s₂)
    (g2 : ∀ C n t s₂ m₂ E', 0 ≤ n → Fit n → s₂.heap.Ns (compEnv scope C (envOf name fscope L a cd)).locals m₂ → m₂ x = some (.str (num n) t) → s₁.toks ≤ s₂.toks → wpAny (model prog w) A (eval elt (compEnv scope C (envOf name fscope L a cd))) (fun r s₃ => Carried r (PyData.int n) ∧ Keeps s₂ s₃) E' s₂)
    (g3 : ∀ D (ys : List Value) n h' tk, IntsAre ys ns → Fr h₀ L h' (fun q => if q = z then some (.ref D) else m q) → News h₀ L h' ((D, W.listOf ys.toArray n) :: news) → GnNe D news → Q .next { s₁ with heap := h', toks := tk })
    (hsz : ns.length ≤ sizeLine) :
    wpAny (model prog w) A (pyIter (.ref l)) (CompPostA prog w A (envOf name fscope L a cd) scope x z ifs elt Q) E s₁ := by
  refine srcA_listD (K := numKind) (pz := fun _ => true) (d := PyData.int) hh hl hi F N ?_ ?_ ?_ hsz
  · rintro C n v s₂ m₂ E' ⟨⟨t, rfl⟩, hf, h0⟩ hn hm htk
    exact g1 C n t s₂ m₂ E' h0 hf hn hm htk
  · rintro C n v s₂ m₂ E' ⟨⟨t, rfl⟩, hf, h0⟩ _ hn hm htk
    exact g2 C n t s₂ m₂ E' h0 hf hn hm htk
  · intro D ys h' tk F' N' hn _ hp hc
    obtain ⟨n, N'', hne⟩ := gn_enter hp F' N' hn
    exact g3 D ys n h' tk (carried_ints hc) F' N'' hne
theorem compC_nums {env : Env} {elt : PySem.Expr} {x : PySem.Str} {scope : Scope} {Q : Value → Shared → Prop} {l : Addr} {vs : List Value} {ns : List Int}
    (hh : A.handled = none) (hl : s₁.heap.IsList l vs.toArray) (hi : AreOf fitKind vs ns) (F : Fr h₀ L s₁.heap m) (N : News h₀ L s₁.heap news)
    (g2 : ∀ C n t s₂ m₂ E', Fit n → s₂.heap.Ns (compEnv scope C env).locals m₂ → m₂ x = some (.int n t) → s₁.toks ≤ s₂.toks → wpAny (model prog w) A (eval elt (compEnv scope C env)) (fun r s₃ => Carried r (PyData.str (num n)) ∧ Keeps s₂ s₃) E' s₂)
    (g3 : ∀ D (ys : List Value) n h' tk, StrsAre ys (ns.map num) → Fr h₀ L h' m → News h₀ L h' ((D, W.listOf ys.toArray n) :: news) → GnNe D news → Q (.ref D) { s₁ with heap := h', toks := tk })
    (hsz : ns.length ≤ sizeLine) :
    wpAny (model prog w) A (pyIter (.ref l)) (CompPost prog w A env scope x [] elt Q) E s₁ := by
  refine srcC_listD (K := fitKind) (pz := fun _ => true) (d := fun n => PyData.str (num n)) hh hl hi F N ?_ ?_ ?_ hsz
  · intro C n v s₂ m₂ E' _ _ _ _
    exact wpAny_pure ⟨rfl, s₂.heap, s₂.toks, rfl, fun _ _ e => e⟩
  · rintro C n v s₂ m₂ E' ⟨⟨t, rfl⟩, hf⟩ _ hn hm htk
    exact g2 C n t s₂ m₂ E' hf hn hm htk
  · intro D ys h' tk F' N' hn _ hp hc
    obtain ⟨n, N'', hne⟩ := gn_enter hp F' N' hn
    exact g3 D ys n h' tk (carried_strs hc) F' N'' hne
theorem join_nums {Q : Value → Shared → Prop} {D : Addr} {ys : List Value} {ns : List Int} {t : Tok} (hl : s₁.heap.IsList D ys.toArray) (hi : StrsAre ys (ns.map num)) (hf : ∀ n ∈ ns, Fit n) (hn : ns.length ≤ 2)
    (h : ∀ t' k, Q (.str (PySem.Str.join comma (ns.map num)) t') { s₁ with toks := k }) : wpAny (model prog w) A (call (.builtin "str.join") [.str comma t, .ref D]) Q E s₁ := by
  have hs : ((ns.map num).map (·.length)).sum ≤ (ns.map num).length * 51 := StrLaws.sumLen_le (B := 51) _ (by
    intro y hy
    obtain ⟨n, hn, rfl⟩ := List.mem_map.mp hy
    exact (hf n hn).len)
  have hc : comma.length = 1 := by decide +kernel
  refine join_list hl (by simpa using hi) (by rw [hc]; simp only [List.length_map] at *; omega) ?_
  intro t' k
  have := h t' k
  rw [← StrLaws.glued_eq_join] at this
  exact this
theorem join1 {Q : Value → Shared → Prop} {D : Addr} {a : Int} {t t1 : Tok} (hl : s₁.heap.IsList D #[.str (num a) t1]) (ha : Fit a)
    (h : ∀ t' k, Q (.str (num a) t') { s₁ with toks := k }) : wpAny (model prog w) A (call (.builtin "str.join") [.str comma t, .ref D]) Q E s₁ :=
  join_nums (ys := [.str (num a) t1]) (ns := [a]) hl (.cons _ _ .nil) (by intro n hn; rw [List.mem_singleton.mp hn]; exact ha) (by simp) h
theorem join2 {Q : Value → Shared → Prop} {D : Addr} {a b : Int} {t t1 t2 : Tok} (hl : s₁.heap.IsList D #[.str (num a) t1, .str (num b) t2]) (ha : Fit a) (hb : Fit b)
    (h : ∀ t' k, Q (.str (num a ++ comma ++ num b) t') { s₁ with toks := k }) : wpAny (model prog w) A (call (.builtin "str.join") [.str comma t, .ref D]) Q E s₁ :=
  join_nums (ys := [.str (num a) t1, .str (num b) t2]) (ns := [a, b]) hl (.cons _ _ (.cons _ _ .nil)) (by
    intro n hn
    rcases List.mem_cons.mp hn with e | hn
    · rw [e]; exact ha
    · rw [List.mem_singleton.mp hn]; exact hb) (by simp) h
theorem eq_same {Q : Value → Shared → Prop} {x y : PySem.Str} {t u : Tok} (e : x = y) (h : Q (.bool true) s₁) : wpAny (model prog w) A (compareOp .Eq (.str x t) (.str y u)) Q E s₁ := by
  subst e
  exact eq_str (by simpa using h)
end
theorem noIndex {w : List Int} (h : decide (w = []) = false) (h2 : (0 : Int) < -(w.length : Int) ∨ (w.length : Int) ≤ 0) : False := by
  cases w with
  | nil => exact absurd h (by decide)
  | cons a r => simp at h2; omega
end Mine
end

section
open PySem PySem.W PyProof.Rows
namespace Mine
abbrev Claim3 (w : World) (mean : ExcName → Option Value) (mg mb : PySem.Str → Option Value) (f : Addr) (news : List (Addr × Obj)) (pre : Prop) (vs : List Value) (R : Tok → Value) : Prop :=
  CbClaim PySem.Challenge.rw_dm0048_03.row.prog w (hd03.heap_39 w.params) hd03.view_39 (looseW hd03.view_39 []) mean mg mb f news [] pre vs R
/-- what the unified writing of a stretch with no stop ahead is -/
def uni (a c : Int) : PySem.Str := if c = 1 then num (a + 1) else if c = 0 then num a ++ comma ++ num 0 else num (a + 1) ++ comma ++ num c
def con (a c : Int) : PySem.Str := if c = 0 then num a else if c = 1 then num (a + 1) else num (a + 1) ++ comma ++ num (a + c)
theorem uniA {a c : Int} (h : c = 1) : num (a + 1) = uni a c := by unfold uni; rw [if_pos h]
theorem uniB {a c : Int} (h : c ≠ 1) (h0 : c ≠ 0) : num (a + 1) ++ comma ++ num c = uni a c := by unfold uni; rw [if_neg h, if_neg h0]
theorem uniC {a c : Int} (h : c = 0) : num (a + 1 - 1) ++ comma ++ num c = uni a c := by
  subst h
  unfold uni
  rw [if_neg (by decide), if_pos rfl, Int.add_sub_cancel]
theorem conA {a c : Int} (h : c = 0) : num (a + 1 - 1) = con a c := by unfold con; rw [if_pos h, Int.add_sub_cancel]
theorem conB {a c : Int} (h : c = 1) : num (a + 1) = con a c := by
  unfold con
  rw [if_neg (by omega), if_pos h]
theorem conC {a c : Int} (h0 : c ≠ 0) (h : c ≠ 1) : num (a + 1) ++ comma ++ num (a + 1 + c - 1) = con a c := by
  unfold con
  rw [if_neg h0, if_neg h]
  have e : a + 1 + c - 1 = a + c := by omega
  rw [e]
end Mine
local macro_rules | `(tactic| walk_at "call builtin:str.format") => `(tactic| (k_here; first | ((refine Mine.fmt1 (by exact Mine.fit_of (by omega) (by omega)) ?_); intro _ _) | ((refine Mine.fmt2 (by exact Mine.fit_of (by omega) (by omega)) (by exact Mine.fit_of (by omega) (by omega)) ?_); intro _ _)))
set_option maxRecDepth 100000 in
set_option maxHeartbeats 8000000 in
theorem Mine.uni_ok (w : World) (mean : ExcName → Option Value) (mg mb : PySem.Str → Option Value) (news : List (Addr × Obj)) (a b : Int) (t u : Tok) :
    Mine.Claim3 w mean mg mb 21 news (0 ≤ a ∧ a ≤ b ∧ b < 1000000000000000000000000000000000000000000) [.int a t, .int b u] (fun t => .str (Mine.uni a (b - a)) t) := by
  w_on
  w_strict (unfold Mine.Claim3; dsimp only [CbClaim, CbLists, CbRet]; k_fill; intros; rename_i hpre _ _ hret; obtain ⟨ha0, hab, hb⟩ := hpre; refine wpAny_call ?_; (k_dflt cell_enter); k_steps; (all_goals (refine cb_retS hret ?_ (by k_asm) (by k_asm))); (all_goals (with_reducible first | exact Mine.uniA (by omega) | exact Mine.uniB (by omega) (by omega) | exact Mine.uniC (by omega))))
set_option maxRecDepth 100000 in
set_option maxHeartbeats 8000000 in
theorem Mine.con_ok (w : World) (mean : ExcName → Option Value) (mg mb : PySem.Str → Option Value) (news : List (Addr × Obj)) (a b : Int) (t u : Tok) :
    Mine.Claim3 w mean mg mb 28 news (0 ≤ a ∧ a ≤ b ∧ b < 1000000000000000000000000000000000000000000) [.int a t, .int b u] (fun t => .str (Mine.con a (b - a)) t) := by
  w_on
  w_strict (unfold Mine.Claim3; dsimp only [CbClaim, CbLists, CbRet]; k_fill; intros; rename_i hpre _ _ hret; obtain ⟨ha0, hab, hb⟩ := hpre; refine wpAny_call ?_; (k_dflt cell_enter); k_steps; (all_goals (refine cb_retS hret ?_ (by k_asm) (by k_asm))); (all_goals (with_reducible first | exact Mine.conA (by omega) | exact Mine.conB (by omega) | exact Mine.conC (by omega) (by omega))))
end

section
open PySem PySem.W PySem.Calls PySem.NumText PyProof.Rows
set_option maxRecDepth 100000
namespace Mine
abbrev ten : PySem.Str := PySem.Str.ofString "0123456789"
theorem ten_occ : ∀ d : Fin 10, Builtin.Str.occurrences ten ⟨#[48 + d.val]⟩ 0 ten.length 1 = [d.val] := by decide +kernel
theorem ten_find : ∀ d : Fin 10, PySem.Txt.find ten ⟨#[48 + d.val]⟩ = (d.val : Int) := by decide +kernel
/-- the number that a row of figures' codes tells -/
def valI (l : List Int) : Int := l.foldl (fun acc c => 10 * acc + (c - 48)) 0
theorem valI_snoc (l : List Int) (c : Int) : valI (l ++ [c]) = 10 * valI l + (c - 48) := by
  unfold valI
  rw [List.foldl_append]
  rfl
theorem valI_codes (cs : List Nat) (h : AllDigits cs) : valI (cs.map fun (c : Nat) => (c : Int)) = (digitsVal cs : Int) := by
  have key : ∀ (cs : List Nat) (a : Nat), AllDigits cs → (cs.map fun (c : Nat) => (c : Int)).foldl (fun acc c => 10 * acc + (c - 48)) (a : Int) = ((cs.foldl (fun acc c => acc * 10 + (c - 48)) a : Nat) : Int) := by
    intro cs
    induction cs with
    | nil => intro a _; rfl
    | cons c r ih =>
      intro a h
      have hc := h.head
      rw [List.map_cons, List.foldl_cons, List.foldl_cons, ← ih _ h.tail]
      congr 1
      omega
  exact key cs 0 h
section
variable {prog : Program} {w : World} {A : Around} {E : Value → Shared → Prop} {s : Shared} {Q : Value → Shared → Prop} {n : Nat} {t u : Tok}
theorem call_index (h1 : 48 ≤ n) (h2 : n ≤ 57) (h : Q (.int ((n : Int) - 48) s.toks) { s with toks := s.toks + 1 }) :
    wpAny (model prog w) A (call (.builtin "str.index") [.str ten t, .str ⟨#[n]⟩ u]) Q E s := by
  have e := ten_occ ⟨n - 48, by omega⟩
  have e2 : 48 + (n - 48) = n := by omega
  simp only [e2] at e
  refine SC.index e ?_
  have e3 : ((n - 48 : Nat) : Int) = (n : Int) - 48 := by omega
  rw [e3]
  exact h
theorem call_find (h1 : 48 ≤ n) (h2 : n ≤ 57) (h : Q (.int ((n : Int) - 48) s.toks) { s with toks := s.toks + 1 }) :
    wpAny (model prog w) A (call (.builtin "str.find") [.str ten t, .str ⟨#[n]⟩ u]) Q E s := by
  have e := ten_find ⟨n - 48, by omega⟩
  have e2 : 48 + (n - 48) = n := by omega
  simp only [e2] at e
  refine SC.find ?_
  rw [e]
  have e3 : ((n - 48 : Nat) : Int) = (n : Int) - 48 := by omega
  rw [e3]
  exact h
end
theorem code_range {a : Int} (h0 : 0 ≤ a) {pre post : List Int} {n : Nat} (e : KStt.codes (num a) = pre ++ (n : Int) :: post) : 48 ≤ n ∧ n ≤ 57 := by
  have hm : (n : Int) ∈ KStt.codes (num a) := by rw [e]; exact List.mem_append_right _ (.head _)
  unfold KStt.codes at hm
  obtain ⟨c, hc, ec⟩ := List.mem_map.mp hm
  have ec' : c = n := by omega
  subst ec'
  rw [num_nat h0] at hc
  exact figs_digits _ c hc
theorem codes_val {a : Int} (h0 : 0 ≤ a) : valI (KStt.codes (num a)) = a := by
  have e : KStt.codes (num a) = (num a).cps.toList.map (fun (c : Nat) => (c : Int)) := rfl
  rw [e, num_nat h0, valI_codes _ (figs_digits _), figs, KIN.val_back]
  omega
end Mine
end

section
open PySem PySem.W PyProof.Rows
local macro_rules | `(tactic| walk_at "call builtin:str.index") => `(tactic| (k_here; refine Mine.call_index (by exact (Mine.code_range (by assumption) (by assumption)).1) (by exact (Mine.code_range (by assumption) (by assumption)).2) ?_))
local macro_rules | `(tactic| walk_at "InvEndN") => `(tactic| (k_here; kst_close))
set_option maxRecDepth 100000 in
set_option maxHeartbeats 8000000 in
theorem Mine.number_ok (w : World) (mean : ExcName → Option Value) (mg mb : PySem.Str → Option Value) (news : List (Addr × Obj)) (a : Int) (t : Tok) :
    Mine.Claim3 w mean mg mb 40 news (0 ≤ a) [.str (Mine.num a) t] (fun t => .int a t) := by
  k_with "pyIter str" => k_state (fun pre number => number = Mine.valI pre) "number"
  k_with "state" => first | (exact rfl) | (rw [Mine.valI_snoc]; omega)
  w_on
  w_strict (unfold Mine.Claim3; dsimp only [CbClaim, CbLists, CbRet]; k_fill; intros; rename_i hpre _ _ hret; refine wpAny_call ?_; (k_dflt cell_enter); k_steps; (refine cb_retI hret ?_ (by k_asm) (by k_asm)); (exact Eq.trans (by assumption) (Mine.codes_val (by assumption))))
end

section
open PySem PySem.W PySem.Calls PySem.NumText PyProof.Rows
set_option maxRecDepth 100000
namespace Mine
theorem dv_cons (c : Nat) (r : List Nat) : digitsVal (c :: r) = (c - 48) * 10 ^ r.length + digitsVal r := by
  have key : ∀ (r : List Nat) (a : Nat), r.foldl (fun acc c => acc * 10 + (c - 48)) a = a * 10 ^ r.length + r.foldl (fun acc c => acc * 10 + (c - 48)) 0 := by
    intro r
    induction r with
    | nil => intro a; simp
    | cons d r ih =>
      intro a
      rw [List.foldl_cons, List.foldl_cons, ih (a * 10 + (d - 48)), ih (0 * 10 + (d - 48)), List.length_cons, Nat.pow_succ]
      rw [Nat.add_mul, Nat.add_mul, Nat.mul_assoc a 10, Nat.mul_comm 10 (10 ^ r.length)]
      omega
  show (c :: r).foldl _ 0 = _
  rw [List.foldl_cons, key]
  simp [digitsVal]
theorem dv_lt : ∀ (r : List Nat), AllDigits r → digitsVal r < 10 ^ r.length
  | [], _ => by decide
  | c :: r, h => by
    have ih := dv_lt r h.tail
    have hc := h.head
    rw [dv_cons, List.length_cons, Nat.pow_succ]
    have : (c - 48) * 10 ^ r.length ≤ 9 * 10 ^ r.length := Nat.mul_le_mul_right _ (by omega)
    omega
theorem dv_zeros (j : Nat) (r : List Nat) : digitsVal (List.replicate j 48 ++ r) = digitsVal r := by
  induction j with
  | zero => rfl
  | succ j ih =>
    rw [List.replicate_succ, List.cons_append, dv_cons, ih]
    simp
theorem figs_val (m : Nat) : digitsVal (figs m) = m := KIN.val_back m
theorem char_back : ∀ c : Nat, 48 ≤ c → c ≤ 57 → (Char.ofNat c).toNat = c := by
  intro c h1 h2
  have : ∀ d : Fin 10, (Char.ofNat (48 + d.val)).toNat = 48 + d.val := by decide
  have := this ⟨c - 48, by omega⟩
  have e : 48 + (c - 48) = c := by omega
  simp only [e] at this
  exact this
/-- a row of figures without a needless nought is its number's -/
theorem figs_of {cs : List Nat} (h : AllDigits cs) (hne : cs ≠ []) (hh : cs.length = 1 ∨ ∃ c r, cs = c :: r ∧ 49 ≤ c) : figs (digitsVal cs) = cs := by
  obtain ⟨n, hn⟩ : ∃ n, cs.length = n + 1 := by
    cases cs with
    | nil => exact absurd rfl hne
    | cons c r => exact ⟨r.length, rfl⟩
  have e := toDigits_digitsVal n cs hn h (by
    rcases hh with hh | hh
    · exact .inl (by omega)
    · exact .inr hh)
  unfold figs
  rw [e, List.map_map]
  have : ∀ l : List Nat, AllDigits l → l.map (Char.toNat ∘ Char.ofNat) = l := by
    intro l
    induction l with
    | nil => intro _; rfl
    | cons c r ih =>
      intro hl
      have hc := hl.head
      rw [List.map_cons, ih hl.tail]
      show (Char.ofNat c).toNat :: r = c :: r
      rw [char_back c hc.1 hc.2]
  exact this cs h
theorem text_is {x : PySem.Str} (h : AllDigits x.cps.toList) (hne : x.cps.toList ≠ []) (hh : x.cps.toList.length = 1 ∨ ∃ c r, x.cps.toList = c :: r ∧ 49 ≤ c) : x = num (digitsVal x.cps.toList : Int) := by
  apply PySem.Str.ext'
  apply Array.toList_inj.mp
  rw [num_nat (by omega)]
  have e : ((digitsVal x.cps.toList : Nat) : Int).toNat = digitsVal x.cps.toList := by omega
  rw [e, figs_of h hne hh]
theorem figs_head (m : Nat) : (figs m).length = 1 ∨ ∃ c r, figs m = c :: r ∧ 49 ≤ c := by
  have h := toDigits_all (figs m) (figs_digits m)
  rw [figs_val] at h
  cases hc : (figs m).dropWhile (· == 48) with
  | nil =>
    rw [hc] at h
    left
    have hd : figs m = ['0'].map Char.toNat := by
      show (Nat.toDigits 10 m).map Char.toNat = _
      rw [h]
    rw [hd]; rfl
  | cons c r =>
    right
    rw [hc] at h
    have hd : figs m = ((c :: r).map Char.ofNat).map Char.toNat := by
      show (Nat.toDigits 10 m).map Char.toNat = _
      rw [h]
    have hmem : ∀ d ∈ c :: r, 48 ≤ d ∧ d ≤ 57 := by
      intro d hd'
      rw [← hc] at hd'
      exact figs_digits m d ((List.dropWhile_sublist _).subset hd')
    have hne : c ≠ 48 := by
      intro e
      have := List.head_dropWhile_not (· == 48) (l := figs m) (by rw [hc]; simp)
      simp only [hc, List.head_cons] at this
      rw [e] at this
      exact absurd this (by decide)
    refine ⟨(Char.ofNat c).toNat, (r.map Char.ofNat).map Char.toNat, hd, ?_⟩
    have hc' := hmem c (.head _)
    rw [char_back c hc'.1 hc'.2]
    omega
theorem figs_lower (m : Nat) (h : (figs m).length ≠ 1) : 10 ^ ((figs m).length - 1) ≤ m := by
  rcases figs_head m with h1 | ⟨c, r, e, hc⟩
  · exact absurd h1 h
  · have hv := figs_val m
    rw [e, dv_cons] at hv
    rw [e, List.length_cons]
    have : 1 * 10 ^ r.length ≤ (c - 48) * 10 ^ r.length := Nat.mul_le_mul_right _ (by omega)
    simp only [Nat.add_sub_cancel]
    omega
end Mine
end

section
open PySem PySem.W PySem.Calls PySem.NumText PyProof.Rows
set_option maxRecDepth 100000
namespace Mine
theorem num_length {a : Int} (h : 0 ≤ a) : (num a).length = (figs a.toNat).length := by
  rw [← num_nat h]
  exact Array.length_toList.symm
def sz (a b : Int) : Nat := max (num a).length (num b).length
theorem sz_l (a b : Int) : (num a).length ≤ sz a b := Nat.le_max_left _ _
theorem sz_r (a b : Int) : (num b).length ≤ sz a b := Nat.le_max_right _ _
theorem sz_fit {a b : Int} (ha : Fit a) (hb : Fit b) : sz a b ≤ 51 := Nat.max_le.mpr ⟨ha.len, hb.len⟩
theorem sz_pos {a : Int} (b : Int) (h : 0 ≤ a) : 1 ≤ sz a b := by
  have h1 := sz_l a b
  rw [num_length h] at h1
  have h2 := figs_ne a.toNat
  cases hf : figs a.toNat with
  | nil => exact absurd hf h2
  | cons c r => rw [hf, List.length_cons] at h1; omega
theorem sz_is (a b : Int) : (if ((num b).length : Int) > ((num a).length : Int) then ((num b).length : Int) else ((num a).length : Int)) = (sz a b : Int) := by
  unfold sz
  split <;> omega
abbrev nought : PySem.Str := PySem.Str.ofString "0"
theorem nought_is : nought = ⟨#[48]⟩ := by decide +kernel
theorem rep_fold : ∀ (k : Nat) (acc : Array Nat), ((List.replicate k (#[48] : Array Nat)).foldl (· ++ ·) acc).toList = acc.toList ++ List.replicate k 48
  | 0, acc => by simp
  | k + 1, acc => by
    rw [List.replicate_succ, List.foldl_cons, rep_fold k, Array.toList_append, List.append_assoc, List.replicate_succ]
    rfl
theorem mul_nought (i : Int) : (PySem.Txt.mul nought i).cps.toList = List.replicate i.toNat 48 := by
  unfold PySem.Txt.mul
  rw [nought_is]
  by_cases h1 : i < 1
  · rw [if_pos h1]
    have : i.toNat = 0 := by omega
    rw [this]; rfl
  · rw [if_neg h1]
    by_cases h2 : i = 1
    · subst h2; rfl
    · rw [if_neg (by
        have e1 : (i == 1) = false := beq_eq_false_iff_ne.mpr h2
        have e2 : (PySem.Str.length ⟨#[48]⟩ == 0) = false := rfl
        rw [e1, e2]; decide)]
      show ((List.replicate i.toNat #[48]).foldl (· ++ ·) #[]).toList = _
      rw [rep_fold]
      rfl
abbrev padT (N : Nat) (a : Int) : PySem.Str := PySem.Txt.mul nought ((N : Int) - ((num a).length : Int)) ++ num a
def padL (N : Nat) (a : Int) : List Nat := List.replicate (N - (figs a.toNat).length) 48 ++ figs a.toNat
theorem padT_cps {N : Nat} {a : Int} (h0 : 0 ≤ a) : (padT N a).cps.toList = padL N a := by
  unfold padT padL
  rw [PySem.Str.cps_append, Array.toList_append, mul_nought, num_nat h0, num_length h0]
  have e : ((N : Int) - ((figs a.toNat).length : Int)).toNat = N - (figs a.toNat).length := by omega
  rw [e]
theorem padL_len {N : Nat} {a : Int} (h0 : 0 ≤ a) (h : (num a).length ≤ N) : (padL N a).length = N := by
  rw [num_length h0] at h
  unfold padL
  rw [List.length_append, List.length_replicate]
  omega
theorem padT_len {N : Nat} {a : Int} (h0 : 0 ≤ a) (h : (num a).length ≤ N) : (padT N a).length = N := by
  have e : (padT N a).cps.toList.length = (padT N a).length := Array.length_toList
  rw [← e, padT_cps h0, padL_len h0 h]
theorem padL_digits (N : Nat) (a : Int) : AllDigits (padL N a) := by
  intro c hc
  rcases List.mem_append.mp hc with hc | hc
  · rw [(List.mem_replicate.mp hc).2]; decide
  · exact figs_digits _ c hc
theorem padL_val (N : Nat) (a : Int) : digitsVal (padL N a) = a.toNat := by
  unfold padL
  rw [dv_zeros, figs_val]
/-- the figure at the k-th column from behind -/
def col (N : Nat) (a : Int) (k : Nat) : Nat := (padL N a).getD (N - k) 48
theorem col_range (N : Nat) (a : Int) (k : Nat) : 48 ≤ col N a k ∧ col N a k ≤ 57 := by
  unfold col
  rw [List.getD_eq_getElem?_getD]
  cases h : (padL N a)[N - k]? with
  | none => decide
  | some c => exact padL_digits N a c (List.mem_of_getElem? h)
theorem drop_col {N : Nat} {a : Int} (h0 : 0 ≤ a) (hN : (num a).length ≤ N) {j : Nat} (hj : j < N) : (padL N a).drop (N - (j + 1)) = col N a (j + 1) :: (padL N a).drop (N - j) := by
  have hl := padL_len h0 hN
  have hlt : N - (j + 1) < (padL N a).length := by omega
  rw [List.drop_eq_getElem_cons hlt]
  have e1 : N - (j + 1) + 1 = N - j := by omega
  rw [e1]
  congr 1
  unfold col
  rw [List.getD_eq_getElem?_getD, List.getElem?_eq_getElem hlt]
  rfl
theorem item_col {N : Nat} {a : Int} (h0 : 0 ≤ a) (hN : (num a).length ≤ N) {k : Int} (h1 : 1 ≤ k) (h2 : k ≤ N) : PySem.Txt.item (padT N a) (-k) = ⟨#[col N a k.toNat]⟩ := by
  have hl := padT_len h0 hN
  have e := item_closes_neg (x := padT N a) (i := -k) (j := -k + N) (by omega) (by rw [hl]; omega) (by rw [hl])
  rw [eq_of_beq e]
  have e2 : (-k + (N : Int)).toNat = N - k.toNat := by omega
  rw [e2]
  have e3 : (padT N a).cps.getD (N - k.toNat) 0 = col N a k.toNat := by
    unfold col
    rw [← padT_cps h0]
    have hlt : N - k.toNat < (padT N a).cps.size := by
      have : (padT N a).cps.size = N := hl
      omega
    rw [List.getD_eq_getElem?_getD, Array.getElem?_toList, Array.getElem?_eq_getElem hlt, Array.getD_eq_getD_getElem?, Array.getElem?_eq_getElem hlt]
    rfl
  rw [e3]
def SumInv (a b : Int) (pre : List Int) (total : PySem.Str) (carry : Int) : Prop :=
  total.length = pre.length ∧ AllDigits total.cps.toList ∧ (carry = 0 ∨ carry = 1) ∧
  (digitsVal total.cps.toList : Int) + carry * 10 ^ pre.length = (digitsVal ((padL (sz a b) a).drop (sz a b - pre.length)) : Int) + (digitsVal ((padL (sz a b) b).drop (sz a b - pre.length)) : Int)
theorem sum_start {a b : Int} (ha : 0 ≤ a) (hb : 0 ≤ b) : SumInv a b [] (PySem.Str.ofString "") 0 := by
  have e : (PySem.Str.ofString "").cps.toList = [] := by decide
  refine ⟨rfl, (by rw [e]; intro c hc; cases hc), .inl rfl, ?_⟩
  rw [e, List.drop_of_length_le (by rw [padL_len ha (sz_l a b)]; simp), List.drop_of_length_le (by rw [padL_len hb (sz_r a b)]; simp)]
  rfl
theorem ten_item {j : Int} (h0 : 0 ≤ j) (h1 : j < 10) : PySem.Txt.item ten j = ⟨#[48 + j.toNat]⟩ := by
  have : ∀ d : Fin 10, PySem.Txt.item ten (d.val : Int) = ⟨#[48 + d.val]⟩ := by decide +kernel
  have := this ⟨j.toNat, by omega⟩
  have e : ((j.toNat : Nat) : Int) = j := by omega
  simp only [e] at this
  exact this
theorem sum_turn {a b : Int} (ha : 0 ≤ a) (hb : 0 ≤ b) {pre : List Int} {total : PySem.Str} {carry k : Int} (h : SumInv a b pre total carry) (hk : k = 1 + (pre.length : Int)) (hlt : pre.length < sz a b) :
    SumInv a b (pre ++ [k]) (PySem.Txt.item ten ((((col (sz a b) a k.toNat : Nat) : Int) - 48 + (((col (sz a b) b k.toNat : Nat) : Int) - 48) + carry).fmod 10) ++ total) ((((col (sz a b) a k.toNat : Nat) : Int) - 48 + (((col (sz a b) b k.toNat : Nat) : Int) - 48) + carry).fdiv 10) := by
  obtain ⟨h1, h2, h3, h4⟩ := h
  have ek : k.toNat = pre.length + 1 := by omega
  rw [ek]
  have ra := col_range (sz a b) a (pre.length + 1)
  have rb := col_range (sz a b) b (pre.length + 1)
  have da := drop_col ha (sz_l a b) hlt
  have db := drop_col hb (sz_r a b) hlt
  have la : ((padL (sz a b) a).drop (sz a b - pre.length)).length = pre.length := by rw [List.length_drop, padL_len ha (sz_l a b)]; omega
  have lb : ((padL (sz a b) b).drop (sz a b - pre.length)).length = pre.length := by rw [List.length_drop, padL_len hb (sz_r a b)]; omega
  generalize col (sz a b) a (pre.length + 1) = ca at *
  generalize col (sz a b) b (pre.length + 1) = cb at *
  obtain ⟨q, r, hqr, hq, hr0, hr1⟩ : ∃ q r : Int, ((ca : Int) - 48 + ((cb : Int) - 48) + carry) = 10 * q + r ∧ (q = 0 ∨ q = 1) ∧ 0 ≤ r ∧ r < 10 := by
    by_cases hs : ((ca : Int) - 48 + ((cb : Int) - 48) + carry) < 10
    · exact ⟨0, _, by omega, .inl rfl, by omega, hs⟩
    · exact ⟨1, ((ca : Int) - 48 + ((cb : Int) - 48) + carry) - 10, by omega, .inr rfl, by omega, by omega⟩
  have em : (10 * q + r).fmod 10 = r := by rw [Int.fmod_eq_emod_of_nonneg _ (by decide)]; omega
  have ed : (10 * q + r).fdiv 10 = q := by rw [Int.fdiv_eq_ediv_of_nonneg _ (by decide)]; omega
  rw [hqr, em, ed, ten_item hr0 hr1]
  have hc : ((⟨#[48 + r.toNat]⟩ : PySem.Str) ++ total).cps.toList = (48 + r.toNat) :: total.cps.toList := by
    rw [PySem.Str.cps_append, Array.toList_append]; rfl
  have ht : total.cps.toList.length = pre.length := by
    have e : total.cps.toList.length = total.length := Array.length_toList
    rw [e, h1]
  refine ⟨?_, ?_, hq, ?_⟩
  · rw [PySem.Str.length_append, h1, List.length_append, List.length_singleton]
    show 1 + pre.length = _
    omega
  · rw [hc]
    intro c hcm
    rcases List.mem_cons.mp hcm with e | hcm
    · rw [e]; omega
    · exact h2 c hcm
  · rw [hc, List.length_append, List.length_singleton, da, db, dv_cons, dv_cons, dv_cons, ht, la, lb, Int.pow_succ]
    have e1 : 48 + r.toNat - 48 = r.toNat := by omega
    rw [e1]
    push_cast
    have e2 : ((r.toNat : Nat) : Int) = r := by omega
    have e3 : ((ca - 48 : Nat) : Int) = (ca : Int) - 48 := by omega
    have e4 : ((cb - 48 : Nat) : Int) = (cb : Int) - 48 := by omega
    rw [e2, e3, e4]
    generalize (10 : Int) ^ pre.length = P at *
    have e5 : r * P + q * (P * 10) = ((ca : Int) - 48) * P + ((cb : Int) - 48) * P + carry * P := by
      have : r * P + q * (P * 10) = (10 * q + r) * P := by
        rw [Int.add_mul, Int.mul_assoc 10 q P, Int.mul_comm 10 (q * P), Int.mul_assoc q P 10]
        omega
      rw [this, ← hqr, Int.add_mul, Int.add_mul]
    omega
theorem sum_end {a b : Int} (ha : 0 ≤ a) (hb : 0 ≤ b) {pre : List Int} {total : PySem.Str} {carry : Int} (h : SumInv a b pre total carry) (hl : pre.length = sz a b) :
    (carry = 1 → PySem.Str.ofString "1" ++ total = num (a + b)) ∧ (carry ≠ 1 → total = num (a + b)) := by
  obtain ⟨h1, h2, h3, h4⟩ := h
  rw [hl] at h1 h4
  rw [Nat.sub_self, List.drop_zero, List.drop_zero, padL_val, padL_val] at h4
  have ea : ((a.toNat : Nat) : Int) = a := by omega
  have eb : ((b.toNat : Nat) : Int) = b := by omega
  rw [ea, eb] at h4
  have ht : total.cps.toList.length = sz a b := by
    have e : total.cps.toList.length = total.length := Array.length_toList
    rw [e, h1]
  have hp := sz_pos b ha
  constructor
  · intro hc
    subst hc
    have ec : (PySem.Str.ofString "1" ++ total).cps.toList = 49 :: total.cps.toList := by
      rw [PySem.Str.cps_append, Array.toList_append]
      rfl
    have e := text_is (x := PySem.Str.ofString "1" ++ total) (by
      rw [ec]
      intro c hcm
      rcases List.mem_cons.mp hcm with e | hcm
      · rw [e]; decide
      · exact h2 c hcm) (by rw [ec]; simp) (.inr ⟨49, _, ec, Nat.le_refl _⟩)
    rw [e, ec, dv_cons, ht]
    congr 1
    push_cast
    omega
  · intro hc
    have hc0 : carry = 0 := by omega
    subst hc0
    have hv : (digitsVal total.cps.toList : Int) = a + b := by omega
    have hne : total.cps.toList ≠ [] := by
      intro e
      rw [e] at ht
      simp at ht
      omega
    have e := text_is (x := total) h2 hne (by
      by_cases h1' : sz a b = 1
      · left; omega
      · right
        cases hcs : total.cps.toList with
        | nil => exact absurd hcs hne
        | cons c r =>
          refine ⟨c, r, rfl, ?_⟩
          have hd' : AllDigits (c :: r) := by rw [← hcs]; exact h2
          have hd := hd'.head
          have hr := dv_lt r hd'.tail
          have hlr : r.length = sz a b - 1 := by rw [hcs, List.length_cons] at ht; omega
          have low : (10 : Nat) ^ (sz a b - 1) ≤ a.toNat + b.toNat := by
            have hmx : sz a b = (figs a.toNat).length ∨ sz a b = (figs b.toNat).length := by
              rw [← num_length ha, ← num_length hb]
              unfold sz
              omega
            rcases hmx with hm | hm
            · have := figs_lower a.toNat (by omega)
              rw [hm]; omega
            · have := figs_lower b.toNat (by omega)
              rw [hm]; omega
          rw [hcs, dv_cons] at hv
          by_cases hc48 : c = 48
          · subst hc48
            simp only [Nat.sub_self, Nat.zero_mul, Nat.zero_add] at hv
            rw [hlr] at hr
            omega
          · omega)
    rw [e, hv]
end Mine
end

section
open PySem PySem.W PyProof.Rows
namespace Mine
section
variable {prog : Program} {w : World} {A : Around} {E : Value → Shared → Prop} {s : Shared} {h₀ : Heap} {L : Addr} {m : PySem.Str → Option Value} {news : List (Addr × Obj)} {Q : Value → Shared → Prop}
theorem call_max {a b : Int} {t u : Tok} (hh : A.handled = none) (F : Fr h₀ L s.heap m) (N : News h₀ L s.heap news)
    (h : ∀ h' tk t', Fr h₀ L h' m → News h₀ L h' news → Q (.int (sz a b : Int) t') { s with heap := h', toks := tk }) :
    wpAny (model prog w) A (call (.builtin "max") [.int ((num a).length : Int) t, .int ((num b).length : Int) u]) Q E s :=
  max_two_N hh F N fun h' tk F' N' => by
    rw [sz_is]
    exact h h' tk _ F' N'
theorem item_back {value slice : PySem.Expr} {a : Int} {N : Nat} {k : Int} {t u : Tok} (h0 : 0 ≤ a) (hN : (num a).length ≤ N) (hM : N ≤ 51) (h1 : 1 ≤ k) (h2 : k ≤ N)
    (h : Q (.str ⟨#[col N a k.toNat]⟩ s.toks) { s with toks := s.toks + 1 })
    (hs : subscripted slice false (.str (padT N a) t) (.int (-k) u) = operate [.str (padT N a) t, .int (-k) u] (getItem (.str (padT N a) t) (.int (-k) u)) := by with_unfolding_all rfl)
    (ht : ∀ r, letTemporaryGo value (.str (padT N a) t) r = pure () := by intro _; with_unfolding_all rfl) :
    wpAny (model prog w) A (subscriptTail value slice (.str (padT N a) t) (.int (-k) u)) Q E s :=
  KXi.item (padT_len h0 hN) (by omega) (by omega) (by omega) (fun _ => by rw [item_col h0 hN h1 h2]; exact h) hs ht
theorem both {a b : Int} {pre : List Int} {total : PySem.Str} {carry : Int} (h : SumInv a b pre total carry) : SumInv a b pre total carry ∧ total.length = pre.length := ⟨h, h.1⟩
theorem size_one {y : PySem.Str} {n : Nat} (h : y.length = (rangeKs 1 n).length) (hn : n ≤ 51) : (PySem.Str.ofString "1").length + y.length ≤ sizeLine := by
  rw [h, rangeKs_length, sizeLine_eq]
  have : (PySem.Str.ofString "1").length = 1 := by decide
  omega
theorem end_one {a b : Int} {total : PySem.Str} {carry : Int} {n : Nat} (ha : 0 ≤ a) (hb : 0 ≤ b) (h : SumInv a b (rangeKs 1 n) total carry) (hn : n = sz a b) (hc : carry = 1) : PySem.Str.ofString "1" ++ total = num (a + b) :=
  (sum_end ha hb h (by rw [rangeKs_length, hn])).1 hc
theorem end_none {a b : Int} {total : PySem.Str} {carry : Int} {n : Nat} (ha : 0 ≤ a) (hb : 0 ≤ b) (h : SumInv a b (rangeKs 1 n) total carry) (hn : n = sz a b) (hc : carry ≠ 1) : total = num (a + b) :=
  (sum_end ha hb h (by rw [rangeKs_length, hn])).2 hc
end
end Mine
local macro_rules | `(tactic| walk_at "binaryOp Add str str") => `(tactic| (k_here; (with_reducible show wpAny _ _ (binaryOp Operator.Add (Value.str (PySem.Str.ofString "1") _) (Value.str _ _)) _ _ _); (refine add_str ?_ (Mine.size_one (by assumption) (by omega))); intro _ _))
local macro_rules | `(tactic| walk_at "call builtin:max") => `(tactic| (k_here; (refine' Mine.call_max ?k1 ?k2 ?k3 ?_; (case k1 => with_unfolding_all rfl); (case k2 => k_asm); (case k3 => k_asm)); intro h' tk' t' F' N'))
local macro_rules | `(tactic| walk_at "call builtin:str.index") => `(tactic| (k_here; refine Mine.call_index (by exact (Mine.col_range _ _ _).1) (by exact (Mine.col_range _ _ _).2) ?_))
local macro_rules | `(tactic| walk_at "subscriptTail Name UnaryOp str int") => `(tactic| (k_here; (with_reducible show wpAny _ _ (subscriptTail _ _ (Value.str (PySem.Txt.mul _ _ ++ _) _) (Value.int (-_) _)) _ _ _); (refine' Mine.item_back ?k1 ?k2 ?k3 ?k4 ?k5 ?_ ?k6 ?k7; (case k1 => assumption); (case k2 => first | exact Mine.sz_l _ _ | exact Mine.sz_r _ _); (case k3 => assumption); (case k4 => omega); (case k5 => omega); (case k6 => with_unfolding_all rfl); (case k7 => intro _; with_unfolding_all rfl))))
local macro_rules | `(tactic| walk_at "InvEndN") => `(tactic| (k_here; kst_close))
set_option maxRecDepth 100000 in
set_option maxHeartbeats 8000000 in
theorem Mine.sum_ok (w : World) (mean : ExcName → Option Value) (mg mb : PySem.Str → Option Value) (news : List (Addr × Obj)) (a b : Int) (t u : Tok) :
    Mine.Claim3 w mean mg mb 47 news (0 ≤ a ∧ 0 ≤ b ∧ Mine.Fit a ∧ Mine.Fit b) [.str (Mine.num a) t, .str (Mine.num b) u] (fun t => .str (Mine.num (a + b)) t) := by
  k_with "pyIter ref" => k_state (fun pre total carry => Mine.SumInv a b pre total carry ∧ total.length = pre.length) "total" "carry"
  k_with "state" => first | exact ⟨Mine.sum_start (by assumption) (by assumption), rfl⟩ | exact Mine.both (Mine.sum_turn (by assumption) (by assumption) (by assumption) (by assumption) (by omega))
  w_on
  w_strict (unfold Mine.Claim3; dsimp only [CbClaim, CbLists, CbRet]; k_fill; intros; rename_i hpre _ _ hret; (obtain ⟨ha0, hb0, hfa, hfb⟩ := hpre); (have hla := Mine.Fit.len hfa); (have hlb := Mine.Fit.len hfb); (have hsz := Mine.sz_fit hfa hfb); (have hsl := Mine.sz_l a b); (have hsr := Mine.sz_r a b); refine wpAny_call ?_; (k_dflt cell_enter); k_steps; (all_goals (refine' cb_retS hret ?e1 ?e2 ?e3; (case e2 => k_asm); (case e3 => first | k_asm | (refine' cb_drop ?cbN ?cbS; (case cbN => assumption); (case cbS => kcj_all))); (case e1 => with_reducible first | exact Mine.end_one (by assumption) (by assumption) (by assumption) (by omega) (by assumption) | exact Mine.end_none (by assumption) (by assumption) (by assumption) (by omega) (by assumption)))))
end

section
open PySem PySem.W PySem.Calls PySem.NumText PyProof.Rows
set_option maxRecDepth 100000
namespace Mine
theorem drop_take (p : Nat → Bool) : ∀ l : List Nat, l.drop (l.takeWhile p).length = l.dropWhile p
  | [] => rfl
  | c :: r => by
    rw [List.takeWhile_cons, List.dropWhile_cons]
    by_cases h : p c = true
    · rw [if_pos h, if_pos h, List.length_cons, List.drop_succ_cons, drop_take p r]
    · rw [if_neg h, if_neg h]; rfl
theorem cont48 (c : Nat) : (#[48] : Array Nat).contains c = (c == 48) := by
  rw [Bool.eq_iff_iff, Array.contains_iff_mem, beq_iff_eq]
  constructor
  · intro h
    simpa using h
  · intro h
    subst h
    simp
theorem lstrip_is (x : PySem.Str) : (PySem.Txt.lstripChars x nought).cps.toList = x.cps.toList.dropWhile (· == 48) := by
  unfold PySem.Txt.lstripChars
  rw [PyProof.Rows.stripBy_eq, StrLaws.strSub_toList]
  have e : stripHi nought.cps.contains false x (stripLo nought.cps.contains true x) = x.length := rfl
  rw [e]
  have e2 : stripLo nought.cps.contains true x = (x.cps.toList.takeWhile nought.cps.contains).length := rfl
  rw [e2, drop_take]
  have e3 : (nought.cps.contains : Nat → Bool) = (· == 48) := by
    funext c
    rw [nought_is]
    exact cont48 c
  rw [e3]
  refine List.take_of_length_le ?_
  rw [← drop_take, List.length_drop]
  have : x.cps.toList.length = x.length := Array.length_toList
  omega
theorem dv_drop (cs : List Nat) : digitsVal (cs.dropWhile (· == 48)) = digitsVal cs := by
  induction cs with
  | nil => rfl
  | cons c r ih =>
    rw [List.dropWhile_cons]
    by_cases h : c = 48
    · subst h
      rw [if_pos (by decide), ih, dv_cons]
      simp
    · rw [if_neg (by simpa using h)]
theorem strip_num {x : PySem.Str} (h : AllDigits x.cps.toList) : (PySem.Txt.lstripChars x nought ≠ PySem.Str.ofString "" → PySem.Txt.lstripChars x nought = num (digitsVal x.cps.toList : Int)) ∧ (PySem.Txt.lstripChars x nought = PySem.Str.ofString "" → digitsVal x.cps.toList = 0) := by
  have e := lstrip_is x
  have hd : AllDigits (x.cps.toList.dropWhile (· == 48)) := fun c hc => h c ((List.dropWhile_sublist _).subset hc)
  constructor
  · intro hne
    have hn : (PySem.Txt.lstripChars x nought).cps.toList ≠ [] := by
      intro en
      apply hne
      apply PySem.Str.ext'
      apply Array.toList_inj.mp
      rw [en]; decide
    have t := text_is (x := PySem.Txt.lstripChars x nought) (by rw [e]; exact hd) hn (by
      right
      cases hc : (PySem.Txt.lstripChars x nought).cps.toList with
      | nil => exact absurd hc hn
      | cons c r =>
        refine ⟨c, r, rfl, ?_⟩
        rw [e] at hc
        have hm := hd c (by rw [hc]; exact .head _)
        have := List.head_dropWhile_not (· == 48) (l := x.cps.toList) (by rw [hc]; simp)
        simp only [hc, List.head_cons] at this
        have hne48 : c ≠ 48 := by simpa using this
        omega)
    rw [e, dv_drop] at t
    exact t
  · intro he
    rw [← dv_drop, ← e, he]
    decide
/-- the figures of a row of ints, and their number -/
def figL (ns : List Int) : List Nat := ns.map fun x => 48 + (x.fmod 10).toNat
def figN (ns : List Int) : Int := (digitsVal (figL ns) : Nat)
theorem figL_digits (ns : List Int) : AllDigits (figL ns) := by
  intro c hc
  obtain ⟨x, _, rfl⟩ := List.mem_map.mp hc
  have h0 := fmod_lo x (show (0 : Int) < 10 by decide)
  have h1 := fmod_hi x (show (0 : Int) < 10 by decide)
  omega
theorem figN_lo (ns : List Int) : 0 ≤ figN ns := by unfold figN; omega
theorem figN_hi {ns : List Int} (h : ns.length ≤ 20) : figN ns < 100000000000000000000 := by
  have h1 := dv_lt (figL ns) (figL_digits ns)
  have h2 : (figL ns).length = ns.length := by unfold figL; rw [List.length_map]
  have h3 : (10 : Nat) ^ (figL ns).length ≤ 10 ^ 20 := Nat.pow_le_pow_right (by decide) (by omega)
  have h4 : (10 : Nat) ^ 20 = 100000000000000000000 := by decide
  unfold figN
  omega
theorem fig_join (ns : List Int) : (PySem.Txt.join (PySem.Str.ofString "") (ns.map fun x => PySem.Txt.item (PySem.Str.ofString "0123456789") (x.fmod 10))).cps.toList = figL ns := by
  show (Builtin.Str.glued (PySem.Str.ofString "") _).cps.toList = _
  rw [StrLaws.glued_eq_join]
  have e : (PySem.Str.ofString "") = ⟨#[]⟩ := by decide
  have e2 : (ns.map fun x => PySem.Txt.item (PySem.Str.ofString "0123456789") (x.fmod 10)) = (figL ns).map fun k => (⟨#[k]⟩ : PySem.Str) := by
    unfold figL
    rw [List.map_map]
    refine List.map_congr_left fun x _ => ?_
    exact ten_item (fmod_lo x (by decide)) (fmod_hi x (by decide))
  rw [e, e2, PyProof.Rows.join_ones]
end Mine
end

section
open PySem PySem.W PyProof.Rows
namespace Mine
def figT (ns : List Int) : PySem.Str := PySem.Txt.join (PySem.Str.ofString "") (ns.map fun x => PySem.Txt.item (PySem.Str.ofString "0123456789") (x.fmod 10))
theorem figT_cps (ns : List Int) : (figT ns).cps.toList = figL ns := fig_join ns
theorem figT_len (ns : List Int) : (figT ns).length = ns.length := by
  have e : (figT ns).cps.toList.length = (figT ns).length := Array.length_toList
  rw [← e, figT_cps]
  unfold figL
  rw [List.length_map]
def figS (ns : List Int) : PySem.Str := PySem.Txt.lstripChars (figT ns) (PySem.Str.ofString "0")
theorem figS_num {ns : List Int} (h : figS ns ≠ PySem.Str.ofString "") : figS ns = num (figN ns) := by
  have := (strip_num (x := figT ns) (by rw [figT_cps]; exact figL_digits ns)).1 h
  rw [figT_cps] at this
  exact this
theorem figS_nil {ns : List Int} (h : figS ns = PySem.Str.ofString "") : PySem.Str.ofString "0" = num (figN ns) := by
  have := (strip_num (x := figT ns) (by rw [figT_cps]; exact figL_digits ns)).2 h
  rw [figT_cps] at this
  unfold figN
  rw [this]
  decide +kernel
theorem figS_numB {ns : List Int} (h : (figS ns != PySem.Str.ofString "") = true) : figS ns = num (figN ns) := figS_num (bne_iff_ne.mp h)
theorem figS_nilB {ns : List Int} (h : (figS ns != PySem.Str.ofString "") = false) : PySem.Str.ofString "0" = num (figN ns) := figS_nil (by simpa using h)
section
variable {prog : Program} {w : World} {A : Around} {E : Value → Shared → Prop} {s : Shared} {Q : Value → Shared → Prop}
theorem join_fig {D : Addr} {ys : List Value} {ns : List Int} {t : Tok} (hl : s.heap.IsList D ys.toArray)
    (hc : CarriedAll ys (List.map (fun a => PyData.str (PySem.Txt.item (PySem.Str.ofString "0123456789") (a.fmod 10))) (List.filter (fun _ => true) ns))) (hn : ns.length ≤ 20)
    (h : ∀ t' k, Q (.str (figT ns) t') { s with toks := k }) : wpAny (model prog w) A (call (.builtin "str.join") [.str (PySem.Str.ofString "") t, .ref D]) Q E s := by
  rw [filter_all] at hc
  have hs := CarriedAll.strsOf hc
  have hz : (PySem.Str.ofString "").length = 0 := by decide
  refine join_list hl (by simpa using hs) ?_ h
  have h1 := StrLaws.sumLen_le (B := 1) (ns.map fun x => PySem.Txt.item (PySem.Str.ofString "0123456789") (x.fmod 10)) (by
    intro y hy
    obtain ⟨x, _, rfl⟩ := List.mem_map.mp hy
    exact Nat.le_refl _)
  rw [hz]
  simp only [List.length_map] at *
  omega
theorem strip_fig {ns : List Int} {t u : Tok} (hn : ns.length ≤ 20) (h : ∀ t' k, Q (.str (figS ns) t') { s with toks := k }) : wpAny (model prog w) A (call (.builtin "str.lstrip") [.str (figT ns) t, .str (PySem.Str.ofString "0") u]) Q E s :=
  SC.lstripChars h (by rw [figT_len, sizeLine_eq]; omega)
end
end Mine
local macro_rules | `(tactic| walk_at "call builtin:str.join") => `(tactic| (k_here; (refine Mine.join_fig (by assumption) (by assumption) (by assumption) ?_); intro _ _))
local macro_rules | `(tactic| walk_at "call builtin:str.lstrip") => `(tactic| (k_here; (refine Mine.strip_fig (by assumption) ?_); intro _ _))
set_option maxRecDepth 100000 in
set_option maxHeartbeats 8000000 in
theorem Mine.fig_ok (w : World) (mean : ExcName → Option Value) (mg mb : PySem.Str → Option Value) (news : List (Addr × Obj)) (l : Addr) (vs : List Value) (ns : List Int) (n : Nat) :
    Mine.Claim3 w mean mg mb 33 ((l, W.listOf vs.toArray n) :: news) (IntsAre vs ns ∧ ns.length ≤ 20) [.ref l] (fun t => .str (Mine.num (Mine.figN ns)) t) := by
  w_on
  w_strict (unfold Mine.Claim3; dsimp only [CbClaim, CbLists, CbRet]; k_fill; intros; rename_i hpre _ _ hret; (obtain ⟨hI, hL⟩ := hpre); refine wpAny_call ?_; (k_dflt cell_enter); k_steps; (all_goals (refine' cb_retS hret ?e1 ?e2 ?e3; (case e2 => k_asm); (case e3 => first | k_asm | (refine' cb_drop ?cbN ?cbS; (case cbN => assumption); (case cbS => kcj_all))); (case e1 => with_reducible first | exact Mine.figS_numB (by assumption) | exact Mine.figS_nilB (by assumption)))))
end

section
open PySem PySem.W PySem.Calls PyProof.Rows
set_option maxRecDepth 100000
namespace Mine
section
variable {prog : Program} {w : World} {A : Around} {E : Value → Shared → Prop} {s : Shared} {h₀ : Heap} {L : Addr} {m : PySem.Str → Option Value} {news : List (Addr × Obj)} {Q : Value → Shared → Prop}
theorem sum_pick {l : Addr} {vs : List Value} {ns : List Int} {lo hi st : Option Int} {n : Nat} (hh : A.handled = none) (F : Fr h₀ L s.heap m) (N : News h₀ L s.heap news)
    (hm : (l, ({ cls := .type "list", data := .seq (slicePick vs.toArray lo hi st) n } : Obj)) ∈ news) (hI : IntsAre vs ns)
    (h : ∀ h' tk t', Fr h₀ L h' m → News h₀ L h' news → Q (.int (pickNums ns lo hi st).sum t') { s with heap := h', toks := tk }) :
    wpAny (model prog w) A (call (.builtin "sum") [.ref l]) Q E s := by
  have hp := IntsAre.pick hI lo hi st
  have hl : s.heap.IsList l (slicePick vs.toArray lo hi st) := ⟨_, (N _ hm).1, rfl, n, rfl⟩
  have ha : AllInts (slicePick vs.toArray lo hi st) := hp.allInts
  obtain ⟨xs, e⟩ := ha.items
  have hn := hp.numsOf
  rw [e] at hl hn
  refine sum_intListG hh hl fun h' tk t' hk => ?_
  have := h h' tk t' (F.keeps hk) (N.grown hk)
  rw [← hn, nums_intItems] at this
  rw [preSum_eq, List.take_of_length_le (by simp)]
  exact this
end
end Mine
end

section
open PySem PySem.W PyProof.Rows
namespace Mine
section
variable {w : World} {mean : ExcName → Option Value} {mg mb : PySem.Str → Option Value} {news : List (Addr × Obj)} {dp un : Nat} {gd : Option (List Code)} {cn : PySem.Str} {cs : Scope} {a' : Addr} {ccd : Value} {cl : List (PySem.Str × Addr)} {outer : List Env} {A₀ : Around} {base h₀ : Heap} {L : Addr} {m : PySem.Str → Option Value} {s : Shared} {Q E : Value → Shared → Prop}
theorem fig_call {l : Addr} {vs : List Value} {ns : List Int} {n : Nat} (k1 : Below A₀ base outer h₀) (k2 : Fr h₀ L s.heap m) (k3 : (hd03.heap_39 w.params).In h₀) (k4 : News h₀ L s.heap ((l, W.listOf vs.toArray n) :: news)) (k5 : Top hd03.view_39 (looseW hd03.view_39 []) mean mg mb h₀) (kK : cs.kind = .function)
    (kp : IntsAre vs ns) (kl : ns.length ≤ 20) (kd : dp + 1 < recursionLimit) (ku : un + 8 < cLine)
    (kR : ∀ (N : Int) (t : Tok) (h' : Heap) (tk' : Nat), 0 ≤ N → N < 100000000000000000000 → Fr h₀ L h' m → News h₀ L h' ((l, W.listOf vs.toArray n) :: news) → Q (.str (num N) t) { s with heap := h', toks := tk' }) :
    wpAny (model PySem.Challenge.rw_dm0048_03.row.prog w) (ktrTop dp un gd cn cs L a' ccd cl outer) (call (.ref 33) [.ref l]) Q E s :=
  fig_ok w mean mg mb news l vs ns n dp un gd cn cs a' ccd cl outer A₀ base h₀ L m s Q E k1 k2 k3 k4 k5 kK ⟨kp, kl⟩ kd ku (fun t h' tk' F N => kR (figN ns) t h' tk' (figN_lo ns) (figN_hi kl) F N)
theorem number_call {a : Int} {x : PySem.Str} {t : Tok} (k1 : Below A₀ base outer h₀) (k2 : Fr h₀ L s.heap m) (k3 : (hd03.heap_39 w.params).In h₀) (k4 : News h₀ L s.heap news) (k5 : Top hd03.view_39 (looseW hd03.view_39 []) mean mg mb h₀) (kK : cs.kind = .function)
    (ex : x = num a) (kp : 0 ≤ a) (kd : dp + 1 < recursionLimit) (ku : un + 8 < cLine)
    (kR : ∀ (t : Tok) (h' : Heap) (tk' : Nat), Fr h₀ L h' m → News h₀ L h' news → Q (.int a t) { s with heap := h', toks := tk' }) :
    wpAny (model PySem.Challenge.rw_dm0048_03.row.prog w) (ktrTop dp un gd cn cs L a' ccd cl outer) (call (.ref 40) [.str x t]) Q E s := by
  subst ex
  exact number_ok w mean mg mb news a t dp un gd cn cs a' ccd cl outer A₀ base h₀ L m s Q E k1 k2 k3 k4 k5 kK kp kd ku kR
theorem sum_call {a b : Int} {x y : PySem.Str} {t u : Tok} (k1 : Below A₀ base outer h₀) (k2 : Fr h₀ L s.heap m) (k3 : (hd03.heap_39 w.params).In h₀) (k4 : News h₀ L s.heap news) (k5 : Top hd03.view_39 (looseW hd03.view_39 []) mean mg mb h₀) (kK : cs.kind = .function)
    (ex : x = num a) (ey : y = num b) (p1 : 0 ≤ a) (p2 : 0 ≤ b) (p3 : Fit a) (p4 : Fit b) (kd : dp + 1 < recursionLimit) (ku : un + 8 < cLine)
    (kR : ∀ (t : Tok) (h' : Heap) (tk' : Nat), Fr h₀ L h' m → News h₀ L h' news → Q (.str (num (a + b)) t) { s with heap := h', toks := tk' }) :
    wpAny (model PySem.Challenge.rw_dm0048_03.row.prog w) (ktrTop dp un gd cn cs L a' ccd cl outer) (call (.ref 47) [.str x t, .str y u]) Q E s := by
  subst ex
  subst ey
  exact sum_ok w mean mg mb news a b t u dp un gd cn cs a' ccd cl outer A₀ base h₀ L m s Q E k1 k2 k3 k4 k5 kK ⟨p1, p2, p3, p4⟩ kd ku kR
theorem uni_call {a b : Int} {t u : Tok} (k1 : Below A₀ base outer h₀) (k2 : Fr h₀ L s.heap m) (k3 : (hd03.heap_39 w.params).In h₀) (k4 : News h₀ L s.heap news) (k5 : Top hd03.view_39 (looseW hd03.view_39 []) mean mg mb h₀) (kK : cs.kind = .function)
    (p1 : 0 ≤ a) (p2 : a ≤ b) (p3 : b < 1000000000000000000000000000000000000000000) (kd : dp + 1 < recursionLimit) (ku : un + 8 < cLine)
    (kR : ∀ (t : Tok) (h' : Heap) (tk' : Nat), Fr h₀ L h' m → News h₀ L h' news → Q (.str (uni a (b - a)) t) { s with heap := h', toks := tk' }) :
    wpAny (model PySem.Challenge.rw_dm0048_03.row.prog w) (ktrTop dp un gd cn cs L a' ccd cl outer) (call (.ref 21) [.int a t, .int b u]) Q E s :=
  uni_ok w mean mg mb news a b t u dp un gd cn cs a' ccd cl outer A₀ base h₀ L m s Q E k1 k2 k3 k4 k5 kK ⟨p1, p2, p3⟩ kd ku kR
theorem con_call {a b : Int} {t u : Tok} (k1 : Below A₀ base outer h₀) (k2 : Fr h₀ L s.heap m) (k3 : (hd03.heap_39 w.params).In h₀) (k4 : News h₀ L s.heap news) (k5 : Top hd03.view_39 (looseW hd03.view_39 []) mean mg mb h₀) (kK : cs.kind = .function)
    (p1 : 0 ≤ a) (p2 : a ≤ b) (p3 : b < 1000000000000000000000000000000000000000000) (kd : dp + 1 < recursionLimit) (ku : un + 8 < cLine)
    (kR : ∀ (t : Tok) (h' : Heap) (tk' : Nat), Fr h₀ L h' m → News h₀ L h' news → Q (.str (con a (b - a)) t) { s with heap := h', toks := tk' }) :
    wpAny (model PySem.Challenge.rw_dm0048_03.row.prog w) (ktrTop dp un gd cn cs L a' ccd cl outer) (call (.ref 28) [.int a t, .int b u]) Q E s :=
  con_ok w mean mg mb news a b t u dp un gd cn cs a' ccd cl outer A₀ base h₀ L m s Q E k1 k2 k3 k4 k5 kK ⟨p1, p2, p3⟩ kd ku kR
end
theorem lit0 : PySem.Str.ofString "0" = num 0 := by decide +kernel
theorem lit1 : PySem.Str.ofString "1" = num 1 := by decide +kernel
theorem lit2 : PySem.Str.ofString "2" = num 2 := by decide +kernel
theorem nine_strip {N : Int} (h : 0 ≤ N) : PySem.Txt.lstripChars (num N ++ PySem.Str.ofString "9") (PySem.Str.ofString "0") = num (10 * N + 9) := by
  have ec : (num N ++ PySem.Str.ofString "9").cps.toList = figs N.toNat ++ [57] := by
    rw [PySem.Str.cps_append, Array.toList_append, num_nat h]
    rfl
  have hd : NumText.AllDigits (num N ++ PySem.Str.ofString "9").cps.toList := by
    rw [ec]
    intro c hc
    rcases List.mem_append.mp hc with hc | hc
    · exact figs_digits _ c hc
    · rw [List.mem_singleton.mp hc]; decide
  have hv : NumText.digitsVal (num N ++ PySem.Str.ofString "9").cps.toList = 10 * N.toNat + 9 := by
    rw [ec, NumText.digitsVal_snoc, figs_val]
    omega
  have hs := strip_num hd
  have e := hs.1 (by
    intro e0
    have := hs.2 e0
    rw [hv] at this
    omega)
  rw [hv] at e
  have e3 : ((10 * N.toNat + 9 : Nat) : Int) = 10 * N + 9 := by omega
  rw [e3] at e
  exact e
/-- a short text -/
def Sz (x : PySem.Str) (k : Nat) : Prop := x.length ≤ k
theorem szN {a : Int} (h1 : 0 ≤ a) (h2 : a < 10000000000000000000000000) : Sz (num a) 51 := (fit_of (by omega) (by omega)).len
theorem szA {x y : PySem.Str} {j k : Nat} (h1 : Sz x j) (h2 : Sz y k) : Sz (x ++ y) (j + k) := by
  unfold Sz at *
  rw [PySem.Str.length_append]
  omega
theorem szL {x : PySem.Str} (h : x.length ≤ 5) : Sz x 5 := h
theorem szFit {x y : PySem.Str} {j k : Nat} (h1 : Sz x j) (h2 : Sz y k) (h : j + k ≤ 1000) : x.length + y.length ≤ sizeLine := by
  unfold Sz at *
  rw [sizeLine_eq]
  omega
theorem uniE0 {a c : Int} (h : c = 0) : uni a (a + c - a) = num a ++ PySem.Str.ofString ",0" := by
  subst h
  have e : a + 0 - a = 0 := by omega
  unfold uni
  rw [e, if_neg (by decide), if_pos rfl, PySem.Str.append_assoc]
  congr 1
theorem uniE1 {a c : Int} (h : c = 1) : uni a (a + c - a) = num (a + 1) := by
  have e : a + c - a = 1 := by omega
  unfold uni
  rw [if_pos e]
theorem uniE2 {a c : Int} {x : PySem.Str} (hx : x = num c) (h0 : c ≠ 0) (h1 : c ≠ 1) : uni a (a + c - a) = num (a + 1) ++ PySem.Str.ofString "," ++ x := by
  have e : a + c - a = c := by omega
  subst hx
  unfold uni
  rw [e, if_neg h1, if_neg h0]
theorem conE0 {a c : Int} (h : c = 0) : con a (a + c - a) = num a := by
  have e : a + c - a = 0 := by omega
  unfold con
  rw [if_pos e]
theorem conE1 {a c : Int} (h : c = 1) : con a (a + c - a) = num (a + 1) := by
  have e : a + c - a = 1 := by omega
  unfold con
  rw [if_neg (by omega), if_pos e]
theorem conE2 {a c : Int} (h0 : c ≠ 0) (h1 : c ≠ 1) : con a (a + c - a) = num (a + 1) ++ PySem.Str.ofString "," ++ num (a + c) := by
  have e : a + c - a = c := by omega
  unfold con
  rw [e, if_neg h0, if_neg h1]
section
variable {prog : Program} {w : World} {A : Around} {E : Value → Shared → Prop} {s : Shared} {Q : Value → Shared → Prop} {t u : Tok}
theorem nine_call {N : Int} (h0 : 0 ≤ N) (h1 : N < 100000000000000000000) (h : ∀ t' k, Q (.str (num (10 * N + 9)) t') { s with toks := k }) :
    wpAny (model prog w) A (call (.builtin "str.lstrip") [.str (num N ++ PySem.Str.ofString "9") t, .str (PySem.Str.ofString "0") u]) Q E s := by
  refine SC.lstripChars ?_ ?_
  · rw [nine_strip h0]
    exact h
  · have := szA (szN h0 (by omega)) (szL (x := PySem.Str.ofString "9") (by decide))
    unfold Sz at this
    rw [sizeLine_eq]
    omega
theorem eq_num {a b : Int} {y : PySem.Str} (hy : y = num b) (h1 : a = b → Q (.bool true) s) (h2 : a ≠ b → Q (.bool false) s) : wpAny (model prog w) A (compareOp .Eq (.str (num a) t) (.str y u)) Q E s := by
  subst hy
  refine eq_str ?_
  by_cases e : a = b
  · subst e
    rw [beq_self_eq_true]
    exact h1 rfl
  · have hne : num a ≠ num b := fun h => e (num_inj h)
    rw [beq_eq_false_iff_ne.mpr hne]
    exact h2 e
theorem ne_same {x y : PySem.Str} (e : x = y) (h : Q (.bool false) s) : wpAny (model prog w) A (compareOp .NotEq (.str x t) (.str y u)) Q E s := by
  subst e
  refine ne_str ?_
  rw [bne_self_eq_false]
  exact h
end
end Mine
end

section
open PySem PySem.W PySem.Calls PyProof.Rows
set_option maxRecDepth 100000
namespace Mine
/-- a text of a number not below nought -/
def NumV (v : Value) : Prop := ∃ (a : Int) (t : Tok), v = .str (num a) t ∧ 0 ≤ a ∧ a < 10000000000000000000000
theorem numV {a : Int} {x : PySem.Str} {t : Tok} (e : x = num a) (h0 : 0 ≤ a) (h1 : a < 10000000000000000000000) : NumV (.str x t) := ⟨a, t, by rw [e], h0, h1⟩
section
variable {prog : Program} {w : World} {A : Around} {E : Value → Shared → Prop} {s : Shared} {env : Env} {h₀ : Heap} {x : PySem.Str} {body : List Stmt} {Q : Flow → Shared → Prop}
abbrev Idle (news : List (Addr × Obj)) (x : PySem.Str) (stored : List PySem.Str) (m₀ : PySem.Str → Option Value) : (PySem.Str → Option Value) → List (Addr × Obj) → Prop :=
  KstS (fun _ : Unit => news) (fun _ => []) (fun _ => True) x stored m₀ (fun _ _ => True) []
/-- a loop over a made list, whatever its items, that keeps nothing -/
theorem idle_loop {l : Addr} {vs : List Value} {nn : Nat} {m₀ : PySem.Str → Option Value} {news : List (Addr × Obj)} (stored : List PySem.Str) (P : Value → Prop)
    (hh : A.handled = none) (hl : (l, W.listOf vs.toArray nn) ∈ news) (hv : ∀ v ∈ vs, P v) (F : Fr h₀ env.locals s.heap m₀) (N : News h₀ env.locals s.heap news)
    (turn : ∀ v (u : PySem.Str → Option Value) h tk own, P v → OwnOff own (news.map (·.1)) →
      Fr h₀ env.locals h (fun y => if y = x then some v else kstB (fun z => if stored.contains z then u z else m₀ z) [] y) → News h₀ env.locals h (news ++ own) →
      wpAny (model prog w) A (execs body env) (InvPostN h₀ env.locals (Idle news x stored m₀) own (news.map (·.1)) { s with heap := h, toks := tk } Q) E { s with heap := h, toks := tk })
    (done : ∀ (u : PySem.Str → Option Value) h tk, Fr h₀ env.locals h (fun y => if y = x then u y else kstB (fun z => if stored.contains z then u z else m₀ z) [] y) → News h₀ env.locals h news → Q .next { s with heap := h, toks := tk }) :
    wpAny (model prog w) A (pyIter (.ref l)) (fun it s₂ => LoopAtV prog w A h₀ env x body Q E it s₂) E s := by
  refine kdl_iter (fun _ m nx => Idle news x stored m₀ m nx) hh hl F N ⟨(), rfl, True.intro, (fun _ hp => nomatch hp), fun _ _ _ _ => rfl, True.intro⟩ ?_ ?_
  · rintro i v m₁ nx h tk own hi hoff _ ⟨c, e, _, h1, h2, _⟩ F₁ N₁
    have e : nx = news := e
    rw [e] at hoff N₁
    refine wpAny_mono (turn v m₁ h tk own (hv v (List.mem_of_getElem? hi)) hoff (kst_fr h1 h2 F₁) N₁) (fun f s₂ p => ?_) fun _ _ x => x
    have up : InvEndN h₀ env.locals (Idle news x stored m₀) own (news.map (·.1)) { s with heap := h, toks := tk } s₂ →
        InvEndG h₀ env.locals (fun m' nx => (l, W.listOf vs.toArray nn) ∈ nx ∧ Idle news x stored m₀ m' nx) own { s with heap := h, toks := tk } s₂ := by
      rintro ⟨h', tk', m', news', nx', e', F', N', hn', ho', ha, hS⟩
      refine ⟨h', tk', m', news', nx', e', F', N', hn', ho', ?_, ?_, hS⟩
      · obtain ⟨c', e, _⟩ := hS
        have e : nx' = news := e
        rw [e]
        exact hoff
      · obtain ⟨c', e, _⟩ := hS
        have e : nx' = news := e
        rw [e]
        exact hl
    cases f with
    | ret v => exact p
    | brk => exact p
    | next => exact up p
    | cont => exact up p
  · rintro m₁ nx h tk ⟨c, e, _, h1, h2, _⟩ F₁ N₁
    have e : nx = news := e
    rw [e] at N₁
    exact done m₁ h tk (kst_frOut h1 h2 F₁) N₁
theorem text_loop {l : Addr} {vs : List Value} {nn : Nat} {m₀ : PySem.Str → Option Value} {news : List (Addr × Obj)} (stored : List PySem.Str)
    (hh : A.handled = none) (hl : (l, W.listOf vs.toArray nn) ∈ news) (hv : ∀ v ∈ vs, NumV v) (F : Fr h₀ env.locals s.heap m₀) (N : News h₀ env.locals s.heap news)
    (turn : ∀ (a : Int) (t : Tok) (u : PySem.Str → Option Value) h tk own, 0 ≤ a → a < 10000000000000000000000 → OwnOff own (news.map (·.1)) →
      Fr h₀ env.locals h (fun y => if y = x then some (.str (num a) t) else kstB (fun z => if stored.contains z then u z else m₀ z) [] y) → News h₀ env.locals h (news ++ own) →
      wpAny (model prog w) A (execs body env) (InvPostN h₀ env.locals (Idle news x stored m₀) own (news.map (·.1)) { s with heap := h, toks := tk } Q) E { s with heap := h, toks := tk })
    (done : ∀ (u : PySem.Str → Option Value) h tk, Fr h₀ env.locals h (fun y => if y = x then u y else kstB (fun z => if stored.contains z then u z else m₀ z) [] y) → News h₀ env.locals h news → Q .next { s with heap := h, toks := tk }) :
    wpAny (model prog w) A (pyIter (.ref l)) (fun it s₂ => LoopAtV prog w A h₀ env x body Q E it s₂) E s := by
  refine idle_loop stored NumV hh hl hv F N ?_ done
  rintro v u h tk own ⟨a, t, rfl, h0, h1⟩ hoff F₁ N₁
  exact turn a t u h tk own h0 h1 hoff F₁ N₁
theorem idle_end {stored : List PySem.Str} {m₀ m' : PySem.Str → Option Value} {L : Addr} {news own news' : List (Addr × Obj)} {adr : List Addr} {s₁ : Shared} {h' : Heap} {tk : Nat}
    (F : Fr h₀ L h' m') (N : News h₀ L h' news') (hn : ∀ p ∈ news, p ∈ news') (ho : ∀ p ∈ own, p ∈ news') (ha : news.map (·.1) = adr) (hr : ∀ z, z ≠ x → stored.contains z = false → m' z = m₀ z) :
    InvEndN h₀ L (Idle news x stored m₀) own adr s₁ { s₁ with heap := h', toks := tk } :=
  InvEndN.intro F N ⟨(), rfl, True.intro, (fun _ hp => nomatch hp), fun z h1 _ h3 => hr z h1 h3, True.intro⟩ ha hn ho
end
theorem out {z y : PySem.Str} {stored : List PySem.Str} (h : stored.contains z = false) (hy : stored.contains y = true) : z ≠ y := by
  intro e
  rw [e, hy] at h
  cases h
theorem outB {z : PySem.Str} {stored : List PySem.Str} (h : stored.contains z = false) : ¬ stored.contains z = true := by
  rw [h]
  decide
end Mine
end

open PySem PySem.W PyProof.Rows
local macro_rules | `(tactic| walk_at "call builtin:sum") => `(tactic| (k_here; (refine' Mine.sum_pick ?k1 ?k2 ?k3 ?k4 ?k5 ?_; (case k1 => with_unfolding_all rfl); (case k2 => k_asm); (case k3 => k_asm); (case k4 => k_mem); (case k5 => assumption)); intro h' tk' t' F' N'))
local macro_rules | `(tactic| walk_at "CompEnd") => `(tactic| (k_here; (goal_has PySem.W.KCiEl); (refine' LCg.CompEnd.intro ?F ?N _ ?sub ?off ?src (kci_el ?kce (by with_unfolding_all rfl) (by with_unfolding_all rfl))); (case F => assumption); (case N => assumption); (case sub => kcf_all); (case off => first | assumption | (simp only [LCg.Off3, and_true]; done) | (simp only [LCg.Off3, and_true]; assumption)); (case src => first | lcg_src | assumption); (case kce => kpf_eq)))
local macro_rules | `(tactic| walk_at "call ref") => `(tactic| (k_here; (with_reducible show wpAny _ _ (call (Value.ref 33) [Value.ref _]) _ _ _); k_dflt (refine' Mine.fig_call ?k1 ?k2 ?k3 ?k4 ?k5 ?kK ?kp ?kl ?kd ?ku ?_; (case k1 => k_asm); (case k2 => k_asm); (case k3 => k_asm); (case k4 => k_asm); (case k5 => k_asm); (case kK => first | exact rfl | assumption); (case kp => assumption); (case kl => ((have hl9 := IntsAre.length (by assumption)); omega)); (case kd => ktr_room); (case ku => ktr_units)); intro i9 t9 h9 tk9 lo9 hi9 F9 N9; (try dsimp only); (try k_fold)))
local macro_rules | `(tactic| walk_at "call ref") => `(tactic| (k_here; (with_reducible show wpAny _ _ (call (Value.ref 40) [Value.str _ _]) _ _ _); k_dflt (refine' Mine.number_call ?k1 ?k2 ?k3 ?k4 ?k5 ?kK ?ex ?kp ?kd ?ku ?_; (case k1 => k_asm); (case k2 => k_asm); (case k3 => k_asm); (case k4 => k_asm); (case k5 => k_asm); (case kK => first | exact rfl | assumption); (case ex => with_reducible first | exact Mine.lit0 | exact Mine.lit1 | exact Mine.lit2 | exact rfl); (case kp => omega); (case kd => ktr_room); (case ku => ktr_units)); intro t9 h9 tk9 F9 N9; (try dsimp only); (try k_fold)))
local macro_rules | `(tactic| walk_at "call ref") => `(tactic| (k_here; (with_reducible show wpAny _ _ (call (Value.ref 47) [Value.str _ _, Value.str _ _]) _ _ _); k_dflt (refine' Mine.sum_call ?k1 ?k2 ?k3 ?k4 ?k5 ?kK ?ex ?ey ?p1 ?p2 ?p3 ?p4 ?kd ?ku ?_; (case k1 => k_asm); (case k2 => k_asm); (case k3 => k_asm); (case k4 => k_asm); (case k5 => k_asm); (case kK => first | exact rfl | assumption); (case ex => with_reducible first | exact Mine.lit0 | exact Mine.lit1 | exact Mine.lit2 | exact rfl); (case ey => with_reducible first | exact Mine.lit0 | exact Mine.lit1 | exact Mine.lit2 | exact rfl); (case p1 => omega); (case p2 => omega); (case p3 => exact Mine.fit_of (by omega) (by omega)); (case p4 => exact Mine.fit_of (by omega) (by omega)); (case kd => ktr_room); (case ku => ktr_units)); intro t9 h9 tk9 F9 N9; (try dsimp only); (try k_fold)))
local macro_rules | `(tactic| walk_at "call ref") => `(tactic| (k_here; (with_reducible show wpAny _ _ (call (Value.ref 21) [Value.int _ _, Value.int _ _]) _ _ _); k_dflt (refine' Mine.uni_call ?k1 ?k2 ?k3 ?k4 ?k5 ?kK ?p1 ?p2 ?p3 ?kd ?ku ?_; (case k1 => k_asm); (case k2 => k_asm); (case k3 => k_asm); (case k4 => k_asm); (case k5 => k_asm); (case kK => first | exact rfl | assumption); (case p1 => omega); (case p2 => omega); (case p3 => omega); (case kd => ktr_room); (case ku => ktr_units)); intro t9 h9 tk9 F9 N9; (try dsimp only); (try k_fold)))
local macro_rules | `(tactic| walk_at "call ref") => `(tactic| (k_here; (with_reducible show wpAny _ _ (call (Value.ref 28) [Value.int _ _, Value.int _ _]) _ _ _); k_dflt (refine' Mine.con_call ?k1 ?k2 ?k3 ?k4 ?k5 ?kK ?p1 ?p2 ?p3 ?kd ?ku ?_; (case k1 => k_asm); (case k2 => k_asm); (case k3 => k_asm); (case k4 => k_asm); (case k5 => k_asm); (case kK => first | exact rfl | assumption); (case p1 => omega); (case p2 => omega); (case p3 => omega); (case kd => ktr_room); (case ku => ktr_units)); intro t9 h9 tk9 F9 N9; (try dsimp only); (try k_fold)))
local macro_rules | `(tactic| walk_at "binaryOp Add str str") => `(tactic| (k_here; (with_reducible show wpAny _ _ (binaryOp Operator.Add (Value.str _ _) (Value.str _ _)) _ _ _); (refine' add_str ?_ (Mine.szFit ?s1 ?s2 ?s3); (case s1 => with_reducible first | exact Mine.szL (by decide) | exact Mine.szN (by omega) (by omega) | exact Mine.szA (by first | exact Mine.szL (by decide) | exact Mine.szN (by omega) (by omega)) (by first | exact Mine.szL (by decide) | exact Mine.szN (by omega) (by omega))); (case s2 => with_reducible first | exact Mine.szL (by decide) | exact Mine.szN (by omega) (by omega)); (case s3 => decide)); intro _ _))
local macro_rules | `(tactic| walk_at "call builtin:str.lstrip") => `(tactic| (k_here; (with_reducible refine Mine.nine_call (by omega) (by omega) ?_); intro _ _))
local macro_rules | `(tactic| walk_at "compareOp Eq str str") => `(tactic| (k_here; (with_reducible show wpAny _ _ (compareOp _ (Value.str (Mine.num _) _) (Value.str _ _)) _ _ _); (refine' Mine.eq_num ?hy (fun hq8 => ?_) (fun hq8 => ?_); (case hy => with_reducible first | exact Mine.lit0 | exact Mine.lit1 | exact Mine.lit2 | exact rfl))))
local macro_rules | `(tactic| walk_at "compareOp NotEq str str") => `(tactic| (k_here; (refine' Mine.ne_same ?e ?_; (case e => with_reducible first | exact Mine.uniE0 (by first | rfl | omega) | exact Mine.uniE1 (by first | rfl | omega) | exact Mine.uniE2 (by with_reducible first | exact Mine.lit0 | exact Mine.lit1 | exact Mine.lit2 | exact rfl) (by omega) (by omega) | exact Mine.conE0 (by first | rfl | omega) | exact Mine.conE1 (by first | rfl | omega) | exact Mine.conE2 (by omega) (by omega)))))
local macro_rules | `(tactic| walk_at "pyIter ref") => `(tactic| ((with_reducible show wpAny _ _ (pyIter (Value.ref _)) (fun it s₂ => LoopAtV _ _ _ _ _ _ _ _ _ it s₂) _ _); k_here; (rename Fr _ _ _ _ => lF'); (rename News _ _ _ _ => lN'); (with_unfolding_all refine' Mine.text_loop [PySem.Str.ofString "count", PySem.Str.ofString "first", PySem.Str.ofString "last", PySem.Str.ofString "unified", PySem.Str.ofString "context", PySem.Str.ofString "begin", PySem.Str.ofString "end"] ?k1 ?k2 ?k3 lF' lN' ?_ ?_; (case k1 => rfl); (case k2 => k_memK); (case k3 => (repeat (refine List.forall_mem_cons.mpr ⟨Mine.numV (by with_reducible first | exact Mine.lit0 | exact Mine.lit1 | exact Mine.lit2 | exact rfl) (by omega) (by omega), ?_⟩)); exact List.forall_mem_nil _)); (all_goals (try clear lF' lN')); (rotate_left 1; (intro kU kH kTk kFr kNews); (have kMark := kstMark); (try dsimp only [kstB] at kFr); (try dsimp only at kNews); (try k_fold); rotate_left 1; (intro kA kT kU kH kTk kOwn kLo kHi kOff kFr kNews); (have kMark := kstMark); (try dsimp only [kstB] at kFr); (try dsimp only at kNews); (try simp only [List.nil_append, List.cons_append, List.append_nil] at kNews); (try simp only [List.map_cons, List.map_nil] at kOff); (try k_fold))))
local macro_rules | `(tactic| walk_at "InvEndN") => `(tactic| (k_here; (rename News _ _ _ _ => nE'); (refine' Mine.idle_end ?k1 nE' ?k3 ?k4 ?k5 ?k6; (case k1 => assumption); (case k3 => first | kst_in | kst_inAny); (case k4 => first | (intro p hp; kst_mem) | kst_anyIn); (case k5 => rfl); (case k6 => ((intro z h1 h3); (repeat (first | refine Eq.trans (if_neg h1) ?_ | refine Eq.trans (if_neg (Mine.out h3 (by decide))) ?_ | refine Eq.trans (if_neg (Mine.outB h3)) ?_)); exact rfl)))))
set_option maxRecDepth 100000 in
set_option maxHeartbeats 8000000 in
theorem PySem.Challenge.cw_dm0048_03_holds : PySem.Challenge.rw_dm0048_03.Holds := by
  exact Mine.hd03 (by k_go0; (all_goals try k_fold); k_steps)
