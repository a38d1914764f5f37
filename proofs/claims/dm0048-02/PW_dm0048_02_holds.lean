import PyProof.Rows.All
import Wide.All
import OpenK.AllK
import Wide.FinOn
import Lean
import PySem.Challenge.RW_dm0048_02
set_option Elab.async false
section
open PySem PySem.W PyProof.Rows
set_option maxRecDepth 100000
set_option maxHeartbeats 8000000
namespace Mine
open_top hd02 for PySem.Challenge.rw_dm0048_02
end Mine
end

section
open PySem PySem.W PySem.Calls PyProof.Rows
set_option maxRecDepth 100000
namespace Mine

/-- the text of an int -/
abbrev num (n : Int) : PySem.Str := PySem.Str.ofString (toString n)

theorem num_len {n : Int} {k : Nat} (hk : 0 < k) (h : n.natAbs < 10 ^ k) : (num n).length ≤ k + 1 := by
  rw [PySem.ofString_length]
  exact PySem.int_text_length_le10 hk h
theorem nat_of {n : Int} {k : Nat} (h1 : -(10 ^ k : Int) < n) (h2 : n < (10 ^ k : Int)) : n.natAbs < 10 ^ k := by
  have e : ((10 ^ k : Nat) : Int) = (10 ^ k : Int) := by exact Int.natCast_pow 10 k
  omega
/-- a number that the laws write -/
def Fit (n : Int) : Prop := n.natAbs < 10 ^ 50
theorem Fit.len {n : Int} (h : Fit n) : (num n).length ≤ 51 := num_len (by decide) h
theorem Fit.log {n : Int} (h : Fit n) : n.natAbs.log2 < 1920 := by
  have h' : n.natAbs < 10 ^ 50 := h
  have e : (10 : Nat) ^ 50 < 2 ^ 1920 := by decide +kernel
  have h2 : n.natAbs < 2 ^ 1920 := Nat.lt_trans h' e
  by_cases h0 : n.natAbs = 0
  · rw [h0]; decide
  · exact (Nat.log2_lt h0).mpr h2

local macro_rules | `(tactic| kfm_len) => `(tactic| (with_reducible exact Fit.len (by assumption)))
local macro_rules | `(tactic| kfm_hd) => `(tactic| (with_reducible exact Fit.log (by assumption)))

section
variable {prog : Program} {w : World} {A : Around} {E : Value → Shared → Prop} {s : Shared} {Q : Value → Shared → Prop} {a b : Int} {t u v : Tok}
theorem fmt1_meets (ha : Fit a) : Meets (Builtin.«str.format» ⟨[.str (PySem.Str.mk #[123, 125]) t, .int a u], []⟩) (fun _ R s => ∀ t' k, R (.ok (.ret (.str (num a) t'))) { s with toks := k }) := by
  k_dflt kfm_run
theorem fmt2_meets (ha : Fit a) (hb : Fit b) : Meets (Builtin.«str.format» ⟨[.str (PySem.Str.mk #[123, 125, 44, 123, 125]) t, .int a u, .int b v], []⟩) (fun _ R s => ∀ t' k, R (.ok (.ret (.str (num a ++ PySem.Str.ofString "," ++ num b) t'))) { s with toks := k }) := by
  k_dflt kfm_run
theorem fmt1 (ha : Fit a) (h : ∀ t' k, Q (.str (num a) t') { s with toks := k }) : wpAny (model prog w) A (call (.builtin "str.format") [.str (PySem.Str.ofString "{}") t, .int a u]) Q E s :=
  KFm.call_k (X' := PySem.Str.mk #[123, 125]) (by decide +kernel) (KFm.args_2 _ _) (fmt1_meets ha) h
theorem fmt2 (ha : Fit a) (hb : Fit b) (h : ∀ t' k, Q (.str (num a ++ PySem.Str.ofString "," ++ num b) t') { s with toks := k }) : wpAny (model prog w) A (call (.builtin "str.format") [.str (PySem.Str.ofString "{},{}") t, .int a u, .int b v]) Q E s :=
  KFm.call_k (X' := PySem.Str.mk #[123, 125, 44, 123, 125]) (by decide +kernel) (KFm.args_3 _ _ _) (fmt2_meets ha hb) h
end
end Mine
end

section
open PySem PySem.W PySem.Calls PySem.NumText PyProof.Rows
set_option maxRecDepth 100000
namespace Mine

/-- plain figures of a number -/
def figs (m : Nat) : List Nat := (Nat.toDigits 10 m).map Char.toNat
theorem figs_digits (m : Nat) : AllDigits (figs m) := by
  intro c hc
  obtain ⟨ch, hch, e⟩ := List.mem_map.mp hc
  have r := digit_range (Nat.isDigit_of_mem_toDigits (by decide) (by decide) hch)
  rw [← e]
  exact r
theorem figs_ne (m : Nat) : figs m ≠ [] := by
  intro e
  have h := toDigits_len_ge 10 m
  rw [List.map_eq_nil_iff.mp e] at h
  exact absurd h (by decide)
theorem num_nat {n : Int} (h0 : 0 ≤ n) : (num n).cps.toList = figs n.toNat := by
  obtain ⟨m, rfl⟩ := Int.eq_ofNat_of_zero_le h0
  exact KIN.signs_num m
theorem num_neg {n : Int} (h0 : n < 0) : (num n).cps.toList = 45 :: figs (-n).toNat := by
  obtain ⟨m, rfl⟩ := Int.eq_negSucc_of_lt_zero h0
  show (PySem.Str.ofString (toString (Int.negSucc m))).cps.toList = _
  rw [signs_ofString]
  have e : (toString (Int.negSucc m)).toList = '-' :: (Nat.toDigits 10 (m + 1)) := by
    show (Int.repr (Int.negSucc m)).toList = _
    rw [Int.repr]
    simp [Nat.toList_repr]
  rw [e]
  show '-'.toNat :: (Nat.toDigits 10 (m + 1)).map Char.toNat = _
  have e2 : (-(Int.negSucc m)).toNat = m + 1 := by omega
  rw [e2]
  rfl
theorem num_signs (n : Int) : ∀ c ∈ (num n).cps.toList, c = 45 ∨ (48 ≤ c ∧ c ≤ 57) := by
  intro c hc
  by_cases h0 : 0 ≤ n
  · rw [num_nat h0] at hc
    exact .inr (figs_digits _ c hc)
  · rw [num_neg (by omega)] at hc
    rcases List.mem_cons.mp hc with e | hc
    · exact .inl e
    · exact .inr (figs_digits _ c hc)
theorem num_comma (n : Int) : 44 ∉ (num n).cps.toList := by
  intro h
  have := num_signs n 44 h
  omega
theorem num_inj {a b : Int} (h : num a = num b) : a = b := by
  have := congrArg PySem.Str.cps h
  have e : (num a).cps.toList = (num b).cps.toList := by rw [h]
  by_cases ha : 0 ≤ a <;> by_cases hb : 0 ≤ b
  · rw [num_nat ha, num_nat hb] at e
    have := congrArg digitsVal e
    rw [figs, figs, KIN.val_back, KIN.val_back] at this
    omega
  · rw [num_nat ha, num_neg (by omega)] at e
    have := figs_digits a.toNat 45 (by rw [e]; exact .head _)
    omega
  · rw [num_nat hb, num_neg (by omega)] at e
    have := figs_digits b.toNat 45 (by rw [← e]; exact .head _)
    omega
  · rw [num_neg (by omega), num_neg (by omega)] at e
    injection e with _ e
    have := congrArg digitsVal e
    rw [figs, figs, KIN.val_back, KIN.val_back] at this
    omega

theorem num_reads {n : Int} (h0 : 0 ≤ n) (h : Fit n) : PySem.intText? (num n) = some n := by
  have e := intText_digits (x := num n) (by rw [num_nat h0]; exact figs_digits _) (by rw [num_nat h0]; exact figs_ne _) (Nat.le_trans h.len (by decide))
  rw [num_nat h0, figs, KIN.val_back] at e
  rw [e]
  congr 1
  omega
theorem digit_uni : ∀ c : Nat, 48 ≤ c → c ≤ 57 → Unicode.isDigit c = true := by
  intro c h1 h2
  have : ∀ d : Fin 10, Unicode.isDigit (48 + d.val) = true := by decide +kernel
  have := this ⟨c - 48, by omega⟩
  have e : 48 + (c - 48) = c := by omega
  simp only [e] at this
  exact this
theorem num_isdigit {n : Int} (h0 : 0 ≤ n) : PySem.Txt.isdigit (num n) = true := by
  have hl : 0 < (num n).length := by
    have e : (num n).cps.toList.length = (num n).length := Array.length_toList
    rw [num_nat h0] at e
    have := figs_ne n.toNat
    cases hf : figs n.toNat with
    | nil => exact absurd hf this
    | cons c r => rw [hf] at e; simp at e; omega
  unfold PySem.Txt.isdigit
  rw [Bool.and_eq_true]
  refine ⟨decide_eq_true hl, ?_⟩
  rw [← Array.all_toList, num_nat h0, List.all_eq_true]
  intro c hc
  have := figs_digits _ c hc
  exact digit_uni c this.1 this.2

theorem cut_eq {c : Nat} : ∀ {a b x y : List Nat}, c ∉ a → c ∉ b → a ++ c :: x = b ++ c :: y → a = b ∧ x = y
  | [], [], _, _, _, _, h => ⟨rfl, (List.cons.inj h).2⟩
  | [], d :: b, _, _, _, hb, h => absurd (by rw [(List.cons.inj h).1]; exact .head _) hb
  | d :: a, [], _, _, ha, _, h => absurd (by rw [← (List.cons.inj h).1]; exact .head _) ha
  | d :: a, e :: b, _, _, ha, hb, h => by
    obtain ⟨h1, h2⟩ := List.cons.inj h
    obtain ⟨h3, h4⟩ := cut_eq (fun m => ha (.tail _ m)) (fun m => hb (.tail _ m)) h2
    exact ⟨by rw [h1, h3], h4⟩
theorem cut_no {c : Nat} {a b y : List Nat} (ha : c ∉ a) (h : a = b ++ c :: y) : False := ha (by rw [h]; exact List.mem_append_right _ (.head _))
abbrev comma : PySem.Str := PySem.Str.ofString ","
theorem comma_is : comma = ⟨#[44]⟩ := by decide +kernel
theorem join_cps1 (p : PySem.Str) : (PySem.Str.join comma [p]).cps.toList = p.cps.toList := rfl
theorem join_cps2 (p q : PySem.Str) (r : List PySem.Str) : (PySem.Str.join comma (p :: q :: r)).cps.toList = p.cps.toList ++ 44 :: (PySem.Str.join comma (q :: r)).cps.toList := by
  show (p ++ comma ++ PySem.Str.join comma (q :: r)).cps.toList = _
  rw [PySem.Str.cps_append, PySem.Str.cps_append, comma_is]
  simp
theorem join_inj : ∀ {ps qs : List PySem.Str}, ps ≠ [] → qs ≠ [] → (∀ p ∈ ps, 44 ∉ p.cps.toList) → (∀ q ∈ qs, 44 ∉ q.cps.toList) → (PySem.Str.join comma ps).cps.toList = (PySem.Str.join comma qs).cps.toList → ps = qs
  | [], _, h, _, _, _, _ => absurd rfl h
  | _, [], _, h, _, _, _ => absurd rfl h
  | [p], [q], _, _, _, _, h => by
    rw [join_cps1, join_cps1] at h
    rw [PySem.Str.ext' (Array.toList_inj.mp h)]
  | [p], q :: q2 :: r, _, _, hp, _, h => by
    rw [join_cps1, join_cps2] at h
    exact (cut_no (hp p (.head _)) h).elim
  | p :: p2 :: r, [q], _, _, _, hq, h => by
    rw [join_cps1, join_cps2] at h
    exact (cut_no (hq q (.head _)) h.symm).elim
  | p :: p2 :: r, q :: q2 :: r2, _, _, hp, hq, h => by
    rw [join_cps2, join_cps2] at h
    obtain ⟨h1, h2⟩ := cut_eq (hp p (.head _)) (hq q (.head _)) h
    have := join_inj (List.cons_ne_nil _ _) (List.cons_ne_nil _ _) (fun z hz => hp z (.tail _ hz)) (fun z hz => hq z (.tail _ hz)) h2
    rw [PySem.Str.ext' (Array.toList_inj.mp h1), this]
theorem split_ne (x : PySem.Str) : PySem.Txt.split x comma ≠ [] := by
  intro e
  have h := StrLaws.join_split x comma
  rw [e] at h
  have hx : x.length = 0 := by rw [← h]; rfl
  have hc : comma.length = 1 := by decide +kernel
  unfold PySem.Txt.split at e
  rw [if_pos (by rw [hx, hc]; rfl)] at e
  cases e
theorem split_join {ps : List PySem.Str} (hne : ps ≠ []) (hf : ∀ p ∈ ps, 44 ∉ p.cps.toList) : PySem.Txt.split (PySem.Str.join comma ps) comma = ps := by
  refine join_inj (split_ne _) hne ?_ hf ?_
  · have := StrLaws.split_free (PySem.Str.join comma ps) 44
    rw [← comma_is] at this
    exact this
  · rw [StrLaws.join_split]
theorem split_one (a : Int) : PySem.Txt.split (num a) comma = [num a] :=
  split_join (ps := [num a]) (by simp) (by intro p hp; rw [List.mem_singleton.mp hp]; exact num_comma a)
theorem split_two (a b : Int) : PySem.Txt.split (num a ++ comma ++ num b) comma = [num a, num b] :=
  split_join (ps := [num a, num b]) (by simp) (by
    intro p hp
    rcases List.mem_cons.mp hp with e | hp
    · rw [e]; exact num_comma a
    · rw [List.mem_singleton.mp hp]; exact num_comma b)

/-- texts of numbers not below nought -/
def numKind : ItemKind Int where
  is := fun n v => (∃ t, v = .str (num n) t) ∧ Fit n ∧ 0 ≤ n
  un := fun v => match v with | .str x _ => PySem.intText? x | _ => none
  ok := fun a v h => by
    obtain ⟨⟨t, rfl⟩, hf, h0⟩ := h
    exact num_reads h0 hf
section
variable {prog : Program} {w : World} {A : Around} {E : Value → Shared → Prop} {s : Shared} {Q : Value → Shared → Prop} {n : Int} {t : Tok}
theorem call_isdigit (h0 : 0 ≤ n) (h : Q (.bool true) s) : wpAny (model prog w) A (call (.builtin "str.isdigit") [.str (num n) t]) Q E s :=
  SC.isdigit (by rw [num_isdigit h0]; exact h)
theorem call_int (h0 : 0 ≤ n) (hf : Fit n) (h : Q (.int n s.toks) { s with toks := s.toks + 1 }) : wpAny (model prog w) A (call (.type "int") [.str (num n) t]) Q E s :=
  KIN.call_text (num_reads h0 hf) (Nat.le_trans hf.len (by decide)) h
theorem call_str {u : Tok} (hf : Fit n) (h : ∀ t' k, Q (.str (num n) t') { s with toks := k }) : wpAny (model prog w) A (call (.type "str") [.int n u]) Q E s :=
  P.str_of_int hf.log (h _ _)
end
end Mine
end

section
open PySem PySem.W PySem.Calls PySem.NumText PyProof.Rows
set_option maxRecDepth 100000
namespace Mine
/-- ints that are written -/
def fitKind : ItemKind Int where
  is := fun n v => (∃ t, v = .int n t) ∧ Fit n
  un := fun v => match v with | .int a _ => some a | _ => none
  ok := fun a v h => by
    obtain ⟨⟨t, rfl⟩, _⟩ := h
    rfl
theorem fit_of {n : Int} (h1 : -1000000000000000000000000000000000000000000000 < n) (h2 : n < 1000000000000000000000000000000000000000000000) : Fit n := by
  unfold Fit
  have e : (10 : Nat) ^ 50 = 100000000000000000000000000000000000000000000000000 := by decide +kernel
  rw [e]
  omega
theorem len_one {a : Int} (ha : Fit a) : (num a).length + 2 ≤ sizeLine := by
  have := ha.len
  rw [sizeLine_eq]; omega
theorem len_two {a b : Int} (ha : Fit a) (hb : Fit b) : (num a ++ comma ++ num b).length + 2 ≤ sizeLine := by
  have h1 := ha.len
  have h2 := hb.len
  have h3 : comma.length = 1 := by decide +kernel
  rw [PySem.Str.length_append, PySem.Str.length_append, sizeLine_eq, h3]; omega
theorem ints1 {ys : List Value} {a : Int} (h : IntsAre ys [a]) : ∃ t, ys = [.int a t] := by
  cases h with
  | cons _ t h => cases h with | nil => exact ⟨t, rfl⟩
theorem ints2 {ys : List Value} {a b : Int} (h : IntsAre ys [a, b]) : ∃ t u, ys = [.int a t, .int b u] := by
  cases h with
  | cons _ t h =>
    obtain ⟨u, rfl⟩ := ints1 h
    exact ⟨t, u, rfl⟩
theorem filter_all {α : Type} (l : List α) : l.filter (fun _ => true) = l := by simp
theorem carried_ints {ys : List Value} {ns : List Int} (h : CarriedAll ys ((ns.filter (fun _ => true)).map PyData.int)) : IntsAre ys ns := by
  rw [filter_all] at h
  have := CarriedAll.intsOf (f := fun n : Int => n) (as := ns) h
  simpa using this
theorem carried_strs {ys : List Value} {ns : List Int} (h : CarriedAll ys ((ns.filter (fun _ => true)).map fun n => PyData.str (num n))) : StrsAre ys (ns.map num) := by
  rw [filter_all] at h
  exact CarriedAll.strsOf h
section
variable {prog : Program} {w : World} {A : Around} {E : Value → Shared → Prop} {s₁ : Shared} {h₀ : Heap} {L : Addr} {m : PySem.Str → Option Value} {news : List (Addr × Obj)}
theorem compA_nums {name : PySem.Str} {fscope : Scope} {a : Addr} {cd : Value} {elt : PySem.Expr} {x z : PySem.Str} {ifs : List PySem.Expr} {scope : Scope} {Q : Flow → Shared → Prop} {l : Addr} {vs : List Value} {ns : List Int}
    (hh : A.handled = none) (hl : s₁.heap.IsList l vs.toArray) (hi : AreOf numKind vs ns) (F : Fr h₀ L s₁.heap m) (N : News h₀ L s₁.heap news)
    (g1 : ∀ C n t s₂ m₂ E', 0 ≤ n → Fit n → s₂.heap.Ns (compEnv scope C (envOf name fscope L a cd)).locals m₂ → m₂ x = some (.str (num n) t) → s₁.toks ≤ s₂.toks →
        wpAny (model prog w) A (forIn ifs true fun c r => if r = true then do let ok ← isTrue c (compEnv scope C (envOf name fscope L a cd)) (eval c (compEnv scope C (envOf name fscope L a cd))); pure (ForInStep.yield ok) else pure (ForInStep.yield r))
          (fun ok s₃ => ok = true ∧ Keeps s₂ s₃) E' s₂)
    (g2 : ∀ C n t s₂ m₂ E', 0 ≤ n → Fit n → s₂.heap.Ns (compEnv scope C (envOf name fscope L a cd)).locals m₂ → m₂ x = some (.str (num n) t) → s₁.toks ≤ s₂.toks → wpAny (model prog w) A (eval elt (compEnv scope C (envOf name fscope L a cd))) (fun r s₃ => Carried r (PyData.int n) ∧ Keeps s₂ s₃) E' s₂)
    (g3 : ∀ D (ys : List Value) n h' tk, IntsAre ys ns → Fr h₀ L h' (fun q => if q = z then some (.ref D) else m q) → News h₀ L h' ((D, W.listOf ys.toArray n) :: news) → GnNe D news → Q .next { s₁ with heap := h', toks := tk })
    (hsz : ns.length ≤ sizeLine) :
    wpAny (model prog w) A (pyIter (.ref l)) (CompPostA prog w A (envOf name fscope L a cd) scope x z ifs elt Q) E s₁ := by
  refine srcA_listD (K := numKind) (pz := fun _ => true) (d := PyData.int) hh hl hi F N ?_ ?_ ?_ hsz
  · rintro C n v s₂ m₂ E' ⟨⟨t, rfl⟩, hf, h0⟩ hn hm htk
    exact g1 C n t s₂ m₂ E' h0 hf hn hm htk
  · rintro C n v s₂ m₂ E' ⟨⟨t, rfl⟩, hf, h0⟩ _ hn hm htk
    exact g2 C n t s₂ m₂ E' h0 hf hn hm htk
  · intro D ys h' tk F' N' hn _ hp hc
    obtain ⟨n, N'', hne⟩ := gn_enter hp F' N' hn
    exact g3 D ys n h' tk (carried_ints hc) F' N'' hne
theorem compC_nums {env : Env} {elt : PySem.Expr} {x : PySem.Str} {scope : Scope} {Q : Value → Shared → Prop} {l : Addr} {vs : List Value} {ns : List Int}
    (hh : A.handled = none) (hl : s₁.heap.IsList l vs.toArray) (hi : AreOf fitKind vs ns) (F : Fr h₀ L s₁.heap m) (N : News h₀ L s₁.heap news)
    (g2 : ∀ C n t s₂ m₂ E', Fit n → s₂.heap.Ns (compEnv scope C env).locals m₂ → m₂ x = some (.int n t) → s₁.toks ≤ s₂.toks → wpAny (model prog w) A (eval elt (compEnv scope C env)) (fun r s₃ => Carried r (PyData.str (num n)) ∧ Keeps s₂ s₃) E' s₂)
    (g3 : ∀ D (ys : List Value) n h' tk, StrsAre ys (ns.map num) → Fr h₀ L h' m → News h₀ L h' ((D, W.listOf ys.toArray n) :: news) → GnNe D news → Q (.ref D) { s₁ with heap := h', toks := tk })
    (hsz : ns.length ≤ sizeLine) :
    wpAny (model prog w) A (pyIter (.ref l)) (CompPost prog w A env scope x [] elt Q) E s₁ := by
  refine srcC_listD (K := fitKind) (pz := fun _ => true) (d := fun n => PyData.str (num n)) hh hl hi F N ?_ ?_ ?_ hsz
  · intro C n v s₂ m₂ E' _ _ _ _
    exact wpAny_pure ⟨rfl, s₂.heap, s₂.toks, rfl, fun _ _ e => e⟩
  · rintro C n v s₂ m₂ E' ⟨⟨t, rfl⟩, hf⟩ _ hn hm htk
    exact g2 C n t s₂ m₂ E' hf hn hm htk
  · intro D ys h' tk F' N' hn _ hp hc
    obtain ⟨n, N'', hne⟩ := gn_enter hp F' N' hn
    exact g3 D ys n h' tk (carried_strs hc) F' N'' hne
theorem join_nums {Q : Value → Shared → Prop} {D : Addr} {ys : List Value} {ns : List Int} {t : Tok} (hl : s₁.heap.IsList D ys.toArray) (hi : StrsAre ys (ns.map num)) (hf : ∀ n ∈ ns, Fit n) (hn : ns.length ≤ 2)
    (h : ∀ t' k, Q (.str (PySem.Str.join comma (ns.map num)) t') { s₁ with toks := k }) : wpAny (model prog w) A (call (.builtin "str.join") [.str comma t, .ref D]) Q E s₁ := by
  have hs : ((ns.map num).map (·.length)).sum ≤ (ns.map num).length * 51 := StrLaws.sumLen_le (B := 51) _ (by
    intro y hy
    obtain ⟨n, hn, rfl⟩ := List.mem_map.mp hy
    exact (hf n hn).len)
  have hc : comma.length = 1 := by decide +kernel
  refine join_list hl (by simpa using hi) (by rw [hc]; simp only [List.length_map] at *; omega) ?_
  intro t' k
  have := h t' k
  rw [← StrLaws.glued_eq_join] at this
  exact this
theorem join1 {Q : Value → Shared → Prop} {D : Addr} {a : Int} {t t1 : Tok} (hl : s₁.heap.IsList D #[.str (num a) t1]) (ha : Fit a)
    (h : ∀ t' k, Q (.str (num a) t') { s₁ with toks := k }) : wpAny (model prog w) A (call (.builtin "str.join") [.str comma t, .ref D]) Q E s₁ :=
  join_nums (ys := [.str (num a) t1]) (ns := [a]) hl (.cons _ _ .nil) (by intro n hn; rw [List.mem_singleton.mp hn]; exact ha) (by simp) h
theorem join2 {Q : Value → Shared → Prop} {D : Addr} {a b : Int} {t t1 t2 : Tok} (hl : s₁.heap.IsList D #[.str (num a) t1, .str (num b) t2]) (ha : Fit a) (hb : Fit b)
    (h : ∀ t' k, Q (.str (num a ++ comma ++ num b) t') { s₁ with toks := k }) : wpAny (model prog w) A (call (.builtin "str.join") [.str comma t, .ref D]) Q E s₁ :=
  join_nums (ys := [.str (num a) t1, .str (num b) t2]) (ns := [a, b]) hl (.cons _ _ (.cons _ _ .nil)) (by
    intro n hn
    rcases List.mem_cons.mp hn with e | hn
    · rw [e]; exact ha
    · rw [List.mem_singleton.mp hn]; exact hb) (by simp) h
theorem eq_same {Q : Value → Shared → Prop} {x y : PySem.Str} {t u : Tok} (e : x = y) (h : Q (.bool true) s₁) : wpAny (model prog w) A (compareOp .Eq (.str x t) (.str y u)) Q E s₁ := by
  subst e
  exact eq_str (by simpa using h)
end
theorem noIndex {w : List Int} (h : decide (w = []) = false) (h2 : (0 : Int) < -(w.length : Int) ∨ (w.length : Int) ≤ 0) : False := by
  cases w with
  | nil => exact absurd h (by decide)
  | cons a r => simp at h2; omega
end Mine
end

section
open PySem PySem.W PySem.Calls PySem.NumText PyProof.Rows
set_option maxRecDepth 100000
namespace Mine
abbrev ten : PySem.Str := PySem.Str.ofString "0123456789"
theorem ten_occ : ∀ d : Fin 10, Builtin.Str.occurrences ten ⟨#[48 + d.val]⟩ 0 ten.length 1 = [d.val] := by decide +kernel
theorem ten_find : ∀ d : Fin 10, PySem.Txt.find ten ⟨#[48 + d.val]⟩ = (d.val : Int) := by decide +kernel
/-- the number that a row of figures' codes tells -/
def valI (l : List Int) : Int := l.foldl (fun acc c => 10 * acc + (c - 48)) 0
theorem valI_snoc (l : List Int) (c : Int) : valI (l ++ [c]) = 10 * valI l + (c - 48) := by
  unfold valI
  rw [List.foldl_append]
  rfl
theorem valI_codes (cs : List Nat) (h : AllDigits cs) : valI (cs.map fun (c : Nat) => (c : Int)) = (digitsVal cs : Int) := by
  have key : ∀ (cs : List Nat) (a : Nat), AllDigits cs → (cs.map fun (c : Nat) => (c : Int)).foldl (fun acc c => 10 * acc + (c - 48)) (a : Int) = ((cs.foldl (fun acc c => acc * 10 + (c - 48)) a : Nat) : Int) := by
    intro cs
    induction cs with
    | nil => intro a _; rfl
    | cons c r ih =>
      intro a h
      have hc := h.head
      rw [List.map_cons, List.foldl_cons, List.foldl_cons, ← ih _ h.tail]
      congr 1
      omega
  exact key cs 0 h
section
variable {prog : Program} {w : World} {A : Around} {E : Value → Shared → Prop} {s : Shared} {Q : Value → Shared → Prop} {n : Nat} {t u : Tok}
theorem call_index (h1 : 48 ≤ n) (h2 : n ≤ 57) (h : Q (.int ((n : Int) - 48) s.toks) { s with toks := s.toks + 1 }) :
    wpAny (model prog w) A (call (.builtin "str.index") [.str ten t, .str ⟨#[n]⟩ u]) Q E s := by
  have e := ten_occ ⟨n - 48, by omega⟩
  have e2 : 48 + (n - 48) = n := by omega
  simp only [e2] at e
  refine SC.index e ?_
  have e3 : ((n - 48 : Nat) : Int) = (n : Int) - 48 := by omega
  rw [e3]
  exact h
theorem call_find (h1 : 48 ≤ n) (h2 : n ≤ 57) (h : Q (.int ((n : Int) - 48) s.toks) { s with toks := s.toks + 1 }) :
    wpAny (model prog w) A (call (.builtin "str.find") [.str ten t, .str ⟨#[n]⟩ u]) Q E s := by
  have e := ten_find ⟨n - 48, by omega⟩
  have e2 : 48 + (n - 48) = n := by omega
  simp only [e2] at e
  refine SC.find ?_
  rw [e]
  have e3 : ((n - 48 : Nat) : Int) = (n : Int) - 48 := by omega
  rw [e3]
  exact h
end
theorem code_range {a : Int} (h0 : 0 ≤ a) {pre post : List Int} {n : Nat} (e : KStt.codes (num a) = pre ++ (n : Int) :: post) : 48 ≤ n ∧ n ≤ 57 := by
  have hm : (n : Int) ∈ KStt.codes (num a) := by rw [e]; exact List.mem_append_right _ (.head _)
  unfold KStt.codes at hm
  obtain ⟨c, hc, ec⟩ := List.mem_map.mp hm
  have ec' : c = n := by omega
  subst ec'
  rw [num_nat h0] at hc
  exact figs_digits _ c hc
theorem codes_val {a : Int} (h0 : 0 ≤ a) : valI (KStt.codes (num a)) = a := by
  have e : KStt.codes (num a) = (num a).cps.toList.map (fun (c : Nat) => (c : Int)) := rfl
  rw [e, num_nat h0, valI_codes _ (figs_digits _), figs, KIN.val_back]
  omega
end Mine
end

section
open PySem PySem.W PySem.Calls PySem.NumText PyProof.Rows
set_option maxRecDepth 100000
namespace Mine
theorem dv_cons (c : Nat) (r : List Nat) : digitsVal (c :: r) = (c - 48) * 10 ^ r.length + digitsVal r := by
  have key : ∀ (r : List Nat) (a : Nat), r.foldl (fun acc c => acc * 10 + (c - 48)) a = a * 10 ^ r.length + r.foldl (fun acc c => acc * 10 + (c - 48)) 0 := by
    intro r
    induction r with
    | nil => intro a; simp
    | cons d r ih =>
      intro a
      rw [List.foldl_cons, List.foldl_cons, ih (a * 10 + (d - 48)), ih (0 * 10 + (d - 48)), List.length_cons, Nat.pow_succ]
      rw [Nat.add_mul, Nat.add_mul, Nat.mul_assoc a 10, Nat.mul_comm 10 (10 ^ r.length)]
      omega
  show (c :: r).foldl _ 0 = _
  rw [List.foldl_cons, key]
  simp [digitsVal]
theorem dv_lt : ∀ (r : List Nat), AllDigits r → digitsVal r < 10 ^ r.length
  | [], _ => by decide
  | c :: r, h => by
    have ih := dv_lt r h.tail
    have hc := h.head
    rw [dv_cons, List.length_cons, Nat.pow_succ]
    have : (c - 48) * 10 ^ r.length ≤ 9 * 10 ^ r.length := Nat.mul_le_mul_right _ (by omega)
    omega
theorem dv_zeros (j : Nat) (r : List Nat) : digitsVal (List.replicate j 48 ++ r) = digitsVal r := by
  induction j with
  | zero => rfl
  | succ j ih =>
    rw [List.replicate_succ, List.cons_append, dv_cons, ih]
    simp
theorem figs_val (m : Nat) : digitsVal (figs m) = m := KIN.val_back m
theorem char_back : ∀ c : Nat, 48 ≤ c → c ≤ 57 → (Char.ofNat c).toNat = c := by
  intro c h1 h2
  have : ∀ d : Fin 10, (Char.ofNat (48 + d.val)).toNat = 48 + d.val := by decide
  have := this ⟨c - 48, by omega⟩
  have e : 48 + (c - 48) = c := by omega
  simp only [e] at this
  exact this
/-- a row of figures without a needless nought is its number's -/
theorem figs_of {cs : List Nat} (h : AllDigits cs) (hne : cs ≠ []) (hh : cs.length = 1 ∨ ∃ c r, cs = c :: r ∧ 49 ≤ c) : figs (digitsVal cs) = cs := by
  obtain ⟨n, hn⟩ : ∃ n, cs.length = n + 1 := by
    cases cs with
    | nil => exact absurd rfl hne
    | cons c r => exact ⟨r.length, rfl⟩
  have e := toDigits_digitsVal n cs hn h (by
    rcases hh with hh | hh
    · exact .inl (by omega)
    · exact .inr hh)
  unfold figs
  rw [e, List.map_map]
  have : ∀ l : List Nat, AllDigits l → l.map (Char.toNat ∘ Char.ofNat) = l := by
    intro l
    induction l with
    | nil => intro _; rfl
    | cons c r ih =>
      intro hl
      have hc := hl.head
      rw [List.map_cons, ih hl.tail]
      show (Char.ofNat c).toNat :: r = c :: r
      rw [char_back c hc.1 hc.2]
  exact this cs h
theorem text_is {x : PySem.Str} (h : AllDigits x.cps.toList) (hne : x.cps.toList ≠ []) (hh : x.cps.toList.length = 1 ∨ ∃ c r, x.cps.toList = c :: r ∧ 49 ≤ c) : x = num (digitsVal x.cps.toList : Int) := by
  apply PySem.Str.ext'
  apply Array.toList_inj.mp
  rw [num_nat (by omega)]
  have e : ((digitsVal x.cps.toList : Nat) : Int).toNat = digitsVal x.cps.toList := by omega
  rw [e, figs_of h hne hh]
theorem figs_head (m : Nat) : (figs m).length = 1 ∨ ∃ c r, figs m = c :: r ∧ 49 ≤ c := by
  have h := toDigits_all (figs m) (figs_digits m)
  rw [figs_val] at h
  cases hc : (figs m).dropWhile (· == 48) with
  | nil =>
    rw [hc] at h
    left
    have hd : figs m = ['0'].map Char.toNat := by
      show (Nat.toDigits 10 m).map Char.toNat = _
      rw [h]
    rw [hd]; rfl
  | cons c r =>
    right
    rw [hc] at h
    have hd : figs m = ((c :: r).map Char.ofNat).map Char.toNat := by
      show (Nat.toDigits 10 m).map Char.toNat = _
      rw [h]
    have hmem : ∀ d ∈ c :: r, 48 ≤ d ∧ d ≤ 57 := by
      intro d hd'
      rw [← hc] at hd'
      exact figs_digits m d ((List.dropWhile_sublist _).subset hd')
    have hne : c ≠ 48 := by
      intro e
      have := List.head_dropWhile_not (· == 48) (l := figs m) (by rw [hc]; simp)
      simp only [hc, List.head_cons] at this
      rw [e] at this
      exact absurd this (by decide)
    refine ⟨(Char.ofNat c).toNat, (r.map Char.ofNat).map Char.toNat, hd, ?_⟩
    have hc' := hmem c (.head _)
    rw [char_back c hc'.1 hc'.2]
    omega
theorem figs_lower (m : Nat) (h : (figs m).length ≠ 1) : 10 ^ ((figs m).length - 1) ≤ m := by
  rcases figs_head m with h1 | ⟨c, r, e, hc⟩
  · exact absurd h1 h
  · have hv := figs_val m
    rw [e, dv_cons] at hv
    rw [e, List.length_cons]
    have : 1 * 10 ^ r.length ≤ (c - 48) * 10 ^ r.length := Nat.mul_le_mul_right _ (by omega)
    simp only [Nat.add_sub_cancel]
    omega
end Mine
end

section
open PySem PySem.W PySem.Calls PySem.NumText PyProof.Rows
set_option maxRecDepth 100000
namespace Mine
theorem num_length {a : Int} (h : 0 ≤ a) : (num a).length = (figs a.toNat).length := by
  rw [← num_nat h]
  exact Array.length_toList.symm
def sz (a b : Int) : Nat := max (num a).length (num b).length
theorem sz_l (a b : Int) : (num a).length ≤ sz a b := Nat.le_max_left _ _
theorem sz_r (a b : Int) : (num b).length ≤ sz a b := Nat.le_max_right _ _
theorem sz_fit {a b : Int} (ha : Fit a) (hb : Fit b) : sz a b ≤ 51 := Nat.max_le.mpr ⟨ha.len, hb.len⟩
theorem sz_pos {a : Int} (b : Int) (h : 0 ≤ a) : 1 ≤ sz a b := by
  have h1 := sz_l a b
  rw [num_length h] at h1
  have h2 := figs_ne a.toNat
  cases hf : figs a.toNat with
  | nil => exact absurd hf h2
  | cons c r => rw [hf, List.length_cons] at h1; omega
theorem sz_is (a b : Int) : (if ((num b).length : Int) > ((num a).length : Int) then ((num b).length : Int) else ((num a).length : Int)) = (sz a b : Int) := by
  unfold sz
  split <;> omega
abbrev nought : PySem.Str := PySem.Str.ofString "0"
theorem nought_is : nought = ⟨#[48]⟩ := by decide +kernel
theorem rep_fold : ∀ (k : Nat) (acc : Array Nat), ((List.replicate k (#[48] : Array Nat)).foldl (· ++ ·) acc).toList = acc.toList ++ List.replicate k 48
  | 0, acc => by simp
  | k + 1, acc => by
    rw [List.replicate_succ, List.foldl_cons, rep_fold k, Array.toList_append, List.append_assoc, List.replicate_succ]
    rfl
theorem mul_nought (i : Int) : (PySem.Txt.mul nought i).cps.toList = List.replicate i.toNat 48 := by
  unfold PySem.Txt.mul
  rw [nought_is]
  by_cases h1 : i < 1
  · rw [if_pos h1]
    have : i.toNat = 0 := by omega
    rw [this]; rfl
  · rw [if_neg h1]
    by_cases h2 : i = 1
    · subst h2; rfl
    · rw [if_neg (by
        have e1 : (i == 1) = false := beq_eq_false_iff_ne.mpr h2
        have e2 : (PySem.Str.length ⟨#[48]⟩ == 0) = false := rfl
        rw [e1, e2]; decide)]
      show ((List.replicate i.toNat #[48]).foldl (· ++ ·) #[]).toList = _
      rw [rep_fold]
      rfl
abbrev padT (N : Nat) (a : Int) : PySem.Str := PySem.Txt.mul nought ((N : Int) - ((num a).length : Int)) ++ num a
def padL (N : Nat) (a : Int) : List Nat := List.replicate (N - (figs a.toNat).length) 48 ++ figs a.toNat
theorem padT_cps {N : Nat} {a : Int} (h0 : 0 ≤ a) : (padT N a).cps.toList = padL N a := by
  unfold padT padL
  rw [PySem.Str.cps_append, Array.toList_append, mul_nought, num_nat h0, num_length h0]
  have e : ((N : Int) - ((figs a.toNat).length : Int)).toNat = N - (figs a.toNat).length := by omega
  rw [e]
theorem padL_len {N : Nat} {a : Int} (h0 : 0 ≤ a) (h : (num a).length ≤ N) : (padL N a).length = N := by
  rw [num_length h0] at h
  unfold padL
  rw [List.length_append, List.length_replicate]
  omega
theorem padT_len {N : Nat} {a : Int} (h0 : 0 ≤ a) (h : (num a).length ≤ N) : (padT N a).length = N := by
  have e : (padT N a).cps.toList.length = (padT N a).length := Array.length_toList
  rw [← e, padT_cps h0, padL_len h0 h]
theorem padL_digits (N : Nat) (a : Int) : AllDigits (padL N a) := by
  intro c hc
  rcases List.mem_append.mp hc with hc | hc
  · rw [(List.mem_replicate.mp hc).2]; decide
  · exact figs_digits _ c hc
theorem padL_val (N : Nat) (a : Int) : digitsVal (padL N a) = a.toNat := by
  unfold padL
  rw [dv_zeros, figs_val]
/-- the figure at the k-th column from behind -/
def col (N : Nat) (a : Int) (k : Nat) : Nat := (padL N a).getD (N - k) 48
theorem col_range (N : Nat) (a : Int) (k : Nat) : 48 ≤ col N a k ∧ col N a k ≤ 57 := by
  unfold col
  rw [List.getD_eq_getElem?_getD]
  cases h : (padL N a)[N - k]? with
  | none => decide
  | some c => exact padL_digits N a c (List.mem_of_getElem? h)
theorem drop_col {N : Nat} {a : Int} (h0 : 0 ≤ a) (hN : (num a).length ≤ N) {j : Nat} (hj : j < N) : (padL N a).drop (N - (j + 1)) = col N a (j + 1) :: (padL N a).drop (N - j) := by
  have hl := padL_len h0 hN
  have hlt : N - (j + 1) < (padL N a).length := by omega
  rw [List.drop_eq_getElem_cons hlt]
  have e1 : N - (j + 1) + 1 = N - j := by omega
  rw [e1]
  congr 1
  unfold col
  rw [List.getD_eq_getElem?_getD, List.getElem?_eq_getElem hlt]
  rfl
theorem item_col {N : Nat} {a : Int} (h0 : 0 ≤ a) (hN : (num a).length ≤ N) {k : Int} (h1 : 1 ≤ k) (h2 : k ≤ N) : PySem.Txt.item (padT N a) (-k) = ⟨#[col N a k.toNat]⟩ := by
  have hl := padT_len h0 hN
  have e := item_closes_neg (x := padT N a) (i := -k) (j := -k + N) (by omega) (by rw [hl]; omega) (by rw [hl])
  rw [eq_of_beq e]
  have e2 : (-k + (N : Int)).toNat = N - k.toNat := by omega
  rw [e2]
  have e3 : (padT N a).cps.getD (N - k.toNat) 0 = col N a k.toNat := by
    unfold col
    rw [← padT_cps h0]
    have hlt : N - k.toNat < (padT N a).cps.size := by
      have : (padT N a).cps.size = N := hl
      omega
    rw [List.getD_eq_getElem?_getD, Array.getElem?_toList, Array.getElem?_eq_getElem hlt, Array.getD_eq_getD_getElem?, Array.getElem?_eq_getElem hlt]
    rfl
  rw [e3]
def SumInv (a b : Int) (pre : List Int) (total : PySem.Str) (carry : Int) : Prop :=
  total.length = pre.length ∧ AllDigits total.cps.toList ∧ (carry = 0 ∨ carry = 1) ∧
  (digitsVal total.cps.toList : Int) + carry * 10 ^ pre.length = (digitsVal ((padL (sz a b) a).drop (sz a b - pre.length)) : Int) + (digitsVal ((padL (sz a b) b).drop (sz a b - pre.length)) : Int)
theorem sum_start {a b : Int} (ha : 0 ≤ a) (hb : 0 ≤ b) : SumInv a b [] (PySem.Str.ofString "") 0 := by
  have e : (PySem.Str.ofString "").cps.toList = [] := by decide
  refine ⟨rfl, (by rw [e]; intro c hc; cases hc), .inl rfl, ?_⟩
  rw [e, List.drop_of_length_le (by rw [padL_len ha (sz_l a b)]; simp), List.drop_of_length_le (by rw [padL_len hb (sz_r a b)]; simp)]
  rfl
theorem ten_item {j : Int} (h0 : 0 ≤ j) (h1 : j < 10) : PySem.Txt.item ten j = ⟨#[48 + j.toNat]⟩ := by
  have : ∀ d : Fin 10, PySem.Txt.item ten (d.val : Int) = ⟨#[48 + d.val]⟩ := by decide +kernel
  have := this ⟨j.toNat, by omega⟩
  have e : ((j.toNat : Nat) : Int) = j := by omega
  simp only [e] at this
  exact this
theorem sum_turn {a b : Int} (ha : 0 ≤ a) (hb : 0 ≤ b) {pre : List Int} {total : PySem.Str} {carry k : Int} (h : SumInv a b pre total carry) (hk : k = 1 + (pre.length : Int)) (hlt : pre.length < sz a b) :
    SumInv a b (pre ++ [k]) (PySem.Txt.item ten ((((col (sz a b) a k.toNat : Nat) : Int) - 48 + (((col (sz a b) b k.toNat : Nat) : Int) - 48) + carry).fmod 10) ++ total) ((((col (sz a b) a k.toNat : Nat) : Int) - 48 + (((col (sz a b) b k.toNat : Nat) : Int) - 48) + carry).fdiv 10) := by
  obtain ⟨h1, h2, h3, h4⟩ := h
  have ek : k.toNat = pre.length + 1 := by omega
  rw [ek]
  have ra := col_range (sz a b) a (pre.length + 1)
  have rb := col_range (sz a b) b (pre.length + 1)
  have da := drop_col ha (sz_l a b) hlt
  have db := drop_col hb (sz_r a b) hlt
  have la : ((padL (sz a b) a).drop (sz a b - pre.length)).length = pre.length := by rw [List.length_drop, padL_len ha (sz_l a b)]; omega
  have lb : ((padL (sz a b) b).drop (sz a b - pre.length)).length = pre.length := by rw [List.length_drop, padL_len hb (sz_r a b)]; omega
  generalize col (sz a b) a (pre.length + 1) = ca at *
  generalize col (sz a b) b (pre.length + 1) = cb at *
  obtain ⟨q, r, hqr, hq, hr0, hr1⟩ : ∃ q r : Int, ((ca : Int) - 48 + ((cb : Int) - 48) + carry) = 10 * q + r ∧ (q = 0 ∨ q = 1) ∧ 0 ≤ r ∧ r < 10 := by
    by_cases hs : ((ca : Int) - 48 + ((cb : Int) - 48) + carry) < 10
    · exact ⟨0, _, by omega, .inl rfl, by omega, hs⟩
    · exact ⟨1, ((ca : Int) - 48 + ((cb : Int) - 48) + carry) - 10, by omega, .inr rfl, by omega, by omega⟩
  have em : (10 * q + r).fmod 10 = r := by rw [Int.fmod_eq_emod_of_nonneg _ (by decide)]; omega
  have ed : (10 * q + r).fdiv 10 = q := by rw [Int.fdiv_eq_ediv_of_nonneg _ (by decide)]; omega
  rw [hqr, em, ed, ten_item hr0 hr1]
  have hc : ((⟨#[48 + r.toNat]⟩ : PySem.Str) ++ total).cps.toList = (48 + r.toNat) :: total.cps.toList := by
    rw [PySem.Str.cps_append, Array.toList_append]; rfl
  have ht : total.cps.toList.length = pre.length := by
    have e : total.cps.toList.length = total.length := Array.length_toList
    rw [e, h1]
  refine ⟨?_, ?_, hq, ?_⟩
  · rw [PySem.Str.length_append, h1, List.length_append, List.length_singleton]
    show 1 + pre.length = _
    omega
  · rw [hc]
    intro c hcm
    rcases List.mem_cons.mp hcm with e | hcm
    · rw [e]; omega
    · exact h2 c hcm
  · rw [hc, List.length_append, List.length_singleton, da, db, dv_cons, dv_cons, dv_cons, ht, la, lb, Int.pow_succ]
    have e1 : 48 + r.toNat - 48 = r.toNat := by omega
    rw [e1]
    push_cast
    have e2 : ((r.toNat : Nat) : Int) = r := by omega
    have e3 : ((ca - 48 : Nat) : Int) = (ca : Int) - 48 := by omega
    have e4 : ((cb - 48 : Nat) : Int) = (cb : Int) - 48 := by omega
    rw [e2, e3, e4]
    generalize (10 : Int) ^ pre.length = P at *
    have e5 : r * P + q * (P * 10) = ((ca : Int) - 48) * P + ((cb : Int) - 48) * P + carry * P := by
      have : r * P + q * (P * 10) = (10 * q + r) * P := by
        rw [Int.add_mul, Int.mul_assoc 10 q P, Int.mul_comm 10 (q * P), Int.mul_assoc q P 10]
        omega
      rw [this, ← hqr, Int.add_mul, Int.add_mul]
    omega
theorem sum_end {a b : Int} (ha : 0 ≤ a) (hb : 0 ≤ b) {pre : List Int} {total : PySem.Str} {carry : Int} (h : SumInv a b pre total carry) (hl : pre.length = sz a b) :
    (carry = 1 → PySem.Str.ofString "1" ++ total = num (a + b)) ∧ (carry ≠ 1 → total = num (a + b)) := by
  obtain ⟨h1, h2, h3, h4⟩ := h
  rw [hl] at h1 h4
  rw [Nat.sub_self, List.drop_zero, List.drop_zero, padL_val, padL_val] at h4
  have ea : ((a.toNat : Nat) : Int) = a := by omega
  have eb : ((b.toNat : Nat) : Int) = b := by omega
  rw [ea, eb] at h4
  have ht : total.cps.toList.length = sz a b := by
    have e : total.cps.toList.length = total.length := Array.length_toList
    rw [e, h1]
  have hp := sz_pos b ha
  constructor
  · intro hc
    subst hc
    have ec : (PySem.Str.ofString "1" ++ total).cps.toList = 49 :: total.cps.toList := by
      rw [PySem.Str.cps_append, Array.toList_append]
      rfl
    have e := text_is (x := PySem.Str.ofString "1" ++ total) (by
      rw [ec]
      intro c hcm
      rcases List.mem_cons.mp hcm with e | hcm
      · rw [e]; decide
      · exact h2 c hcm) (by rw [ec]; simp) (.inr ⟨49, _, ec, Nat.le_refl _⟩)
    rw [e, ec, dv_cons, ht]
    congr 1
    push_cast
    omega
  · intro hc
    have hc0 : carry = 0 := by omega
    subst hc0
    have hv : (digitsVal total.cps.toList : Int) = a + b := by omega
    have hne : total.cps.toList ≠ [] := by
      intro e
      rw [e] at ht
      simp at ht
      omega
    have e := text_is (x := total) h2 hne (by
      by_cases h1' : sz a b = 1
      · left; omega
      · right
        cases hcs : total.cps.toList with
        | nil => exact absurd hcs hne
        | cons c r =>
          refine ⟨c, r, rfl, ?_⟩
          have hd' : AllDigits (c :: r) := by rw [← hcs]; exact h2
          have hd := hd'.head
          have hr := dv_lt r hd'.tail
          have hlr : r.length = sz a b - 1 := by rw [hcs, List.length_cons] at ht; omega
          have low : (10 : Nat) ^ (sz a b - 1) ≤ a.toNat + b.toNat := by
            have hmx : sz a b = (figs a.toNat).length ∨ sz a b = (figs b.toNat).length := by
              rw [← num_length ha, ← num_length hb]
              unfold sz
              omega
            rcases hmx with hm | hm
            · have := figs_lower a.toNat (by omega)
              rw [hm]; omega
            · have := figs_lower b.toNat (by omega)
              rw [hm]; omega
          rw [hcs, dv_cons] at hv
          by_cases hc48 : c = 48
          · subst hc48
            simp only [Nat.sub_self, Nat.zero_mul, Nat.zero_add] at hv
            rw [hlr] at hr
            omega
          · omega)
    rw [e, hv]
end Mine
end

section
open PySem PySem.W PySem.Calls PySem.NumText PyProof.Rows
set_option maxRecDepth 100000
namespace Mine
/-- the figures of a number, none for nought -/
def figsO (m : Nat) : List Nat := if m = 0 then [] else figs m
theorem figsO_val (m : Nat) : digitsVal (figsO m) = m := by
  unfold figsO
  by_cases h : m = 0
  · rw [if_pos h, h]; rfl
  · rw [if_neg h, figs_val]
theorem figsO_digits (m : Nat) : AllDigits (figsO m) := by
  unfold figsO
  by_cases h : m = 0
  · rw [if_pos h]; intro c hc; cases hc
  · rw [if_neg h]; exact figs_digits m
theorem figs_step (m : Nat) : figs m = figsO (m / 10) ++ [48 + m % 10] := by
  have hd : AllDigits (figsO (m / 10) ++ [48 + m % 10]) := by
    intro c hc
    rcases List.mem_append.mp hc with hc | hc
    · exact figsO_digits _ c hc
    · rw [List.mem_singleton.mp hc]; omega
  have hv : digitsVal (figsO (m / 10) ++ [48 + m % 10]) = m := by
    rw [digitsVal_snoc, figsO_val]
    omega
  have e := figs_of hd (by simp) (by
    by_cases h : m / 10 = 0
    · left
      unfold figsO
      rw [if_pos h]; rfl
    · right
      have hf : figsO (m / 10) = figs (m / 10) := if_neg h
      rw [hf]
      rcases figs_head (m / 10) with h1 | ⟨c, r, e, hc⟩
      · cases hcs : figs (m / 10) with
        | nil => rw [hcs] at h1; cases h1
        | cons c r =>
          rw [hcs, List.length_cons] at h1
          have hr : r = [] := List.eq_nil_of_length_eq_zero (by omega)
          subst hr
          have hv2 := figs_val (m / 10)
          rw [hcs, dv_cons] at hv2
          refine ⟨c, _, rfl, ?_⟩
          have h0 : digitsVal ([] : List Nat) = 0 := rfl
          rw [h0] at hv2
          simp only [List.length_nil, Nat.pow_zero, Nat.mul_one, Nat.add_zero] at hv2
          omega
      · exact ⟨c, r ++ [48 + m % 10], by rw [e]; rfl, hc⟩)
  rw [hv] at e
  exact e
def WInv (n : Nat) (rest : Int) (text : PySem.Str) : Prop := 0 ≤ rest ∧ ((text.length = 0 ∧ rest = n) ∨ (text.length ≠ 0 ∧ figsO rest.toNat ++ text.cps.toList = figs n))
theorem w_start (n : Nat) : WInv n (n : Int) (PySem.Str.ofString "") := ⟨by omega, .inl ⟨rfl, rfl⟩⟩
theorem len_cps (x : PySem.Str) : x.cps.toList.length = x.length := Array.length_toList
theorem w_len {n : Nat} {rest : Int} {text : PySem.Str} (h : WInv n rest text) (hn : (figs n).length ≤ 51) : text.length ≤ 51 := by
  rcases h.2 with ⟨h1, _⟩ | ⟨_, h2⟩
  · omega
  · have := congrArg List.length h2
    rw [List.length_append, len_cps] at this
    omega
theorem w_turn {n : Nat} {rest : Int} {text : PySem.Str} (h : WInv n rest text) (ht : rest > 0 ∨ text.length = 0) : WInv n (rest.fdiv 10) (PySem.Txt.item ten (rest.fmod 10) ++ text) := by
  obtain ⟨h0, h⟩ := h
  obtain ⟨r, rfl⟩ := Int.eq_ofNat_of_zero_le h0
  have ed : ((r : Int).fdiv 10) = ((r / 10 : Nat) : Int) := by rw [Int.fdiv_eq_ediv_of_nonneg _ (by decide)]; omega
  have em : ((r : Int).fmod 10) = ((r % 10 : Nat) : Int) := by rw [Int.fmod_eq_emod_of_nonneg _ (by decide)]; omega
  rw [ed, em, ten_item (by omega) (by omega)]
  have hc : ((⟨#[48 + ((r % 10 : Nat) : Int).toNat]⟩ : PySem.Str) ++ text).cps.toList = (48 + r % 10) :: text.cps.toList := by
    rw [PySem.Str.cps_append, Array.toList_append]; rfl
  refine ⟨by omega, .inr ⟨?_, ?_⟩⟩
  · rw [← len_cps, hc, List.length_cons]; omega
  · rw [hc]
    have et : (((r / 10 : Nat) : Int)).toNat = r / 10 := by omega
    rw [et]
    have es : figsO (r / 10) ++ (48 + r % 10) :: text.cps.toList = figs r ++ text.cps.toList := by
      rw [figs_step r, List.append_assoc]; rfl
    rw [es]
    rcases h with ⟨h1, h2⟩ | ⟨h1, h2⟩
    · have e0 : text.cps.toList = [] := List.eq_nil_of_length_eq_zero (by rw [len_cps]; exact h1)
      have : r = n := by omega
      rw [e0, List.append_nil, this]
    · have hr : r ≠ 0 := by omega
      have e2 : figsO (r : Int).toNat = figs r := by
        have : (r : Int).toNat = r := by omega
        rw [this]
        exact if_neg hr
      rw [← h2, e2]
theorem w_end {n : Nat} {rest : Int} {text : PySem.Str} (h : WInv n rest text) (h1 : ¬ rest > 0) (h2 : text.length ≠ 0) : text.cps.toList = figs n := by
  obtain ⟨h0, h⟩ := h
  rcases h with ⟨h3, _⟩ | ⟨_, h4⟩
  · exact absurd h3 h2
  · have : rest.toNat = 0 := by omega
    rw [this] at h4
    exact h4
theorem text_num {a : Int} {text : PySem.Str} (ha : ¬ a < 0) (h : text.cps.toList = figs a.natAbs) : text = num a := by
  apply PySem.Str.ext'
  apply Array.toList_inj.mp
  rw [h, num_nat (by omega)]
  have : a.natAbs = a.toNat := by omega
  rw [this]
theorem text_neg {a : Int} {text : PySem.Str} (ha : a < 0) (h : text.cps.toList = figs a.natAbs) : PySem.Str.ofString "-" ++ text = num a := by
  apply PySem.Str.ext'
  apply Array.toList_inj.mp
  rw [PySem.Str.cps_append, Array.toList_append, h, num_neg ha]
  have : a.natAbs = (-a).toNat := by omega
  rw [this]
  rfl
theorem figs_fit {a : Int} (h : Fit a) : (figs a.natAbs).length ≤ 51 := by
  have h2 : Fit (a.natAbs : Int) := h
  have h1 := h2.len
  rw [← len_cps, num_nat (by omega)] at h1
  exact h1
end Mine
end

section
open PySem PySem.W PySem.Calls PySem.NumText PyProof.Rows
set_option maxRecDepth 100000
namespace Mine
/-- the number that a row of codes tells, signs left out -/
def valZ (l : List Int) : Int := l.foldl (fun acc c => if c = 45 then acc else acc * 10 + (c - 48)) 0
theorem valZ_snoc (l : List Int) (c : Int) : valZ (l ++ [c]) = if c = 45 then valZ l else valZ l * 10 + (c - 48) := by
  unfold valZ
  rw [List.foldl_append]
  rfl
theorem valZ_sign {l : List Int} {v : Int} {n : Nat} (h : v = valZ l) (hn : n = 45) : v = valZ (l ++ [(n : Int)]) := by
  rw [valZ_snoc, if_pos (by omega)]
  exact h
theorem valZ_fig {l : List Int} {v : Int} {n : Nat} (h : v = valZ l) (hn : n ≠ 45) : v * 10 + ((n : Int) - 48) = valZ (l ++ [(n : Int)]) := by
  rw [valZ_snoc, if_neg (by omega), h]
theorem valZ_digits (cs : List Nat) (h : AllDigits cs) : valZ (cs.map fun (c : Nat) => (c : Int)) = (digitsVal cs : Int) := by
  have key : ∀ (cs : List Nat) (a : Nat), AllDigits cs → (cs.map fun (c : Nat) => (c : Int)).foldl (fun acc c => if c = 45 then acc else acc * 10 + (c - 48)) (a : Int) = ((cs.foldl (fun acc c => acc * 10 + (c - 48)) a : Nat) : Int) := by
    intro cs
    induction cs with
    | nil => intro a _; rfl
    | cons c r ih =>
      intro a h
      have hc := h.head
      rw [List.map_cons, List.foldl_cons, List.foldl_cons, ← ih _ h.tail]
      congr 1
      rw [if_neg (by omega)]
      omega
  exact key cs 0 h
theorem codes_abs (a : Int) : valZ (KStt.codes (num a)) = (a.natAbs : Int) := by
  have e : KStt.codes (num a) = (num a).cps.toList.map (fun (c : Nat) => (c : Int)) := rfl
  rw [e]
  by_cases h0 : 0 ≤ a
  · rw [num_nat h0, valZ_digits _ (figs_digits _), figs_val]
    omega
  · rw [num_neg (by omega)]
    have : valZ (List.map (fun (c : Nat) => (c : Int)) (45 :: figs (-a).toNat)) = valZ (List.map (fun (c : Nat) => (c : Int)) (figs (-a).toNat)) := rfl
    rw [this, valZ_digits _ (figs_digits _), figs_val]
    omega
theorem code_range2 {a : Int} {pre post : List Int} {n : Nat} (e : KStt.codes (num a) = pre ++ (n : Int) :: post) (h : n ≠ 45) : 48 ≤ n ∧ n ≤ 57 := by
  have hm : (n : Int) ∈ KStt.codes (num a) := by rw [e]; exact List.mem_append_right _ (.head _)
  unfold KStt.codes at hm
  obtain ⟨c, hc, ec⟩ := List.mem_map.mp hm
  have ec' : c = n := by omega
  subst ec'
  rcases num_signs a c hc with h1 | h1
  · exact absurd h1 h
  · exact h1
section
variable {prog : Program} {w : World} {A : Around} {E : Value → Shared → Prop} {s : Shared} {Q : Value → Shared → Prop} {t u : Tok}
theorem ne_dash {n : Nat} (h1 : n = 45 → Q (.bool false) s) (h2 : n ≠ 45 → Q (.bool true) s) : wpAny (model prog w) A (compareOp .NotEq (.str ⟨#[n]⟩ t) (.str (PySem.Str.ofString "-") u)) Q E s := by
  refine ne_str ?_
  have ed : PySem.Str.ofString "-" = ⟨#[45]⟩ := by decide
  by_cases e : n = 45
  · subst e
    rw [ed, bne_self_eq_false]
    exact h1 rfl
  · have hne : (⟨#[n]⟩ : PySem.Str) ≠ PySem.Str.ofString "-" := by
      rw [ed]
      intro hx
      have := congrArg (fun x => x.cps.toList) hx
      simp at this
      exact e this
    rw [bne_iff_ne.mpr hne]
    exact h2 e
theorem ne_alike {x y : PySem.Str} (e : x = y) (h : Q (.bool false) s) : wpAny (model prog w) A (compareOp .NotEq (.str x t) (.str y u)) Q E s := by
  subst e
  refine ne_str ?_
  rw [bne_self_eq_false]
  exact h
theorem neg_back {a : Int} (h : ∀ t' k, Q (.int a t') { s with toks := k }) : wpAny (model prog w) A (unaryOp .USub (.int (-a) t)) Q E s := by
  refine neg_int ?_
  rw [Int.neg_neg]
  exact h _ _
theorem num_some (a : Int) : ∃ c r, (num a).cps.toList = c :: r ∧ (c = 45 ↔ a < 0) := by
  by_cases h0 : 0 ≤ a
  · rw [num_nat h0]
    cases hf : figs a.toNat with
    | nil => exact absurd hf (figs_ne _)
    | cons c r =>
      have := figs_digits a.toNat c (by rw [hf]; exact .head _)
      exact ⟨c, r, rfl, by omega⟩
  · rw [num_neg (by omega)]
    exact ⟨45, _, rfl, by omega⟩
theorem slice_head (a : Int) : ∃ c, PySem.Txt.slice (num a) none (some 1) = ⟨#[c]⟩ ∧ (c = 45 ↔ a < 0) := by
  obtain ⟨c, r, e, hc⟩ := num_some a
  have hl : (1 : Int) ≤ ((num a).length : Int) := by
    rw [← len_cps, e, List.length_cons]
    omega
  have h := eq_of_beq (slice_closes_toL (x := num a) (j := 1) (by decide) hl)
  refine ⟨c, ?_, hc⟩
  rw [h, e]
  rfl
theorem eq_head {a v : Int} (hv : v = valZ (KStt.codes (num a))) (h1 : a < 0 → v = -a → Q (.bool true) s) (h2 : ¬ a < 0 → v = a → Q (.bool false) s) :
    wpAny (model prog w) A (compareOp .Eq (.str (PySem.Txt.slice (num a) none (some 1)) t) (.str (PySem.Str.ofString "-") u)) Q E s := by
  refine eq_str ?_
  rw [codes_abs] at hv
  have ed : PySem.Str.ofString "-" = ⟨#[45]⟩ := by decide
  obtain ⟨c, e, hc⟩ := slice_head a
  rw [e, ed]
  by_cases ha : a < 0
  · rw [hc.mpr ha, beq_self_eq_true]
    exact h1 ha (by omega)
  · have hne : (⟨#[c]⟩ : PySem.Str) ≠ ⟨#[45]⟩ := by
      intro hx
      have := congrArg (fun x => x.cps.toList) hx
      simp at this
      exact ha (hc.mp this)
    rw [beq_eq_false_iff_ne.mpr hne]
    exact h2 ha (by omega)
end
theorem fit_size {a : Int} (h : Fit a) : (num a).length ≤ sizeLine := by
  have := h.len
  rw [sizeLine_eq]
  omega
end Mine
end

section
open PySem PySem.W PySem.Calls PyProof.Rows
set_option maxRecDepth 100000
namespace Mine
/-- a text of a number not below nought -/
def NumV (v : Value) : Prop := ∃ (a : Int) (t : Tok), v = .str (num a) t ∧ 0 ≤ a ∧ a < 10000000000000000000000
theorem numV {a : Int} {x : PySem.Str} {t : Tok} (e : x = num a) (h0 : 0 ≤ a) (h1 : a < 10000000000000000000000) : NumV (.str x t) := ⟨a, t, by rw [e], h0, h1⟩
section
variable {prog : Program} {w : World} {A : Around} {E : Value → Shared → Prop} {s : Shared} {env : Env} {h₀ : Heap} {x : PySem.Str} {body : List Stmt} {Q : Flow → Shared → Prop}
abbrev Idle (news : List (Addr × Obj)) (x : PySem.Str) (stored : List PySem.Str) (m₀ : PySem.Str → Option Value) : (PySem.Str → Option Value) → List (Addr × Obj) → Prop :=
  KstS (fun _ : Unit => news) (fun _ => []) (fun _ => True) x stored m₀ (fun _ _ => True) []
/-- a loop over a made list, whatever its items, that keeps nothing -/
theorem idle_loop {l : Addr} {vs : List Value} {nn : Nat} {m₀ : PySem.Str → Option Value} {news : List (Addr × Obj)} (stored : List PySem.Str) (P : Value → Prop)
    (hh : A.handled = none) (hl : (l, W.listOf vs.toArray nn) ∈ news) (hv : ∀ v ∈ vs, P v) (F : Fr h₀ env.locals s.heap m₀) (N : News h₀ env.locals s.heap news)
    (turn : ∀ v (u : PySem.Str → Option Value) h tk own, P v → OwnOff own (news.map (·.1)) →
      Fr h₀ env.locals h (fun y => if y = x then some v else kstB (fun z => if stored.contains z then u z else m₀ z) [] y) → News h₀ env.locals h (news ++ own) →
      wpAny (model prog w) A (execs body env) (InvPostN h₀ env.locals (Idle news x stored m₀) own (news.map (·.1)) { s with heap := h, toks := tk } Q) E { s with heap := h, toks := tk })
    (done : ∀ (u : PySem.Str → Option Value) h tk, Fr h₀ env.locals h (fun y => if y = x then u y else kstB (fun z => if stored.contains z then u z else m₀ z) [] y) → News h₀ env.locals h news → Q .next { s with heap := h, toks := tk }) :
    wpAny (model prog w) A (pyIter (.ref l)) (fun it s₂ => LoopAtV prog w A h₀ env x body Q E it s₂) E s := by
  refine kdl_iter (fun _ m nx => Idle news x stored m₀ m nx) hh hl F N ⟨(), rfl, True.intro, (fun _ hp => nomatch hp), fun _ _ _ _ => rfl, True.intro⟩ ?_ ?_
  · rintro i v m₁ nx h tk own hi hoff _ ⟨c, e, _, h1, h2, _⟩ F₁ N₁
    have e : nx = news := e
    rw [e] at hoff N₁
    refine wpAny_mono (turn v m₁ h tk own (hv v (List.mem_of_getElem? hi)) hoff (kst_fr h1 h2 F₁) N₁) (fun f s₂ p => ?_) fun _ _ x => x
    have up : InvEndN h₀ env.locals (Idle news x stored m₀) own (news.map (·.1)) { s with heap := h, toks := tk } s₂ →
        InvEndG h₀ env.locals (fun m' nx => (l, W.listOf vs.toArray nn) ∈ nx ∧ Idle news x stored m₀ m' nx) own { s with heap := h, toks := tk } s₂ := by
      rintro ⟨h', tk', m', news', nx', e', F', N', hn', ho', ha, hS⟩
      refine ⟨h', tk', m', news', nx', e', F', N', hn', ho', ?_, ?_, hS⟩
      · obtain ⟨c', e, _⟩ := hS
        have e : nx' = news := e
        rw [e]
        exact hoff
      · obtain ⟨c', e, _⟩ := hS
        have e : nx' = news := e
        rw [e]
        exact hl
    cases f with
    | ret v => exact p
    | brk => exact p
    | next => exact up p
    | cont => exact up p
  · rintro m₁ nx h tk ⟨c, e, _, h1, h2, _⟩ F₁ N₁
    have e : nx = news := e
    rw [e] at N₁
    exact done m₁ h tk (kst_frOut h1 h2 F₁) N₁
theorem text_loop {l : Addr} {vs : List Value} {nn : Nat} {m₀ : PySem.Str → Option Value} {news : List (Addr × Obj)} (stored : List PySem.Str)
    (hh : A.handled = none) (hl : (l, W.listOf vs.toArray nn) ∈ news) (hv : ∀ v ∈ vs, NumV v) (F : Fr h₀ env.locals s.heap m₀) (N : News h₀ env.locals s.heap news)
    (turn : ∀ (a : Int) (t : Tok) (u : PySem.Str → Option Value) h tk own, 0 ≤ a → a < 10000000000000000000000 → OwnOff own (news.map (·.1)) →
      Fr h₀ env.locals h (fun y => if y = x then some (.str (num a) t) else kstB (fun z => if stored.contains z then u z else m₀ z) [] y) → News h₀ env.locals h (news ++ own) →
      wpAny (model prog w) A (execs body env) (InvPostN h₀ env.locals (Idle news x stored m₀) own (news.map (·.1)) { s with heap := h, toks := tk } Q) E { s with heap := h, toks := tk })
    (done : ∀ (u : PySem.Str → Option Value) h tk, Fr h₀ env.locals h (fun y => if y = x then u y else kstB (fun z => if stored.contains z then u z else m₀ z) [] y) → News h₀ env.locals h news → Q .next { s with heap := h, toks := tk }) :
    wpAny (model prog w) A (pyIter (.ref l)) (fun it s₂ => LoopAtV prog w A h₀ env x body Q E it s₂) E s := by
  refine idle_loop stored NumV hh hl hv F N ?_ done
  rintro v u h tk own ⟨a, t, rfl, h0, h1⟩ hoff F₁ N₁
  exact turn a t u h tk own h0 h1 hoff F₁ N₁
theorem idle_end {stored : List PySem.Str} {m₀ m' : PySem.Str → Option Value} {L : Addr} {news own news' : List (Addr × Obj)} {adr : List Addr} {s₁ : Shared} {h' : Heap} {tk : Nat}
    (F : Fr h₀ L h' m') (N : News h₀ L h' news') (hn : ∀ p ∈ news, p ∈ news') (ho : ∀ p ∈ own, p ∈ news') (ha : news.map (·.1) = adr) (hr : ∀ z, z ≠ x → stored.contains z = false → m' z = m₀ z) :
    InvEndN h₀ L (Idle news x stored m₀) own adr s₁ { s₁ with heap := h', toks := tk } :=
  InvEndN.intro F N ⟨(), rfl, True.intro, (fun _ hp => nomatch hp), fun z h1 _ h3 => hr z h1 h3, True.intro⟩ ha hn ho
end
theorem out {z y : PySem.Str} {stored : List PySem.Str} (h : stored.contains z = false) (hy : stored.contains y = true) : z ≠ y := by
  intro e
  rw [e, hy] at h
  cases h
theorem outB {z : PySem.Str} {stored : List PySem.Str} (h : stored.contains z = false) : ¬ stored.contains z = true := by
  rw [h]
  decide
end Mine
end

section
open PySem PySem.W PySem.Calls PyProof.Rows
set_option maxRecDepth 100000
namespace Mine
/-- one row of values told by another, item by item -/
inductive Row (R : Value → Value → Prop) : List Value → List Value → Prop
  | nil : Row R [] []
  | cons {v y : Value} {vs ys : List Value} : R v y → Row R vs ys → Row R (v :: vs) (y :: ys)
theorem Row.snoc {R : Value → Value → Prop} {v y : Value} (hr : R v y) : ∀ {vs ys : List Value}, Row R vs ys → Row R (vs ++ [v]) (ys ++ [y])
  | _, _, .nil => .cons hr .nil
  | _, _, .cons h r => .cons h (r.snoc hr)
theorem Row.length {R : Value → Value → Prop} : ∀ {vs ys : List Value}, Row R vs ys → ys.length = vs.length
  | _, _, .nil => rfl
  | _, _, .cons _ r => by rw [List.length_cons, List.length_cons, r.length]
theorem Row.all {R : Value → Value → Prop} {P : Value → Prop} (hp : ∀ v y, R v y → P y) : ∀ {vs ys : List Value}, Row R vs ys → ∀ y ∈ ys, P y
  | _, _, .nil, _, h => nomatch h
  | _, _, .cons h r, y, hy => by
    rcases List.mem_cons.mp hy with e | hy
    · rw [e]; exact hp _ _ h
    · exact r.all hp y hy
section
variable {prog : Program} {w : World} {A : Around} {h₀ : Heap} {L : Addr} {m : PySem.Str → Option Value} {env : Env} {elt : PySem.Expr} {x : PySem.Str} {scope : Scope} {cl : List (PySem.Str × Addr)} {s : Shared} {S : List (Addr × Obj) → Prop} {Fin : List Value → List (Addr × Obj) → Prop} {news : List (Addr × Obj)}
theorem comp_rest {its : Array Value} (R : Value → Value → Prop)
    (turn : ∀ v I oI C oC D m₂ ys h tk (E' : Value → Shared → Prop), v ∈ its.toList → LCg.NsObj oC m₂ → m₂ x = some v → Fr h₀ L h m → News h₀ L h ((I, oI) :: (C, oC) :: (D, LCg.lst ys) :: news) → LCg.Off3 I C D news → ((@Ne Nat I C) ∧ (@Ne Nat I D) ∧ (@Ne Nat C D)) →
      wpAny (model prog w) A (eval elt (compEnvC scope cl C env)) (LCg.CompEnd h₀ L m { s with heap := h, toks := tk } I oI C oC D (LCg.lst ys) S (fun y news' => news' = news ∧ R v y)) E' { s with heap := h, toks := tk })
    (fin : ∀ ys, Row R its.toList ys → Fin ys news) : LCg.CompRest prog w A h₀ L m env elt x scope cl s S (fun i v => its[i]? = some v) Fin its.size 0 [] news := by
  have key : ∀ (j i : Nat) (ys : List Value), i + j = its.size → Row R (its.toList.take i) ys → LCg.CompRest prog w A h₀ L m env elt x scope cl s S (fun i v => its[i]? = some v) Fin j i ys news := by
    intro j
    induction j with
    | zero =>
      intro i ys hi hy
      have e : i = its.toList.length := by rw [Array.length_toList]; omega
      subst e
      rw [List.take_length] at hy
      exact LCg.CompRest.zero (fin ys hy)
    | succ j ih =>
      intro i ys hi hy
      refine LCg.CompRest.succ ?_
      intro v I oI C oC D m₂ h tk E' hv hC hx F N off ne
      have hv' : its.toList[i]? = some v := by rw [Array.getElem?_toList]; exact hv
      refine wpAny_mono (turn v I oI C oC D m₂ ys h tk E' (List.mem_of_getElem? hv') hC hx F N off ne) (fun y s₂ hq => ?_) fun _ _ e => e
      obtain ⟨h', tk', nw, e, F', N', off', hS, hn, hr⟩ := hq
      rw [hn] at N' off' hS
      refine ⟨h', tk', news, e, F', N', off', hS, ih (i + 1) _ (by omega) ?_⟩
      rw [List.take_add_one, hv']
      exact Row.snoc hr hy
  exact key its.size 0 [] (by omega) (by rw [List.take_zero]; exact .nil)
/-- the figures' texts of a made row of numbers -/
theorem figs_rest {its : Array Value} (hv : ∀ v ∈ its.toList, ∃ (a : Int) (t : Tok), v = .int a t ∧ Fit a)
    (turn : ∀ (a : Int) (t : Tok) I oI C oC D m₂ ys h tk (E' : Value → Shared → Prop), Fit a → LCg.NsObj oC m₂ → m₂ x = some (.int a t) → Fr h₀ L h m → News h₀ L h ((I, oI) :: (C, oC) :: (D, LCg.lst ys) :: news) → LCg.Off3 I C D news → ((@Ne Nat I C) ∧ (@Ne Nat I D) ∧ (@Ne Nat C D)) →
      wpAny (model prog w) A (eval elt (compEnvC scope cl C env)) (LCg.CompEnd h₀ L m { s with heap := h, toks := tk } I oI C oC D (LCg.lst ys) S (fun y news' => news' = news ∧ ∃ t', y = .str (num a) t')) E' { s with heap := h, toks := tk })
    (fin : ∀ ys, Row (fun v y => ∃ (a : Int) (t t' : Tok), v = .int a t ∧ y = .str (num a) t') its.toList ys → Fin ys news) : LCg.CompRest prog w A h₀ L m env elt x scope cl s S (fun i v => its[i]? = some v) Fin its.size 0 [] news := by
  refine comp_rest (fun v y => ∃ (a : Int) (t t' : Tok), v = .int a t ∧ y = .str (num a) t') ?_ fin
  intro v I oI C oC D m₂ ys h tk E' hm hC hx F N off ne
  obtain ⟨a, t, rfl, hf⟩ := hv v hm
  refine wpAny_mono (turn a t I oI C oC D m₂ ys h tk E' hf hC hx F N off ne) (fun y s₂ hq => ?_) fun _ _ e => e
  obtain ⟨h', tk', nw, e, F', N', off', hS, hn, t', hy⟩ := hq
  exact ⟨h', tk', nw, e, F', N', off', hS, hn, a, t, t', rfl, hy⟩
theorem figs_rest1 {a : Int} {t : Tok} (ha : Fit a)
    (turn : ∀ (a : Int) (t : Tok) I oI C oC D m₂ ys h tk (E' : Value → Shared → Prop), Fit a → LCg.NsObj oC m₂ → m₂ x = some (.int a t) → Fr h₀ L h m → News h₀ L h ((I, oI) :: (C, oC) :: (D, LCg.lst ys) :: news) → LCg.Off3 I C D news → ((@Ne Nat I C) ∧ (@Ne Nat I D) ∧ (@Ne Nat C D)) →
      wpAny (model prog w) A (eval elt (compEnvC scope cl C env)) (LCg.CompEnd h₀ L m { s with heap := h, toks := tk } I oI C oC D (LCg.lst ys) S (fun y news' => news' = news ∧ ∃ t', y = .str (num a) t')) E' { s with heap := h, toks := tk })
    (fin : ∀ t', Fin [.str (num a) t'] news) : LCg.CompRest prog w A h₀ L m env elt x scope cl s S (fun i v => (#[Value.int a t] : Array Value)[i]? = some v) Fin (#[Value.int a t] : Array Value).size 0 [] news := by
  refine figs_rest ?_ turn ?_
  · intro v hv
    rw [List.mem_singleton.mp hv]
    exact ⟨a, t, rfl, ha⟩
  · intro ys h
    cases h with
    | cons h r =>
      cases r
      obtain ⟨a', t1, t', e1, e2⟩ := h
      injection e1 with e1 _
      subst e1
      subst e2
      exact fin t'
theorem figs_rest2 {a b : Int} {t u : Tok} (ha : Fit a) (hb : Fit b)
    (turn : ∀ (a : Int) (t : Tok) I oI C oC D m₂ ys h tk (E' : Value → Shared → Prop), Fit a → LCg.NsObj oC m₂ → m₂ x = some (.int a t) → Fr h₀ L h m → News h₀ L h ((I, oI) :: (C, oC) :: (D, LCg.lst ys) :: news) → LCg.Off3 I C D news → ((@Ne Nat I C) ∧ (@Ne Nat I D) ∧ (@Ne Nat C D)) →
      wpAny (model prog w) A (eval elt (compEnvC scope cl C env)) (LCg.CompEnd h₀ L m { s with heap := h, toks := tk } I oI C oC D (LCg.lst ys) S (fun y news' => news' = news ∧ ∃ t', y = .str (num a) t')) E' { s with heap := h, toks := tk })
    (fin : ∀ t' u', Fin [.str (num a) t', .str (num b) u'] news) : LCg.CompRest prog w A h₀ L m env elt x scope cl s S (fun i v => (#[Value.int a t, Value.int b u] : Array Value)[i]? = some v) Fin (#[Value.int a t, Value.int b u] : Array Value).size 0 [] news := by
  refine figs_rest ?_ turn ?_
  · intro v hv
    rcases List.mem_cons.mp hv with e | hv
    · rw [e]; exact ⟨a, t, rfl, ha⟩
    · rw [List.mem_singleton.mp hv]
      exact ⟨b, u, rfl, hb⟩
  · intro ys h
    cases h with
    | cons h r =>
      cases r with
      | cons h2 r =>
        cases r
        obtain ⟨a', t1, t', e1, e2⟩ := h
        obtain ⟨b', t2, u', e3, e4⟩ := h2
        injection e1 with e1 _
        injection e3 with e3 _
        subst e1
        subst e2
        subst e3
        subst e4
        exact fin t' u'
end
/-- texts of numbers -/
inductive NumsAre : List Value → List Int → Prop
  | nil : NumsAre [] []
  | cons (a : Int) (t : Tok) {vs : List Value} {as : List Int} : NumsAre vs as → NumsAre (.str (num a) t :: vs) (a :: as)
theorem NumsAre.at : ∀ {vs : List Value} {as : List Int}, NumsAre vs as → ∀ {i : Nat} {v : Value}, vs[i]? = some v → ∃ a t, as[i]? = some a ∧ v = .str (num a) t
  | _, _, .nil, i, v, h => by simp at h
  | _, _, .cons a t r, 0, v, h => ⟨a, t, rfl, by simpa using h.symm⟩
  | _, _, .cons a t r, i + 1, v, h => by
    have := NumsAre.at r (i := i) (v := v) (by simpa using h)
    simpa using this
theorem NumsAre.length : ∀ {vs : List Value} {as : List Int}, NumsAre vs as → vs.length = as.length
  | _, _, .nil => rfl
  | _, _, .cons _ _ r => by rw [List.length_cons, List.length_cons, r.length]
section
variable {prog : Program} {w : World} {A : Around} {E : Value → Shared → Prop} {s : Shared} {env : Env} {h₀ : Heap} {x : PySem.Str} {body : List Stmt} {Q : Flow → Shared → Prop}
def PartEnd (h₀ : Heap) (L : Addr) (x : PySem.Str) (stored : List PySem.Str) (m₀ : PySem.Str → Option Value) (D : Addr) (oD : Obj) (l : Addr) (ys : List Value) (a : Int) (tl : List (Addr × Obj)) (s₁ s₂ : Shared) : Prop :=
  ∃ h' tk m' all t k, s₂ = { s₁ with heap := h', toks := tk } ∧ Fr h₀ L h' m' ∧ News h₀ L h' all ∧ (∀ p ∈ (D, oD) :: (l, W.listOf (ys ++ [Value.int a t]).toArray k) :: tl, p ∈ all) ∧ ∀ z, z ≠ x → stored.contains z = false → m' z = m₀ z
def PartPost (h₀ : Heap) (L : Addr) (x : PySem.Str) (stored : List PySem.Str) (m₀ : PySem.Str → Option Value) (D : Addr) (oD : Obj) (l : Addr) (ys : List Value) (a : Int) (tl : List (Addr × Obj)) (s₁ : Shared) (Q : Flow → Shared → Prop) (f : Flow) (s₂ : Shared) : Prop :=
  match f with
  | .ret v => Q (.ret v) s₂
  | .brk => Q .next s₂
  | _ => PartEnd h₀ L x stored m₀ D oD l ys a tl s₁ s₂
theorem part_end {stored : List PySem.Str} {m₀ m' : PySem.Str → Option Value} {L D l : Addr} {oD : Obj} {ys : List Value} {a : Int} {t : Tok} {k : Nat} {tl all : List (Addr × Obj)} {s₁ : Shared} {h' : Heap} {tk : Nat}
    (F : Fr h₀ L h' m') (N : News h₀ L h' all) (hn : ∀ p ∈ (D, oD) :: (l, W.listOf (ys ++ [Value.int a t]).toArray k) :: tl, p ∈ all) (hr : ∀ z, z ≠ x → stored.contains z = false → m' z = m₀ z) :
    PartEnd h₀ L x stored m₀ D oD l ys a tl s₁ { s₁ with heap := h', toks := tk } := ⟨h', tk, m', all, t, k, rfl, F, N, hn, hr⟩
/-- a loop over a made list of numbers' texts that puts each number on a list -/
theorem part_loop {D l : Addr} {vs : List Value} {as : List Int} {nn k₀ : Nat} {m₀ : PySem.Str → Option Value} {news : List (Addr × Obj)} (stored : List PySem.Str)
    (hh : A.handled = none) (hv : NumsAre vs as) (F : Fr h₀ env.locals s.heap m₀) (N : News h₀ env.locals s.heap ((D, W.listOf vs.toArray nn) :: (l, W.listOf #[] k₀) :: news)) (hoff : OwnOff news [D, l]) (hf : ∀ a ∈ as, Fit a)
    (turn : ∀ (a : Int) (ta : Tok) (ys : List Value) (k : Nat) (u : PySem.Str → Option Value) h tk tl, Fit a → ys.length < as.length → OwnOff tl [D, l] →
      Fr h₀ env.locals h (fun y => if y = x then some (.str (num a) ta) else kstB (fun z => if stored.contains z then u z else m₀ z) [] y) → News h₀ env.locals h ((D, W.listOf vs.toArray nn) :: (l, W.listOf ys.toArray k) :: tl) →
      wpAny (model prog w) A (execs body env) (PartPost h₀ env.locals x stored m₀ D (W.listOf vs.toArray nn) l ys a tl { s with heap := h, toks := tk } Q) E { s with heap := h, toks := tk })
    (done : ∀ (ys : List Value) (k : Nat) (u : PySem.Str → Option Value) h tk, IntsAre ys as → Fr h₀ env.locals h (fun y => if y = x then u y else kstB (fun z => if stored.contains z then u z else m₀ z) [] y) → News h₀ env.locals h ((D, W.listOf vs.toArray nn) :: (l, W.listOf ys.toArray k) :: news) → Q .next { s with heap := h, toks := tk }) :
    wpAny (model prog w) A (pyIter (.ref D)) (fun it s₂ => LoopAtV prog w A h₀ env x body Q E it s₂) E s := by
  refine kdl_iter (fun i m nx => ∃ (ys : List Value) (k : Nat), nx = (D, W.listOf vs.toArray nn) :: (l, W.listOf ys.toArray k) :: news ∧ IntsAre ys (as.take i) ∧ ∀ z, z ≠ x → stored.contains z = false → m z = m₀ z) hh (.head _) F N ⟨[], k₀, rfl, (by rw [List.take_zero]; exact .nil), fun _ _ _ => rfl⟩ ?_ ?_
  · rintro i v m₁ nx h tk own hi hoffO _ ⟨ys, k, e, hI, h2⟩ F₁ N₁
    rw [e] at hoffO N₁
    obtain ⟨a, ta, ha, rfl⟩ := hv.at hi
    have hlt : i < as.length := (List.getElem?_eq_some_iff.mp ha).1
    have hyl : ys.length < as.length := by
      rw [hI.length, List.length_take]
      omega
    have hs : as.take (i + 1) = as.take i ++ [a] := by rw [List.take_add_one, ha]; rfl
    have htl : OwnOff (news ++ own) [D, l] := by
      intro p hp b hb
      rcases List.mem_append.mp hp with hp | hp
      · exact hoff p hp b hb
      · refine hoffO p hp b ?_
        rcases List.mem_cons.mp hb with e | hb
        · rw [e]; exact .head _
        · rw [List.mem_singleton.mp hb]; exact .tail _ (.head _)
    refine wpAny_mono (turn a ta ys k m₁ h tk (news ++ own) (hf a (List.mem_of_getElem? ha)) hyl htl (kst_fr (ps := []) (fun _ hp => nomatch hp) (fun z h1 _ h3 => h2 z h1 h3) F₁) N₁) (fun f s₂ p => ?_) fun _ _ x => x
    have up : PartEnd h₀ env.locals x stored m₀ D (W.listOf vs.toArray nn) l ys a (news ++ own) { s with heap := h, toks := tk } s₂ →
        InvEndG h₀ env.locals (fun m' nx => (D, W.listOf vs.toArray nn) ∈ nx ∧ ∃ (ys : List Value) (k : Nat), nx = (D, W.listOf vs.toArray nn) :: (l, W.listOf ys.toArray k) :: news ∧ IntsAre ys (as.take (i + 1)) ∧ ∀ z, z ≠ x → stored.contains z = false → m' z = m₀ z) own { s with heap := h, toks := tk } s₂ := by
      rintro ⟨h', tk', m', all, t, k', e', F', N', hn, hr⟩
      refine ⟨h', tk', m', all, (D, W.listOf vs.toArray nn) :: (l, W.listOf (ys ++ [Value.int a t]).toArray k') :: news, e', F', N', ?_, ?_, hoffO, .head _, ys ++ [Value.int a t], k', rfl, ?_, hr⟩
      · intro p hp
        refine hn p ?_
        rcases List.mem_cons.mp hp with e | hp
        · rw [e]; exact .head _
        · rcases List.mem_cons.mp hp with e | hp
          · rw [e]; exact .tail _ (.head _)
          · exact .tail _ (.tail _ (List.mem_append.mpr (.inl hp)))
      · intro p hp
        exact hn p (.tail _ (.tail _ (List.mem_append.mpr (.inr hp))))
      · rw [hs]
        exact IntsAre.append hI (.cons a t .nil)
    cases f with
    | ret v => exact p
    | brk => exact p
    | next => exact up p
    | cont => exact up p
  · rintro m₁ nx h tk ⟨ys, k, e, hI, h2⟩ F₁ N₁
    rw [e] at N₁
    rw [hv.length, List.take_length] at hI
    exact done ys k m₁ h tk hI (kst_frOut (ps := []) (fun _ hp => nomatch hp) (fun z h1 _ h3 => h2 z h1 h3) F₁) N₁
end
end Mine
end

section
open PySem PySem.W PyProof.Rows
namespace Mine
abbrev Claim2 (w : World) (mean : ExcName → Option Value) (mg mb : PySem.Str → Option Value) (f : Addr) (news : List (Addr × Obj)) (pre : Prop) (vs : List Value) (R : Tok → Value) : Prop :=
  CbClaim PySem.Challenge.rw_dm0048_02.row.prog w (hd02.heap_39 w.params) hd02.view_39 (looseW hd02.view_39 []) mean mg mb f news [] pre vs R
/-- what the two defs write of a stretch that begins behind a lines and has c -/
def uni2 (a c : Int) : PySem.Str := if c = 1 then num (a + 1) else if c = 0 then num a ++ comma ++ num 0 else num (a + 1) ++ comma ++ num c
def con2 (a c : Int) : PySem.Str := if c = 0 then num a else if c ≤ 1 then num (a + 1) else num (a + 1) ++ comma ++ num (a + c)
theorem uniA {a c : Int} (h : c = 1) : num (a + 1) = uni2 a c := by unfold uni2; rw [if_pos h]
theorem uniB {a c : Int} (h : c ≠ 1) (h0 : c ≠ 0) : num (a + 1) ++ comma ++ num c = uni2 a c := by unfold uni2; rw [if_neg h, if_neg h0]
theorem uniC {a c : Int} (h : c = 0) : num (a + 1 - 1) ++ comma ++ num c = uni2 a c := by
  subst h
  unfold uni2
  rw [if_neg (by decide), if_pos rfl, Int.add_sub_cancel]
theorem conA {a c : Int} (h : c = 0) : num (a + 1 - 1) = con2 a c := by unfold con2; rw [if_pos h, Int.add_sub_cancel]
theorem conB {a c : Int} (h0 : c ≠ 0) (h : c ≤ 1) : num (a + 1) = con2 a c := by
  unfold con2
  rw [if_neg h0, if_pos h]
theorem conC {a c : Int} (h : ¬ c ≤ 1) : num (a + 1) ++ comma ++ num (a + 1 + c - 1) = con2 a c := by
  unfold con2
  rw [if_neg (by omega), if_neg h]
  have e : a + 1 + c - 1 = a + c := by omega
  rw [e]
end Mine
local macro_rules | `(tactic| walk_at "call builtin:str.format") => `(tactic| (k_here; first | ((refine Mine.fmt1 (by exact Mine.fit_of (by omega) (by omega)) ?_); intro _ _) | ((refine Mine.fmt2 (by exact Mine.fit_of (by omega) (by omega)) (by exact Mine.fit_of (by omega) (by omega)) ?_); intro _ _)))
set_option maxRecDepth 100000 in
set_option maxHeartbeats 8000000 in
theorem Mine.uni2_ok (w : World) (mean : ExcName → Option Value) (mg mb : PySem.Str → Option Value) (news : List (Addr × Obj)) (a b : Int) (t u : Tok) :
    Mine.Claim2 w mean mg mb 21 news ((-1000000000000000000000000000000000000000000 < a ∧ a < 1000000000000000000000000000000000000000000) ∧ -1000000000000000000000000000000000000000000 < b ∧ b < 1000000000000000000000000000000000000000000) [.int a t, .int b u] (fun t => .str (Mine.uni2 a (b - a)) t) := by
  w_on
  w_strict (unfold Mine.Claim2; dsimp only [CbClaim, CbLists, CbRet]; k_fill; intros; rename_i hpre _ _ hret; obtain ⟨⟨ha0, ha1⟩, hb0, hb1⟩ := hpre; refine wpAny_call ?_; (k_dflt cell_enter); k_steps; (all_goals (refine cb_retS hret ?_ (by k_asm) (by k_asm))); (all_goals (with_reducible first | exact Mine.uniA (by omega) | exact Mine.uniB (by omega) (by omega) | exact Mine.uniC (by omega))))
set_option maxRecDepth 100000 in
set_option maxHeartbeats 8000000 in
theorem Mine.con2_ok (w : World) (mean : ExcName → Option Value) (mg mb : PySem.Str → Option Value) (news : List (Addr × Obj)) (a b : Int) (t u : Tok) :
    Mine.Claim2 w mean mg mb 28 news ((-1000000000000000000000000000000000000000000 < a ∧ a < 1000000000000000000000000000000000000000000) ∧ -1000000000000000000000000000000000000000000 < b ∧ b < 1000000000000000000000000000000000000000000) [.int a t, .int b u] (fun t => .str (Mine.con2 a (b - a)) t) := by
  w_on
  w_strict (unfold Mine.Claim2; dsimp only [CbClaim, CbLists, CbRet]; k_fill; intros; rename_i hpre _ _ hret; obtain ⟨⟨ha0, ha1⟩, hb0, hb1⟩ := hpre; refine wpAny_call ?_; (k_dflt cell_enter); k_steps; (all_goals (refine cb_retS hret ?_ (by k_asm) (by k_asm))); (all_goals (with_reducible first | exact Mine.conA (by omega) | exact Mine.conB (by omega) (by omega) | exact Mine.conC (by omega))))
end

section
open PySem PySem.W PyProof.Rows
namespace Mine
section
variable {prog : Program} {w : World} {A : Around} {E : Value → Shared → Prop} {s : Shared} {Q : Value → Shared → Prop} {t u : Tok}
theorem call_abs {a : Int} (h : ∀ u tk, Q (.int (a.natAbs : Int) u) { s with toks := tk }) : wpAny (model prog w) A (call (.builtin "abs") [.int a t]) Q E s := by
  refine call_abs_int fun u tk => ?_
  have e : (if a < 0 then -a else a) = (a.natAbs : Int) := by
    split <;> omega
  rw [e]
  exact h u tk
theorem eq_none {x : PySem.Str} (h1 : x.length = 0 → Q (.bool true) s) (h2 : x.length ≠ 0 → Q (.bool false) s) : wpAny (model prog w) A (compareOp .Eq (.str x t) (.str (PySem.Str.ofString "") u)) Q E s := by
  refine eq_str ?_
  have ez : (PySem.Str.ofString "") = ⟨#[]⟩ := by decide
  by_cases e : x.length = 0
  · have hx : x = PySem.Str.ofString "" := by
      rw [ez]
      apply PySem.Str.ext'
      exact Array.eq_empty_of_size_eq_zero e
    rw [hx, beq_self_eq_true]
    exact h1 e
  · have hne : x ≠ PySem.Str.ofString "" := by
      intro hx
      rw [hx] at e
      exact e rfl
    rw [beq_eq_false_iff_ne.mpr hne]
    exact h2 e
end
theorem w_size {n : Nat} {rest : Int} {text : PySem.Str} (h : WInv n rest text) (hn : (figs n).length ≤ 51) (r : Int) : (PySem.Txt.item ten r).length + text.length ≤ sizeLine := by
  have h1 := w_len h hn
  have h2 : (PySem.Txt.item ten r).length ≤ 1 := Nat.le_refl _
  rw [sizeLine_eq]
  omega
theorem one_size {text : PySem.Str} {n : Nat} (hn : (figs n).length ≤ 51) (h : text.cps.toList = figs n) : (PySem.Str.ofString "-").length + text.length ≤ sizeLine := by
  rw [sizeLine_eq, ← len_cps text, h]
  have : (PySem.Str.ofString "-").length = 1 := by decide
  omega
def meas (rest : Int) (text : PySem.Str) : Nat := rest.toNat + (if text.length = 0 then 1 else 0)
theorem meas_turn {n : Nat} {rest : Int} {text : PySem.Str} (h : WInv n rest text) (ht : rest > 0 ∨ text.length = 0) : meas (rest.fdiv 10) (PySem.Txt.item ten (rest.fmod 10) ++ text) < meas rest text := by
  have h0 := h.1
  have e : (PySem.Txt.item ten (rest.fmod 10) ++ text).length ≠ 0 := by
    rw [PySem.Str.length_append]
    have : (PySem.Txt.item ten (rest.fmod 10)).length = 1 := rfl
    omega
  have ed : rest.fdiv 10 = rest / 10 := Int.fdiv_eq_ediv_of_nonneg _ (by decide)
  unfold meas
  rw [if_neg e, ed]
  split <;> omega
end Mine
local macro_rules | `(tactic| walk_at "call builtin:abs") => `(tactic| (k_here; (refine Mine.call_abs ?_); intro _ _))
local macro_rules | `(tactic| walk_at "compareOp Eq str str") => `(tactic| (k_here; (refine Mine.eq_none (fun hq8 => ?_) (fun hq8 => ?_))))
local macro_rules | `(tactic| walk_at "binaryOp Add str str") => `(tactic| (k_here; first | ((with_reducible refine add_str ?_ (Mine.w_size (by assumption) (by assumption) _)); intro _ _) | ((refine add_str ?_ (Mine.one_size (by assumption) (Mine.w_end (by assumption) (by omega) (by omega)))); intro _ _)))
set_option maxRecDepth 100000 in
set_option maxHeartbeats 8000000 in
theorem Mine.figs2_ok (w : World) (mean : ExcName → Option Value) (mg mb : PySem.Str → Option Value) (news : List (Addr × Obj)) (a : Int) (t : Tok) :
    Mine.Claim2 w mean mg mb 35 news (Mine.Fit a) [.int a t] (fun t => .str (Mine.num a) t) := by
  k_with "exec While BoolOp cons nil" => k_while (fun _ rest text => Mine.WInv a.natAbs rest text) (fun _ rest text => Mine.meas rest text) "rest" "text"
  k_with "state" => first | exact Mine.w_start _ | exact Mine.w_turn (by assumption) (by first | (left; omega) | (right; omega))
  k_with "measure" => exact Mine.meas_turn (by assumption) (by first | (left; omega) | (right; omega))
  w_on
  w_strict (unfold Mine.Claim2; dsimp only [CbClaim, CbLists, CbRet]; k_fill; intros; rename_i hpre _ _ hret; (have hfl := Mine.figs_fit hpre); refine wpAny_call ?_; (k_dflt cell_enter); k_steps; (all_goals (refine' cb_retS hret ?e1 ?e2 ?e3; (case e2 => k_asm); (case e3 => k_asm); (case e1 => with_reducible first | exact Mine.text_neg (by omega) (Mine.w_end (by assumption) (by omega) (by omega)) | exact Mine.text_num (by omega) (Mine.w_end (by assumption) (by omega) (by omega))))))
end

section
open PySem PySem.W PyProof.Rows
namespace Mine
/-- a def's contract that hands back a new list -/
abbrev ClaimL (w : World) (mean : ExcName → Option Value) (mg mb : PySem.Str → Option Value) (f : Addr) (news : List (Addr × Obj)) (pre : Prop) (vs : List Value) (Ret : (h₀ : Heap) → (L : Addr) → (m : PySem.Str → Option Value) → Shared → (Value → Shared → Prop) → Prop) : Prop :=
  ∀ (dp un : Nat) (gd : Option (List Code)) (cn : PySem.Str) (cs : Scope) (a : Addr) (ccd : Value) (cl : List (PySem.Str × Addr)) (outer : List Env) (A₀ : Around) (base h₀ : Heap) (L : Addr) (m : PySem.Str → Option Value) (s : Shared) (Q E : Value → Shared → Prop),
    Below A₀ base outer h₀ → Fr h₀ L s.heap m → (hd02.heap_39 w.params).In h₀ → News h₀ L s.heap news → Top hd02.view_39 (looseW hd02.view_39 []) mean mg mb h₀ → cs.kind = .function →
    pre → dp + 3 < recursionLimit → un + 24 < cLine → Ret h₀ L m s Q →
      wpAny (model PySem.Challenge.rw_dm0048_02.row.prog w) (ktrTop dp un gd cn cs L a ccd cl outer) (call (.ref f) vs) Q E s
section
variable {w : World} {mean : ExcName → Option Value} {mg mb : PySem.Str → Option Value} {news : List (Addr × Obj)} {dp un : Nat} {gd : Option (List Code)} {cn : PySem.Str} {cs : Scope} {a' : Addr} {ccd : Value} {cl : List (PySem.Str × Addr)} {outer : List Env} {A₀ : Around} {base h₀ : Heap} {L : Addr} {m : PySem.Str → Option Value} {s : Shared} {Q E : Value → Shared → Prop}
theorem figs2_call {a : Int} {t : Tok} (k1 : Below A₀ base outer h₀) (k2 : Fr h₀ L s.heap m) (k3 : (hd02.heap_39 w.params).In h₀) (k4 : News h₀ L s.heap news) (k5 : Top hd02.view_39 (looseW hd02.view_39 []) mean mg mb h₀) (kK : cs.kind = .function)
    (kp : Fit a) (kd : dp + 1 < recursionLimit) (ku : un + 8 < cLine)
    (kR : ∀ (t : Tok) (h' : Heap) (tk' : Nat), Fr h₀ L h' m → News h₀ L h' news → Q (.str (num a) t) { s with heap := h', toks := tk' }) :
    wpAny (model PySem.Challenge.rw_dm0048_02.row.prog w) (ktrTop dp un gd cn cs L a' ccd cl outer) (call (.ref 35) [.int a t]) Q E s :=
  figs2_ok w mean mg mb news a t dp un gd cn cs a' ccd cl outer A₀ base h₀ L m s Q E k1 k2 k3 k4 k5 kK kp kd ku kR
theorem off_two {D l : Addr} {news : List (Addr × Obj)} (h1 : ∀ p ∈ news, p.1 < l) (h2 : l < D ∧ AllLt D news) : OwnOff news [D, l] := by
  intro p hp b hb
  have := h1 p hp
  rcases List.mem_cons.mp hb with e | hb
  · rw [e]; exact Nat.ne_of_lt (Nat.lt_trans this h2.1)
  · rw [List.mem_singleton.mp hb]; exact Nat.ne_of_lt this
theorem src_led {h₀ : Heap} {ax : Addr} {its : Array Value} {k : Nat} {news : List (Addr × Obj)} (hm : (ax, W.listOf its k) ∈ news) : LCg.SrcAt h₀ ax its news := .inr ⟨_, hm, rfl, _, rfl⟩
theorem fit1 {a : Int} (h : Fit a) : ∀ z ∈ [a], Fit z := by
  intro z hz
  rw [List.mem_singleton.mp hz]
  exact h
theorem fit2 {a b : Int} (h : Fit a) (hb : Fit b) : ∀ z ∈ [a, b], Fit z := by
  intro z hz
  rcases List.mem_cons.mp hz with e | hz
  · rw [e]; exact h
  · rw [List.mem_singleton.mp hz]; exact hb
end
end Mine
local macro_rules | `(tactic| walk_at "call builtin:str.split") => `(tactic| (k_here; (with_reducible show wpAny _ _ (call (Value.builtin "str.split") _) _ _ _); (first | (refine KSpl.split1 (by k_asm) (by k_asm) (by decide) ?_ (Mine.len_one (by assumption))) | (refine KSpl.split1 (by k_asm) (by k_asm) (by decide) ?_ (Mine.len_two (by assumption) (by assumption)))); (intro D' l' h' k' e' a' F' N' l1); (try k_lt l1); (first | rw [Mine.split_two] at e' | rw [Mine.split_one] at e'); (kspl_open e'); (simp only [strValues, List.map_cons, List.map_nil] at N' a')))
local macro_rules | `(tactic| walk_at "compareOp NotEq str str") => `(tactic| (k_here; (with_reducible refine Mine.ne_dash (fun hq8 => ?_) (fun hq8 => ?_))))
local macro_rules | `(tactic| walk_at "call builtin:str.find") => `(tactic| (k_here; refine Mine.call_find (by exact (Mine.code_range2 (by assumption) (by assumption)).1) (by exact (Mine.code_range2 (by assumption) (by assumption)).2) ?_))
local macro_rules | `(tactic| walk_at "InvEndN") => `(tactic| (k_here; kst_close))
local macro_rules | `(tactic| walk_at "pyIter ref") => `(tactic| ((with_reducible show wpAny _ _ (pyIter (Value.ref _)) (fun it s₂ => LoopAtV _ _ _ _ _ _ _ _ _ it s₂) _ _); k_here; (rename Fr _ _ _ _ => lF'); (rename News _ _ _ _ => lN'); (with_unfolding_all refine' Mine.part_loop [PySem.Str.ofString "value", PySem.Str.ofString "sign"] ?k1 ?k2 lF' lN' ?k4 ?k5 ?_ ?_; (case k1 => rfl); (case k2 => (first | exact .cons _ _ .nil | exact .cons _ _ (.cons _ _ .nil))); (case k4 => exact Mine.off_two (by assumption) (by assumption)); (case k5 => first | exact Mine.fit1 (by assumption) | exact Mine.fit2 (by assumption) (by assumption))); (all_goals (try clear lF' lN')); (rotate_left 1; (intro kYs kK kU kH kTk kI kFr kNews); (have kMark := kstMark); (try dsimp only [kstB] at kFr); (first | (obtain ⟨tA', eA'⟩ := Mine.ints1 kI) | (obtain ⟨tA', tB', eA'⟩ := Mine.ints2 kI)); subst eA'; clear kI; (try k_fold); rotate_left 1; (intro kA kT kYs kK kU kH kTk kOwn kMem kLen kOff kFr kNews); (have kMark := kstMark); (simp only [List.length_cons, List.length_nil] at kLen); (try dsimp only [kstB] at kFr); (try k_fold))))
local macro_rules | `(tactic| walk_at "PartPost") => `(tactic| (dsimp only [Mine.PartPost]))
local macro_rules | `(tactic| walk_at "PartEnd") => `(tactic| (k_here; (rename News _ _ _ _ => nE'); (try simp only [List.push_toArray] at nE'); (refine' Mine.part_end ?k1 nE' ?k3 ?k6; (case k1 => assumption); (case k3 => first | kst_in | kst_inAny); (case k6 => ((intro z h1 h3); (repeat (first | refine Eq.trans (if_neg h1) ?_ | refine Eq.trans (if_neg (Mine.out h3 (by decide))) ?_ | refine Eq.trans (if_neg (Mine.outB h3)) ?_)); exact rfl)))))
local macro_rules | `(tactic| walk_at "subscriptTail Name Slice str ref") => `(tactic| (k_here; (rename Fr _ _ _ _ => lF'); (rename News _ _ _ _ => lN'); (refine slice_strN_ns (hsz := ?hsz) (s := ⟨_, _, _, _, _⟩) lF' lN' ?_); (case hsz => exact Mine.fit_size (by assumption)); intro _ _ _ _ _))
local macro_rules | `(tactic| walk_at "compareOp Eq str str") => `(tactic| (k_here; (refine' Mine.eq_head ?hv (fun hq8 hv8 => ?_) (fun hq8 hv8 => ?_); (case hv => assumption)); (all_goals subst hv8)))
local macro_rules | `(tactic| walk_at "unaryOp USub int") => `(tactic| (k_here; (with_reducible refine Mine.neg_back ?_); intro _ _))
local macro_rules | `(tactic| walk_at "call ref") => `(tactic| (k_here; (with_reducible show wpAny _ _ (call (Value.ref 35) [Value.int _ _]) _ _ _); k_dflt (refine' Mine.figs2_call ?k1 ?k2 ?k3 ?k4 ?k5 ?kK ?kp ?kd ?ku ?_; (case k1 => k_asm); (case k2 => k_asm); (case k3 => k_asm); (case k4 => k_asm); (case k5 => k_asm); (case kK => first | exact rfl | assumption); (case kp => assumption); (case kd => ktr_room); (case ku => ktr_units)); intro t9 h9 tk9 F9 N9; (try dsimp only); (try k_fold)))
local macro_rules | `(tactic| walk_at "compareOp NotEq str str") => `(tactic| (k_here; with_reducible refine Mine.ne_alike (by rfl) ?_))
local macro_rules | `(tactic| walk_at "call builtin:str.join") => `(tactic| (k_here; (show wpAny _ _ (call (Value.builtin "str.join") [Value.str _ _, Value.ref _]) _ _ _); (first | (refine Mine.join1 (by is_list) (by assumption) ?_) | (refine Mine.join2 (by is_list) (by assumption) (by assumption) ?_)); intro _ _))
local macro_rules | `(tactic| walk_at "call builtin:list.append") => `(tactic| (k_here; (show wpAny _ _ (call (Value.builtin "list.append") [Value.ref _, Value.int _ _]) _ _ _); (k_dflt (refine' append_K ?k1 ?k2 ?k3 ?_ ?z; (case k1 => k_asm); (case k2 => k_asm); (case k3 => k_upd); (case z => (rw [PySem.sizeLine_eq]; (simp only [List.size_toArray]); omega)); k_whole); intro h' F' N'; (try k_sweep))))
local macro_rules | `(tactic| walk_at "CompEnd") => `(tactic| (k_here; (refine LCg.CompEnd.intro (by first | assumption | k_asm | (with_unfolding_all assumption)) (by first | assumption | k_asm | (with_unfolding_all assumption)) _ (fun _ hp => hp) (by first | assumption | (simp only [LCg.Off3, and_true]; done) | (simp only [LCg.Off3, and_true]; assumption)) (by first | lcg_src | exact Mine.src_led (by kcf_m)) ?_)))
set_option maxRecDepth 100000 in
set_option maxHeartbeats 8000000 in
theorem Mine.numbers1_ok (w : World) (mean : ExcName → Option Value) (mg mb : PySem.Str → Option Value) (news : List (Addr × Obj)) (a : Int) (t : Tok) :
    Mine.ClaimL w mean mg mb 40 news (Mine.Fit a) [.str (Mine.num a) t] (fun h₀ L m s Q => ∀ (D : Addr) (t' : Tok) (n : Nat) (h' : Heap) (tk' : Nat), Fr h₀ L h' m → News h₀ L h' ((D, W.listOf #[.int a t'] n) :: news) → Q (.ref D) { s with heap := h', toks := tk' }) := by
  k_with "pyIter str" => k_state (fun pre value => value = Mine.valZ pre) "value"
  k_with "state" => first | (exact rfl) | exact Mine.valZ_sign (by assumption) (by assumption) | exact Mine.valZ_fig (by assumption) (by assumption)
  w_on
  w_strict (unfold Mine.ClaimL; dsimp only; k_fill; intros; rename_i hpre _ _ hret; refine wpAny_call ?_; (k_dflt cell_enter); k_steps; (all_goals (refine' hret _ _ _ _ _ ?e2 ?e3; (case e2 => k_asm); (case e3 => (refine' cb_drop ?cbN ?cbS; (case cbN => assumption); (case cbS => kcj_all))))))
set_option maxRecDepth 100000 in
set_option maxHeartbeats 8000000 in
theorem Mine.numbers2_ok (w : World) (mean : ExcName → Option Value) (mg mb : PySem.Str → Option Value) (news : List (Addr × Obj)) (a b : Int) (t : Tok) :
    Mine.ClaimL w mean mg mb 40 news (Mine.Fit a ∧ Mine.Fit b) [.str (Mine.num a ++ Mine.comma ++ Mine.num b) t] (fun h₀ L m s Q => ∀ (D : Addr) (t' u' : Tok) (n : Nat) (h' : Heap) (tk' : Nat), Fr h₀ L h' m → News h₀ L h' ((D, W.listOf #[.int a t', .int b u'] n) :: news) → Q (.ref D) { s with heap := h', toks := tk' }) := by
  k_with "pyIter str" => k_state (fun pre value => value = Mine.valZ pre) "value"
  k_with "state" => first | (exact rfl) | exact Mine.valZ_sign (by assumption) (by assumption) | exact Mine.valZ_fig (by assumption) (by assumption)
  w_on
  w_strict (unfold Mine.ClaimL; dsimp only; k_fill; intros; rename_i hpre _ _ hret; (obtain ⟨hfa, hfb⟩ := hpre); refine wpAny_call ?_; (k_dflt cell_enter); k_steps; (all_goals (refine' hret _ _ _ _ _ _ ?e2 ?e3; (case e2 => k_asm); (case e3 => (refine' cb_drop ?cbN ?cbS; (case cbN => assumption); (case cbS => kcj_all))))))
end

section
open PySem PySem.W PyProof.Rows
namespace Mine
def InB (B : Int) (a : Int) : Prop := -B < a ∧ a < B
section
variable {prog : Program} {w : World} {A : Around} {h₀ : Heap} {L : Addr} {m : PySem.Str → Option Value} {env : Env} {elt : PySem.Expr} {x : PySem.Str} {scope : Scope} {cl : List (PySem.Str × Addr)} {s : Shared} {S : List (Addr × Obj) → Prop} {Fin : List Value → List (Addr × Obj) → Prop} {news : List (Addr × Obj)}
theorem rows_ints {B : Int} : ∀ {vs ys : List Value}, Row (fun _ y => ∃ (a : Int) (t : Tok), y = .int a t ∧ InB B a) vs ys → ∃ ms, IntsAre ys ms ∧ (∀ n ∈ ms, InB B n) ∧ ms.length = vs.length
  | _, _, .nil => ⟨[], .nil, (fun _ h => nomatch h), rfl⟩
  | _, _, .cons ⟨a, t, e, hb⟩ r => by
    obtain ⟨ms, h1, h2, h3⟩ := rows_ints r
    subst e
    refine ⟨a :: ms, .cons a t h1, ?_, by rw [List.length_cons, List.length_cons, h3]⟩
    intro n hn
    rcases List.mem_cons.mp hn with e | hn
    · rw [e]; exact hb
    · exact h2 n hn
theorem marks_rest {B : Int} {vs : List Value} {ns : List Int} (hi : IntsAre vs ns)
    (turn : ∀ (k : Int) (t : Tok) I oI C oC D m₂ ys h tk (E' : Value → Shared → Prop), LCg.NsObj oC m₂ → m₂ x = some (.int k t) → Fr h₀ L h m → News h₀ L h ((I, oI) :: (C, oC) :: (D, LCg.lst ys) :: news) → LCg.Off3 I C D news → ((@Ne Nat I C) ∧ (@Ne Nat I D) ∧ (@Ne Nat C D)) →
      wpAny (model prog w) A (eval elt (compEnvC scope cl C env)) (LCg.CompEnd h₀ L m { s with heap := h, toks := tk } I oI C oC D (LCg.lst ys) S (fun y news' => news' = news ∧ ∃ (a : Int) (t : Tok), y = .int a t ∧ InB B a)) E' { s with heap := h, toks := tk })
    (fin : ∀ ys ms, IntsAre ys ms → (∀ n ∈ ms, InB B n) → ms.length = ns.length → Fin ys news) : LCg.CompRest prog w A h₀ L m env elt x scope cl s S (fun i v => vs.toArray[i]? = some v) Fin vs.toArray.size 0 [] news := by
  refine comp_rest (fun _ y => ∃ (a : Int) (t : Tok), y = .int a t ∧ InB B a) ?_ ?_
  · intro v I oI C oC D m₂ ys h tk E' hm hC hx F N off ne
    obtain ⟨i, hi'⟩ := List.getElem?_of_mem hm
    obtain ⟨k, t, e, _⟩ := IntsAre.at hi i v (by simpa using hi')
    subst e
    exact turn k t I oI C oC D m₂ ys h tk E' hC hx F N off ne
  · intro ys hr
    obtain ⟨ms, h1, h2, h3⟩ := rows_ints hr
    exact fin ys ms h1 h2 (by rw [h3]; exact hi.length)
end
theorem mark_up (x : Int) : InB 10000000000000000000000000000000000000000 ((x.natAbs : Int).fmod (10 ^ Int.toNat 40) * 1) := by
  have h1 := fmod_lo (x.natAbs : Int) (show (0 : Int) < 10 ^ Int.toNat 40 by decide)
  have h2 := fmod_hi (x.natAbs : Int) (show (0 : Int) < 10 ^ Int.toNat 40 by decide)
  have e : (10 : Int) ^ Int.toNat 40 = 10000000000000000000000000000000000000000 := by decide
  rw [e] at h1 h2 ⊢
  unfold InB
  omega
theorem mark_down (x : Int) : InB 10000000000000000000000000000000000000000 ((x.natAbs : Int).fmod (10 ^ Int.toNat 40) * -1) := by
  have h1 := fmod_lo (x.natAbs : Int) (show (0 : Int) < 10 ^ Int.toNat 40 by decide)
  have h2 := fmod_hi (x.natAbs : Int) (show (0 : Int) < 10 ^ Int.toNat 40 by decide)
  have e : (10 : Int) ^ Int.toNat 40 = 10000000000000000000000000000000000000000 := by decide
  rw [e] at h1 h2 ⊢
  unfold InB
  omega
theorem in_cons {B a : Int} {ms : List Int} (h : InB B a) (r : ∀ n ∈ ms, InB B n) : ∀ n ∈ a :: ms, InB B n := by
  intro n hn
  rcases List.mem_cons.mp hn with e | hn
  · rw [e]; exact h
  · exact r n hn
theorem in_more {B C : Int} {ms : List Int} (h : B ≤ C) (r : ∀ n ∈ ms, InB B n) : ∀ n ∈ ms, InB C n := by
  intro n hn
  have := r n hn
  unfold InB at *
  omega
section
variable {prog : Program} {w : World} {A : Around} {E : Value → Shared → Prop} {s : Shared} {env : Env} {h₀ : Heap} {x : PySem.Str} {body : List Stmt} {Q : Flow → Shared → Prop}
theorem int_loop {l : Addr} {vs : List Value} {ns : List Int} {nn : Nat} {m₀ : PySem.Str → Option Value} {news : List (Addr × Obj)} (B : Int) (stored : List PySem.Str)
    (hh : A.handled = none) (hl : (l, W.listOf vs.toArray nn) ∈ news) (hi : IntsAre vs ns) (hb : ∀ n ∈ ns, InB B n) (F : Fr h₀ env.locals s.heap m₀) (N : News h₀ env.locals s.heap news)
    (turn : ∀ (a : Int) (t : Tok) (u : PySem.Str → Option Value) h tk own, -B < a → a < B → OwnOff own (news.map (·.1)) →
      Fr h₀ env.locals h (fun y => if y = x then some (.int a t) else kstB (fun z => if stored.contains z then u z else m₀ z) [] y) → News h₀ env.locals h (news ++ own) →
      wpAny (model prog w) A (execs body env) (InvPostN h₀ env.locals (Idle news x stored m₀) own (news.map (·.1)) { s with heap := h, toks := tk } Q) E { s with heap := h, toks := tk })
    (done : ∀ (u : PySem.Str → Option Value) h tk, Fr h₀ env.locals h (fun y => if y = x then u y else kstB (fun z => if stored.contains z then u z else m₀ z) [] y) → News h₀ env.locals h news → Q .next { s with heap := h, toks := tk }) :
    wpAny (model prog w) A (pyIter (.ref l)) (fun it s₂ => LoopAtV prog w A h₀ env x body Q E it s₂) E s := by
  refine idle_loop stored (fun v => ∃ (a : Int) (t : Tok), v = .int a t ∧ InB B a) hh hl ?_ F N ?_ done
  · intro v hv
    obtain ⟨i, hi'⟩ := List.getElem?_of_mem hv
    obtain ⟨k, t, e, hk⟩ := IntsAre.at hi i v hi'
    exact ⟨k, t, e, hb k (List.mem_of_getElem? hk)⟩
  · rintro v u h tk own ⟨a, t, rfl, h0⟩ hoff F₁ N₁
    exact turn a t u h tk own h0.1 h0.2 hoff F₁ N₁
end
section
variable {w : World} {mean : ExcName → Option Value} {mg mb : PySem.Str → Option Value} {news : List (Addr × Obj)} {dp un : Nat} {gd : Option (List Code)} {cn : PySem.Str} {cs : Scope} {a' : Addr} {ccd : Value} {cl : List (PySem.Str × Addr)} {outer : List Env} {A₀ : Around} {base h₀ : Heap} {L : Addr} {m : PySem.Str → Option Value} {s : Shared} {Q E : Value → Shared → Prop}
theorem uni2_call {a b : Int} {t u : Tok} (k1 : Below A₀ base outer h₀) (k2 : Fr h₀ L s.heap m) (k3 : (hd02.heap_39 w.params).In h₀) (k4 : News h₀ L s.heap news) (k5 : Top hd02.view_39 (looseW hd02.view_39 []) mean mg mb h₀) (kK : cs.kind = .function)
    (p1 : -1000000000000000000000000000000000000000000 < a) (p2 : a < 1000000000000000000000000000000000000000000) (p3 : -1000000000000000000000000000000000000000000 < b) (p4 : b < 1000000000000000000000000000000000000000000) (kd : dp + 1 < recursionLimit) (ku : un + 8 < cLine)
    (kA : ∀ (t : Tok) (h' : Heap) (tk' : Nat), b = a + 1 → Fr h₀ L h' m → News h₀ L h' news → Q (.str (num (a + 1)) t) { s with heap := h', toks := tk' })
    (kB : ∀ (t : Tok) (h' : Heap) (tk' : Nat), b = a → Fr h₀ L h' m → News h₀ L h' news → Q (.str (num a ++ comma ++ num 0) t) { s with heap := h', toks := tk' })
    (kC : ∀ (t : Tok) (h' : Heap) (tk' : Nat), b < a → Fr h₀ L h' m → News h₀ L h' news → Q (.str (num (a + 1) ++ comma ++ num (b - a)) t) { s with heap := h', toks := tk' })
    (kD : ∀ (t : Tok) (h' : Heap) (tk' : Nat), b > a + 1 → Fr h₀ L h' m → News h₀ L h' news → Q (.str (num (a + 1) ++ comma ++ num (b - a)) t) { s with heap := h', toks := tk' }) :
    wpAny (model PySem.Challenge.rw_dm0048_02.row.prog w) (ktrTop dp un gd cn cs L a' ccd cl outer) (call (.ref 21) [.int a t, .int b u]) Q E s := by
  refine uni2_ok w mean mg mb news a b t u dp un gd cn cs a' ccd cl outer A₀ base h₀ L m s Q E k1 k2 k3 k4 k5 kK ⟨⟨p1, p2⟩, p3, p4⟩ kd ku ?_
  intro t h' tk' F N
  show Q (.str (uni2 a (b - a)) t) _
  unfold uni2
  by_cases h1 : b - a = 1
  · rw [if_pos h1]
    exact kA t h' tk' (by omega) F N
  · rw [if_neg h1]
    by_cases h0 : b - a = 0
    · rw [if_pos h0]
      exact kB t h' tk' (by omega) F N
    · rw [if_neg h0]
      by_cases hlt : b < a
      · exact kC t h' tk' hlt F N
      · exact kD t h' tk' (by omega) F N
theorem con2_call {a b : Int} {t u : Tok} {x : PySem.Str} (hx : x = con2 a (b - a)) (k1 : Below A₀ base outer h₀) (k2 : Fr h₀ L s.heap m) (k3 : (hd02.heap_39 w.params).In h₀) (k4 : News h₀ L s.heap news) (k5 : Top hd02.view_39 (looseW hd02.view_39 []) mean mg mb h₀) (kK : cs.kind = .function)
    (p1 : -1000000000000000000000000000000000000000000 < a) (p2 : a < 1000000000000000000000000000000000000000000) (p3 : -1000000000000000000000000000000000000000000 < b) (p4 : b < 1000000000000000000000000000000000000000000) (kd : dp + 1 < recursionLimit) (ku : un + 8 < cLine)
    (kR : ∀ (t : Tok) (h' : Heap) (tk' : Nat), Fr h₀ L h' m → News h₀ L h' news → Q (.str x t) { s with heap := h', toks := tk' }) :
    wpAny (model PySem.Challenge.rw_dm0048_02.row.prog w) (ktrTop dp un gd cn cs L a' ccd cl outer) (call (.ref 28) [.int a t, .int b u]) Q E s := by
  subst hx
  exact con2_ok w mean mg mb news a b t u dp un gd cn cs a' ccd cl outer A₀ base h₀ L m s Q E k1 k2 k3 k4 k5 kK ⟨⟨p1, p2⟩, p3, p4⟩ kd ku kR
theorem con2A {a b : Int} (h : b = a) : num a = con2 a (b - a) := by
  unfold con2
  rw [if_pos (by omega)]
theorem con2B {a b : Int} (h0 : b ≠ a) (h : b ≤ a + 1) : num (a + 1) = con2 a (b - a) := by
  unfold con2
  rw [if_neg (by omega), if_pos (by omega)]
theorem con2C {a b : Int} (h : b > a + 1) : num (a + 1) ++ comma ++ num b = con2 a (b - a) := by
  unfold con2
  rw [if_neg (by omega), if_neg (by omega)]
  have e : a + (b - a) = b := by omega
  rw [e]
theorem numbers1_call {a : Int} {t : Tok} (k1 : Below A₀ base outer h₀) (k2 : Fr h₀ L s.heap m) (k3 : (hd02.heap_39 w.params).In h₀) (k4 : News h₀ L s.heap news) (k5 : Top hd02.view_39 (looseW hd02.view_39 []) mean mg mb h₀) (kK : cs.kind = .function)
    (p1 : Fit a) (kd : dp + 3 < recursionLimit) (ku : un + 24 < cLine)
    (kR : ∀ (D : Addr) (t' : Tok) (n : Nat) (h' : Heap) (tk' : Nat), Fr h₀ L h' m → News h₀ L h' ((D, W.listOf #[.int a t'] n) :: news) → Q (.ref D) { s with heap := h', toks := tk' }) :
    wpAny (model PySem.Challenge.rw_dm0048_02.row.prog w) (ktrTop dp un gd cn cs L a' ccd cl outer) (call (.ref 40) [.str (num a) t]) Q E s :=
  numbers1_ok w mean mg mb news a t dp un gd cn cs a' ccd cl outer A₀ base h₀ L m s Q E k1 k2 k3 k4 k5 kK p1 kd ku kR
theorem numbers2_call {a b : Int} {t : Tok} (k1 : Below A₀ base outer h₀) (k2 : Fr h₀ L s.heap m) (k3 : (hd02.heap_39 w.params).In h₀) (k4 : News h₀ L s.heap news) (k5 : Top hd02.view_39 (looseW hd02.view_39 []) mean mg mb h₀) (kK : cs.kind = .function)
    (p1 : Fit a) (p2 : Fit b) (kd : dp + 3 < recursionLimit) (ku : un + 24 < cLine)
    (kR : ∀ (D : Addr) (t' u' : Tok) (n : Nat) (h' : Heap) (tk' : Nat), Fr h₀ L h' m → News h₀ L h' ((D, W.listOf #[.int a t', .int b u'] n) :: news) → Q (.ref D) { s with heap := h', toks := tk' }) :
    wpAny (model PySem.Challenge.rw_dm0048_02.row.prog w) (ktrTop dp un gd cn cs L a' ccd cl outer) (call (.ref 40) [.str (num a ++ comma ++ num b) t]) Q E s :=
  numbers2_ok w mean mg mb news a b t dp un gd cn cs a' ccd cl outer A₀ base h₀ L m s Q E k1 k2 k3 k4 k5 kK ⟨p1, p2⟩ kd ku kR
end
end Mine
end

open PySem PySem.W PyProof.Rows
local macro_rules | `(tactic| walk_at "call ref") => `(tactic| (k_here; (with_reducible show wpAny _ _ (call (Value.ref 21) [Value.int _ _, Value.int _ _]) _ _ _); k_dflt (refine' Mine.uni2_call ?k1 ?k2 ?k3 ?k4 ?k5 ?kK ?p1 ?p2 ?p3 ?p4 ?kd ?ku ?_ ?_ ?_ ?_; (case k1 => k_asm); (case k2 => k_asm); (case k3 => k_asm); (case k4 => k_asm); (case k5 => k_asm); (case kK => first | exact rfl | assumption); (case p1 => omega); (case p2 => omega); (case p3 => omega); (case p4 => omega); (case kd => ktr_room); (case ku => ktr_units)); (all_goals (intro t9 h9 tk9 hq9 F9 N9; (try dsimp only); (try k_fold)))))
local macro_rules | `(tactic| walk_at "call ref") => `(tactic| (k_here; (with_reducible show wpAny _ _ (call (Value.ref 28) [Value.int _ _, Value.int _ _]) _ _ _); k_dflt (refine' Mine.con2_call (Mine.con2A (by omega)) ?k1 ?k2 ?k3 ?k4 ?k5 ?kK ?p1 ?p2 ?p3 ?p4 ?kd ?ku ?_; (case k1 => k_asm); (case k2 => k_asm); (case k3 => k_asm); (case k4 => k_asm); (case k5 => k_asm); (case kK => first | exact rfl | assumption); (case p1 => omega); (case p2 => omega); (case p3 => omega); (case p4 => omega); (case kd => ktr_room); (case ku => ktr_units)); intro t9 h9 tk9 F9 N9; (try dsimp only); (try k_fold)))
local macro_rules | `(tactic| walk_at "call ref") => `(tactic| (k_here; (with_reducible show wpAny _ _ (call (Value.ref 28) [Value.int _ _, Value.int _ _]) _ _ _); k_dflt (refine' Mine.con2_call (Mine.con2B (by omega) (by omega)) ?k1 ?k2 ?k3 ?k4 ?k5 ?kK ?p1 ?p2 ?p3 ?p4 ?kd ?ku ?_; (case k1 => k_asm); (case k2 => k_asm); (case k3 => k_asm); (case k4 => k_asm); (case k5 => k_asm); (case kK => first | exact rfl | assumption); (case p1 => omega); (case p2 => omega); (case p3 => omega); (case p4 => omega); (case kd => ktr_room); (case ku => ktr_units)); intro t9 h9 tk9 F9 N9; (try dsimp only); (try k_fold)))
local macro_rules | `(tactic| walk_at "call ref") => `(tactic| (k_here; (with_reducible show wpAny _ _ (call (Value.ref 28) [Value.int _ _, Value.int _ _]) _ _ _); k_dflt (refine' Mine.con2_call (Mine.con2C (by omega)) ?k1 ?k2 ?k3 ?k4 ?k5 ?kK ?p1 ?p2 ?p3 ?p4 ?kd ?ku ?_; (case k1 => k_asm); (case k2 => k_asm); (case k3 => k_asm); (case k4 => k_asm); (case k5 => k_asm); (case kK => first | exact rfl | assumption); (case p1 => omega); (case p2 => omega); (case p3 => omega); (case p4 => omega); (case kd => ktr_room); (case ku => ktr_units)); intro t9 h9 tk9 F9 N9; (try dsimp only); (try k_fold)))
local macro_rules | `(tactic| walk_at "call ref") => `(tactic| (k_here; (with_reducible show wpAny _ _ (call (Value.ref 40) [Value.str (Mine.num _) _]) _ _ _); k_dflt (refine' Mine.numbers1_call ?k1 ?k2 ?k3 ?k4 ?k5 ?kK ?p1 ?kd ?ku ?_; (case k1 => k_asm); (case k2 => k_asm); (case k3 => k_asm); (case k4 => k_asm); (case k5 => k_asm); (case kK => first | exact rfl | assumption); (case p1 => exact Mine.fit_of (by omega) (by omega)); (case kd => ktr_room); (case ku => ktr_units)); intro D9 t9 n9 h9 tk9 F9 N9; (try dsimp only); (try k_fold)))
local macro_rules | `(tactic| walk_at "call ref") => `(tactic| (k_here; (with_reducible show wpAny _ _ (call (Value.ref 40) [Value.str (Mine.num _ ++ Mine.comma ++ Mine.num _) _]) _ _ _); k_dflt (refine' Mine.numbers2_call ?k1 ?k2 ?k3 ?k4 ?k5 ?kK ?p1 ?p2 ?kd ?ku ?_; (case k1 => k_asm); (case k2 => k_asm); (case k3 => k_asm); (case k4 => k_asm); (case k5 => k_asm); (case kK => first | exact rfl | assumption); (case p1 => exact Mine.fit_of (by omega) (by omega)); (case p2 => exact Mine.fit_of (by omega) (by omega)); (case kd => ktr_room); (case ku => ktr_units)); intro D9 t9 u9 n9 h9 tk9 F9 N9; (try dsimp only); (try k_fold)))
local macro_rules | `(tactic| walk_at "call builtin:abs") => `(tactic| (k_here; (refine Mine.call_abs ?_); intro _ _))
local macro_rules | `(tactic| walk_at "eval ListComp") => `(tactic| (k_here; k_dflt (refine LCg.ListComp_U (F₀ := by k_asm) (by with_unfolding_all rfl) (by decide) (by rfl) (by decide) (by rfl) ?_)))
local macro_rules | `(tactic| walk_at "CompSrc") => `(tactic| (k_here; k_dflt (refine LCg.CompSrc.base (by rfl) (by k_asm) (by k_asm) (by assumption) (by size_fits) ?_; intro g'; (refine' Mine.marks_rest (B := 10000000000000000000000000000000000000000) (by assumption) (fun k' t' I' oI' C' oC' D' m' ys' h' tk' E' hC' hx' F' N' off' ne' => ?_) (fun ys' ms' hI' hB' hL' => ?_)); (all_goals (try (simp only [LCg.Off3, and_true] at off'))); (all_goals (try k_fold)))))
local macro_rules | `(tactic| walk_at "CompEnd") => `(tactic| (k_here; (refine' LCg.CompEnd.intro ?F ?N _ ?sub ?off ?src ⟨rfl, _, _, rfl, ?b⟩; (case F => first | assumption | k_asm | (with_unfolding_all assumption)); (case N => first | assumption | k_asm | (with_unfolding_all assumption)); (case sub => kcf_all); (case off => first | assumption | (simp only [LCg.Off3, and_true]; done) | (simp only [LCg.Off3, and_true]; assumption)); (case src => first | lcg_src | assumption | exact Or.inl (by assumption)); (case b => first | exact Mine.mark_up _ | exact Mine.mark_down _))))
local macro_rules | `(tactic| walk_at "pyIter ref") => `(tactic| ((with_reducible show wpAny _ _ (pyIter (Value.ref _)) (fun it s₂ => LoopAtV _ _ _ _ _ _ _ _ _ it s₂) _ _); k_here; (rename Fr _ _ _ _ => lF'); (rename News _ _ _ _ => lN'); (with_unfolding_all refine' Mine.int_loop 100000000000000000000000000000000000000000 [PySem.Str.ofString "stop", PySem.Str.ofString "one", PySem.Str.ofString "two"] ?k1 ?k2 ?k3 ?k4 lF' lN' ?_ ?_; (case k1 => rfl); (case k2 => k_memK); (case k3 => assumption); (case k4 => exact Mine.in_cons (by exact ⟨by omega, by omega⟩) (Mine.in_cons (by exact ⟨by omega, by omega⟩) (Mine.in_cons (by exact ⟨by omega, by omega⟩) (Mine.in_cons (by exact ⟨by omega, by omega⟩) (Mine.in_cons (by exact ⟨by omega, by omega⟩) (Mine.in_cons (by exact ⟨by omega, by omega⟩) (Mine.in_more (B := 10000000000000000000000000000000000000000) (by decide) (by assumption))))))))); (all_goals (try clear lF' lN')); (rotate_left 1; (intro kU kH kTk kFr kNews); (have kMark := kstMark); (try dsimp only [kstB] at kFr); (try dsimp only at kNews); (try k_fold); rotate_left 1; (intro kA kT kU kH kTk kOwn kLo kHi kOff kFr kNews); (have kMark := kstMark); (try dsimp only [kstB] at kFr); (try dsimp only at kNews); (try simp only [List.nil_append, List.cons_append, List.append_nil] at kNews); (try simp only [List.map_cons, List.map_nil] at kOff); (try k_fold))))
local macro_rules | `(tactic| walk_at "pyIter ref") => `(tactic| ((with_reducible show wpAny _ _ (pyIter (Value.ref _)) (fun it s₂ => LoopAtV _ _ _ _ _ _ _ _ _ it s₂) _ _); k_here; (rename Fr _ _ _ _ => lF'); (rename News _ _ _ _ => lN'); (with_unfolding_all refine' Mine.int_loop 10000000000000000000000000000000000000000 [PySem.Str.ofString "stop", PySem.Str.ofString "one", PySem.Str.ofString "two"] ?k1 ?k2 ?k3 ?k4 lF' lN' ?_ ?_; (case k1 => rfl); (case k2 => k_memK); (case k3 => assumption); (case k4 => exact Mine.in_cons (by exact ⟨by omega, by omega⟩) (Mine.in_cons (by exact ⟨by omega, by omega⟩) (by assumption)))); (all_goals (try clear lF' lN')); (rotate_left 1; (intro kU kH kTk kFr kNews); (have kMark := kstMark); (try dsimp only [kstB] at kFr); (try dsimp only at kNews); (try k_fold); rotate_left 1; (intro kA kT kU kH kTk kOwn kLo kHi kOff kFr kNews); (have kMark := kstMark); (try dsimp only [kstB] at kFr); (try dsimp only at kNews); (try simp only [List.nil_append, List.cons_append, List.append_nil] at kNews); (try simp only [List.map_cons, List.map_nil] at kOff); (try k_fold))))
local macro_rules | `(tactic| walk_at "exec For Name Name cons nil") => `(tactic| (k_here; (rename Fr _ _ _ _ => lF'); (with_unfolding_all refine' For_invVF lF' ?k1 ?k2 ?_; (case k1 => exact rfl); (case k2 => exact rfl); k_whole)))
local macro_rules | `(tactic| walk_at "exec For Name BinOp cons nil") => `(tactic| (k_here; (rename Fr _ _ _ _ => lF'); (with_unfolding_all refine' For_invVF lF' ?k1 ?k2 ?_; (case k1 => exact rfl); (case k2 => exact rfl); k_whole)))
local macro_rules | `(tactic| walk_at "InvEndN") => `(tactic| (k_here; (rename News _ _ _ _ => nE'); (refine' Mine.idle_end ?k1 nE' ?k3 ?k4 ?k5 ?k6; (case k1 => assumption); (case k3 => first | kst_in | kst_inAny); (case k4 => first | (intro p hp; kst_mem) | kst_anyIn); (case k5 => rfl); (case k6 => ((intro z h1 h3); (repeat (first | refine Eq.trans (if_neg h1) ?_ | refine Eq.trans (if_neg (Mine.out h3 (by decide))) ?_ | refine Eq.trans (if_neg (Mine.outB h3)) ?_)); exact rfl)))))
local macro_rules | `(tactic| walk_at "no such key") => `(tactic| fail "none")
set_option maxRecDepth 100000 in
set_option maxHeartbeats 8000000 in
theorem PySem.Challenge.cw_dm0048_02_holds : PySem.Challenge.rw_dm0048_02.Holds := by
  k_with_none
  exact Mine.hd02 (by k_go0; (all_goals try k_fold); k_steps)
