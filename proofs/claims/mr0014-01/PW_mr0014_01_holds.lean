import PyProof.Rows.All
import Wide.All
import OpenK.AllK
import Wide.FinOn
import PySem.Challenge.RW_mr0014_01
open PySem PySem.W PyProof.Rows
set_option Elab.async false
set_option linter.unusedVariables false
set_option linter.unusedSimpArgs false
namespace Mine

/- the head -/
set_option maxRecDepth 100000 in
set_option maxHeartbeats 8000000 in
open_top hd for PySem.Challenge.rw_mr0014_01

/- the plain law -/
def fstDiv (ns : List Int) (x : Int) : Nat := ns.findIdx (fun y => x.fmod y == 0)
def leftAt (ns : List Int) (j : Nat) : List Int := ns.filter (fun x => decide (j ≤ fstDiv ns x))
def heapAt (ns : List Int) (j : Nat) : List Int := ns.filter (fun x => fstDiv ns x == j)
def toldAt (ns : List Int) (j : Nat) : List (List Int) := ((List.range j).filter (fun q => fstDiv ns (ns.getD q 0) == q)).map (heapAt ns)

theorem fmod_iff {a b : Int} : a.fmod b = 0 ↔ b ∣ a := (Int.dvd_iff_fmod_eq_zero ..).symm

section
variable {ns : List Int} {x : Int}
theorem fst_le {q : Nat} (hq : q < ns.length) (h : ns[q] ∣ x) : fstDiv ns x ≤ q := by
  rcases Nat.lt_or_ge q (fstDiv ns x) with h1 | h1
  · have h2 := List.not_of_lt_findIdx h1
    rw [fmod_iff.mpr h] at h2
    simp at h2
  · exact h1
theorem fst_lt (hx : x ∈ ns) : fstDiv ns x < ns.length := List.findIdx_lt_length.mpr ⟨x, hx, by simp⟩
theorem fst_dvd (hx : x ∈ ns) : ns[fstDiv ns x]'(fst_lt hx) ∣ x := by
  have h2 := List.findIdx_getElem (xs := ns) (p := fun y => x.fmod y == 0) (w := fst_lt hx)
  exact fmod_iff.mp (beq_iff_eq.mp h2)
theorem fst_self {q : Nat} (hq : q < ns.length) : fstDiv ns ns[q] ≤ q := fst_le hq (Int.dvd_refl _)
theorem fst_head (hx : x ∈ ns) : fstDiv ns (ns[fstDiv ns x]'(fst_lt hx)) = fstDiv ns x := by
  have h1 := fst_self (fst_lt hx)
  have hm : ns[fstDiv ns x]'(fst_lt hx) ∈ ns := List.getElem_mem _
  have h2 := fst_le (fst_lt hm) (Int.dvd_trans (fst_dvd hm) (fst_dvd hx))
  omega
end

theorem told_succ (ns : List Int) (j : Nat) (hj : j < ns.length) : toldAt ns (j + 1) = toldAt ns j ++ (if fstDiv ns ns[j] = j then [heapAt ns j] else []) := by
  unfold toldAt
  rw [List.range_succ, List.filter_append, List.map_append]
  congr 1
  have e : ns.getD j 0 = ns[j] := by simp [List.getD, hj]
  by_cases h : fstDiv ns ns[j] = j
  · simp [hj, h]
  · simp [hj, h]

theorem left_skip (ns : List Int) (j : Nat) (hj : j < ns.length) (h : fstDiv ns ns[j] ≠ j) : leftAt ns (j + 1) = leftAt ns j := by
  refine List.filter_congr fun x hx => ?_
  have h1 : fstDiv ns x ≠ j := fun e => by
    have h2 := fst_head hx
    simp only [e] at h2
    exact h h2
  simp only [decide_eq_decide]
  omega
theorem left_head (ns : List Int) (j : Nat) (hj : j < ns.length) (h : fstDiv ns ns[j] = j) : ∃ r, leftAt ns j = ns[j] :: r := by
  have e : ns = ns.take j ++ ns[j] :: ns.drop (j + 1) := by simp
  have e1 : (ns.take j).filter (fun x => decide (j ≤ fstDiv ns x)) = [] := by
    refine List.filter_eq_nil_iff.mpr fun x hx => ?_
    obtain ⟨q, hq, rfl⟩ := List.mem_take_iff_getElem.mp hx
    have h2 := fst_self (ns := ns) (q := q) (by omega)
    simp only [decide_eq_true_eq]
    omega
  refine ⟨(ns.drop (j + 1)).filter (fun x => decide (j ≤ fstDiv ns x)), ?_⟩
  have e2 : leftAt ns j = (ns.take j ++ ns[j] :: ns.drop (j + 1)).filter (fun x => decide (j ≤ fstDiv ns x)) := by rw [← e]; rfl
  rw [e2, List.filter_append, e1, List.nil_append, List.filter_cons]
  simp [h]
theorem left_yes (ns : List Int) (j : Nat) (hj : j < ns.length) : (leftAt ns j).filter (fun x => x.fmod ns[j] == 0) = heapAt ns j := by
  unfold leftAt heapAt
  rw [List.filter_filter]
  refine List.filter_congr fun x hx => ?_
  by_cases hd : ns[j] ∣ x
  · have h1 := fst_le hj hd
    rw [fmod_iff.mpr hd]
    by_cases e : fstDiv ns x = j
    · simp [e]
    · have : ¬ j ≤ fstDiv ns x := by omega
      simp [e, this]
  · have h1 : ¬ x.fmod ns[j] = 0 := fun e => hd (fmod_iff.mp e)
    have h2 : fstDiv ns x ≠ j := fun e => by
      have h3 := fst_dvd hx
      simp only [e] at h3
      exact hd h3
    rw [beq_eq_false_iff_ne.mpr h1, beq_eq_false_iff_ne.mpr h2]
    rfl
theorem left_no (ns : List Int) (j : Nat) (hj : j < ns.length) : (leftAt ns j).filter (fun x => !(x.fmod ns[j] == 0)) = leftAt ns (j + 1) := by
  unfold leftAt
  rw [List.filter_filter]
  refine List.filter_congr fun x hx => ?_
  by_cases hd : ns[j] ∣ x
  · have h1 := fst_le hj hd
    have : ¬ j + 1 ≤ fstDiv ns x := by omega
    rw [fmod_iff.mpr hd, decide_eq_false this]
    rfl
  · have h1 : ¬ x.fmod ns[j] = 0 := fun e => hd (fmod_iff.mp e)
    have h2 : fstDiv ns x ≠ j := fun e => by
      have h3 := fst_dvd hx
      simp only [e] at h3
      exact hd h3
    by_cases h3 : j ≤ fstDiv ns x
    · have : j + 1 ≤ fstDiv ns x := by omega
      simp [h1, h3, this]
    · have : ¬ j + 1 ≤ fstDiv ns x := by omega
      simp [h3, this]
theorem left_end (ns : List Int) (j : Nat) (hj : ns.length ≤ j) : leftAt ns j = [] := by
  refine List.filter_eq_nil_iff.mpr fun x hx => ?_
  have := fst_lt hx
  simp only [decide_eq_true_eq]
  omega
theorem left_zero (ns : List Int) : leftAt ns 0 = ns := by
  unfold leftAt; simp

/-- what stands between two turns of the sieve -/
def Sieve (ns : List Int) (i : Nat) (hs : List (List Int)) (left : List Int) : Prop := ∃ j, i ≤ j ∧ j ≤ ns.length ∧ hs = toldAt ns j ∧ left = leftAt ns j

theorem sieve_start (ns : List Int) : Sieve ns 0 [] ns := ⟨0, Nat.le_refl _, Nat.zero_le _, by simp [toldAt], (left_zero ns).symm⟩

theorem seek (ns : List Int) : ∀ (d j : Nat), ns.length - j = d → j ≤ ns.length →
    (leftAt ns j = [] ∧ toldAt ns ns.length = toldAt ns j) ∨
    ∃ q, ∃ hq : q < ns.length, j ≤ q ∧ leftAt ns j = leftAt ns q ∧ toldAt ns j = toldAt ns q ∧ fstDiv ns ns[q] = q := by
  intro d
  induction d with
  | zero =>
    intro j hd hj
    have e : j = ns.length := by omega
    exact .inl ⟨left_end ns j (by omega), by rw [e]⟩
  | succ d ih =>
    intro j hd hj
    have hj' : j < ns.length := by omega
    by_cases h : fstDiv ns ns[j] = j
    · exact .inr ⟨j, hj', Nat.le_refl _, rfl, rfl, h⟩
    · have e1 := left_skip ns j hj' h
      have e2 : toldAt ns (j + 1) = toldAt ns j := by rw [told_succ ns j hj', if_neg h, List.append_nil]
      rcases ih (j + 1) (by omega) (by omega) with ⟨a, b⟩ | ⟨q, hq, a, b, c, e⟩
      · exact .inl ⟨by rw [← e1]; exact a, by rw [b, e2]⟩
      · exact .inr ⟨q, hq, by omega, by rw [← e1]; exact b, by rw [← e2]; exact c, e⟩

theorem sieve_more {ns : List Int} {i : Nat} {hs : List (List Int)} {v : Int} {r left : List Int} (h : Sieve ns i hs left) (hl : left = v :: r) :
    Sieve ns (i + 1) (hs ++ [left.filter (fun x => x.fmod v == 0)]) (left.filter (fun x => !(x.fmod v == 0))) := by
  obtain ⟨j, hi, hj, rfl, rfl⟩ := h
  rcases seek ns _ j rfl hj with ⟨a, _⟩ | ⟨q, hq, h1, h2, h3, h4⟩
  · rw [a] at hl; cases hl
  · obtain ⟨r', e⟩ := left_head ns q hq h4
    have hv : v = ns[q] := by rw [h2, e] at hl; exact ((List.cons.inj hl).1).symm
    subst hv
    refine ⟨q + 1, by omega, hq, ?_, ?_⟩
    · rw [told_succ ns q hq, if_pos h4, ← h3, h2, left_yes]
    · rw [h2, left_no]
theorem sieve_stop {ns : List Int} {i : Nat} {hs : List (List Int)} (h : Sieve ns i hs []) (hi : i < ns.length) : Sieve ns (i + 1) hs [] := by
  obtain ⟨j, hi', hj, rfl, e⟩ := h
  rcases seek ns _ j rfl hj with ⟨a, b⟩ | ⟨q, hq, h1, h2, h3, h4⟩
  · exact ⟨ns.length, hi, Nat.le_refl _, b.symm, (left_end ns _ (Nat.le_refl _)).symm⟩
  · obtain ⟨r', e'⟩ := left_head ns q hq h4
    rw [h2, e'] at e; cases e
theorem sieve_end {ns : List Int} {hs : List (List Int)} {left : List Int} (h : Sieve ns ns.length hs left) : hs = toldAt ns ns.length := by
  obtain ⟨j, hi, hj, rfl, _⟩ := h
  have e : j = ns.length := by omega
  rw [e]
theorem sieve_sub {ns : List Int} {i : Nat} {hs : List (List Int)} {left : List Int} (h : Sieve ns i hs left) : left.length ≤ ns.length ∧ (∀ x ∈ left, x ∈ ns) := by
  obtain ⟨j, _, _, _, rfl⟩ := h
  exact ⟨List.length_filter_le _ _, fun x hx => (List.mem_filter.mp hx).1⟩
theorem foldl_pick (ns : List Int) (p : Int → Bool) : ∀ n, n ≤ ns.length → (List.range n).foldl (fun l i => if p (ns.getD i 0) = true then l ++ [ns.getD i 0] else l) [] = (ns.take n).filter p := by
  intro n
  induction n with
  | zero => intro _; rfl
  | succ n ih =>
    intro hn
    have hn' : n < ns.length := hn
    have e : ns.getD n 0 = ns[n] := by simp [List.getD, hn']
    rw [List.range_succ, List.foldl_append, ih (by omega), List.take_add_one, List.getElem?_eq_getElem hn', List.filter_append, List.foldl_cons, List.foldl_nil, e]
    by_cases h : p ns[n] = true
    · simp [h]
    · simp [h]
theorem heap_fold (ns : List Int) (q : Nat) : ((List.range ns.length).map (fun (i : Nat) => (0 : Int) + (i : Int))).foldl (fun l k => if (fstDiv ns (ns.getD k.toNat 0) == q) = true then l ++ [ns.getD k.toNat 0] else l) [] = heapAt ns q := by
  rw [List.foldl_map]
  have e : ∀ i : Nat, ((0 : Int) + (i : Int)).toNat = i := fun i => by omega
  simp only [e]
  rw [foldl_pick ns (fun x => fstDiv ns x == q) ns.length (Nat.le_refl _), List.take_length]
  rfl
theorem sieve_len {ns : List Int} {i : Nat} {hs : List (List Int)} {left : List Int} (h : Sieve ns i hs left) : hs.length ≤ ns.length := by
  obtain ⟨j, _, hj, rfl, _⟩ := h
  unfold toldAt
  rw [List.length_map]
  exact Nat.le_trans (List.length_filter_le _ _) (by simpa using hj)

/- _law_first -/
section
local macro_rules | `(tactic| walk_at "MF") => `(tactic| repeat' ((fail_if_success (with_reducible show wpAny _ _ (call (Value.ref _) _ _) _ _ _)); (fail_if_success (with_reducible show wpAny _ _ (exec (Stmt.While _ _ _ _) _) _ _ _)); (fail_if_success (with_reducible show wpAny _ _ (subscriptTail _ _ (Value.ref _) (Value.int _ _)) _ _ _)); (fail_if_success (with_reducible show wpAny _ _ (binaryOp Operator.Mod (Value.int _ _) (Value.int _ _)) _ _ _)); (first | (k_unfold; (try dsimp only)) | (k_end; wrow_close) | walk1 | (dsimp only; walk1) | (leave1; walk_say "STEP leave1"; try dsimp only) | fail "no step")))

theorem item_ints {prog : Program} {w : World} {A : Around} {s : Shared} {value slice : PySem.Expr} {l : Addr} {vs : List Value} {ns : List Int} {k : Int} {u : Tok} {x : Int} {Q : Value → Shared → Prop} {E : Value → Shared → Prop}
    (hs : subscripted slice false (.ref l) (.int k u) = operate [.ref l, .int k u] (getItem (.ref l) (.int k u)))
    (hl : s.heap.IsList l vs.toArray) (hi : IntsAre vs ns) (h0 : 0 ≤ k) (hhi : k < 2 ^ 63) (hx : ns[k.toNat]? = some x) (h : ∀ t, Q (.int x t) s) :
    wpAny (model prog w) A (subscriptTail value slice (.ref l) (.int k u)) Q E s := by
  obtain ⟨t, ht⟩ := hi.get _ _ hx
  exact tail_any hl.typeIs slot_list_getitem.lookup (wpAny_getItem_list hl h0 hhi (by simpa using ht) (h t)) hs

theorem upd_same {x : Str} {v v' : Option Value} {m : Str → Option Value} : (fun y => if y = x then v else (if y = x then v' else m y)) = fun y => if y = x then v else m y := by
  funext y
  by_cases h : y = x <;> simp [h]

set_option maxRecDepth 100000 in
set_option maxHeartbeats 8000000 in
theorem first_call : ∀ {w : World} {s : Shared} {base h₀ : Heap} {outer : List Env} {A₀ A : Around} {env : Env} {L : Addr} {m mg mb : Str → Option Value} {news : List (Addr × Obj)} {p : Program} {loose : List Str} {mean : ExcName → Option Value}
    {D : Addr} {vs : List Value} {ns : List Int} {n : Nat} {k : Int} {t : Tok} {Q : Value → Shared → Prop} {E : Value → Shared → Prop}
    (B : Below A₀ base outer h₀) (F : Fr h₀ L s.heap m) (X : (hd.heap_39 w.params).In h₀) (N : News h₀ L s.heap news) (T : Top p loose mean mg mb h₀)
    (hA : A.frames = some (env :: outer)) (hf : env.frame = some L) (hke : env.scope.kind = .function) (hdep : A.depth < recursionLimit)
    (hm : (D, W.listOf vs.toArray n) ∈ news) (hi : IntsAre vs ns) (hmem : k ∈ ns) (h0 : ∀ x ∈ ns, x ≠ 0) (hsz : ns.length ≤ 100)
    (h : ∀ h' tk t', Fr h₀ L h' m → News h₀ L h' news → Q (.int (ns.findIdx (fun y => k.fmod y == 0) : Nat) t') { s with heap := h', toks := tk }),
    wpAny (model PySem.Challenge.rw_mr0014_01.row.prog w) A (call (.ref 42) [.ref D, .int k t]) Q E s := by
  w_top off
  k_fill
  intro w s base h₀ outer A₀ A env L m mg mb news p loose mean D vs ns n k t Q E B F X N T hA hf hke hdep hm hi hmem h0 hsz h
  have hidx : ns.findIdx (fun y => k.fmod y == 0) < ns.length := List.findIdx_lt_length.mpr ⟨k, hmem, by simp⟩
  refine wpAny_call ?_
  refine' code_def (binds := [("row", .ref D), ("x", .int k t)]) B F X N T hA hf hke ?k6 ?k7 hdep ?k9 ?kB ?_ ?c2 ?c3 ?c4 ?c5
  case k6 => k_is
  case k7 => k_is
  case k9 => exact BindsTo.of_eq rfl
  case kB => exact locs rfl
  case c2 => exact rfl
  case c3 => exact rfl
  case c4 => exact rfl
  case c5 => decide
  intro g' L' h' FG' F' N' B' X' T'
  try dsimp only
  walk_at "MF"
  refine While_inv2 (fun q m₁ nx => nx = news ∧ ∃ (i : Nat) (t' : Tok), q = ns.length - i ∧ i ≤ ns.findIdx (fun y => k.fmod y == 0) ∧ m₁ = fun y => if y = Str.ofString "place" then some (Value.int i t') else ([("row", Value.ref D), ("x", Value.int k t)] : List (Str × Value)).reverse.lookup y) (by k_asm) (by k_asm) ⟨rfl, 0, _, rfl, Nat.zero_le _, rfl⟩ ?_
  rintro q m₁ nx h₁ tk₁ F₁ N₁ ⟨rfl, i, t', rfl, hle, rfl⟩
  walk_at "MF"
  have hi1 : i < ns.length := Nat.lt_of_le_of_lt hle hidx
  refine item_ints (x := ns[i]) (by with_unfolding_all rfl) (N₁.isList hm) hi (Int.natCast_nonneg _) (by omega) (by simp [hi1]) fun t₂ => ?_
  refine mod_int' (h0 _ (List.getElem_mem hi1)) ?_
  walk_at "MF"
  · have hne : k.fmod ns[i] ≠ 0 := by assumption
    have hlt : i + 1 ≤ ns.findIdx (fun y => k.fmod y == 0) := by
      rcases Nat.lt_or_ge i (ns.findIdx (fun y => k.fmod y == 0)) with h1 | h1
      · exact h1
      · have e : i = ns.findIdx (fun y => k.fmod y == 0) := Nat.le_antisymm hle h1
        have h2 := List.findIdx_getElem (xs := ns) (p := fun y => k.fmod y == 0) (w := hidx)
        simp only [← e] at h2
        exact absurd (by simpa using h2) hne
    exact ⟨_, _, _, _, ns.length - (i + 1), rfl, by k_asm, by k_asm, by omega, rfl, i + 1, _, rfl, hlt, upd_same⟩
  · have hz : k.fmod ns[i] = 0 := by assumption
    have e : i = ns.findIdx (fun y => k.fmod y == 0) := by
      rcases Nat.lt_or_ge i (ns.findIdx (fun y => k.fmod y == 0)) with h1 | h1
      · have h2 := List.not_of_lt_findIdx h1
        simp [hz] at h2
      · exact Nat.le_antisymm hle h1
    have h3 := h h₁ (tk₁ + 1 + 1) t' (by assumption) (by assumption)
    rw [← e] at h3
    exact h3
end

/- ISEOF -/
section
local macro_rules | `(tactic| walk_at "MI") => `(tactic| repeat' ((first | (k_unfold; (try dsimp only)) | (k_end; wrow_close) | walk1 | (dsimp only; walk1) | (leave1; walk_say "STEP leave1"; try dsimp only) | fail "no step")))

set_option maxRecDepth 100000 in
set_option maxHeartbeats 8000000 in
theorem iseof_call : ∀ {w : World} {s : Shared} {base h₀ : Heap} {outer : List Env} {A₀ A : Around} {env : Env} {L : Addr} {m mg mb : Str → Option Value} {news : List (Addr × Obj)} {p : Program} {loose : List Str} {mean : ExcName → Option Value}
    {k : Int} {t : Tok} {Q : Value → Shared → Prop} {E : Value → Shared → Prop}
    (B : Below A₀ base outer h₀) (F : Fr h₀ L s.heap m) (X : (hd.heap_39 w.params).In h₀) (N : News h₀ L s.heap news) (T : Top p loose mean mg mb h₀)
    (hA : A.frames = some (env :: outer)) (hf : env.frame = some L) (hke : env.scope.kind = .function) (hdep : A.depth < recursionLimit)
    (h : ∀ h' tk, Fr h₀ L h' m → News h₀ L h' news → Q (.bool (k == 0)) { s with heap := h', toks := tk }),
    wpAny (model PySem.Challenge.rw_mr0014_01.row.prog w) A (call (.ref 21) [.int k t]) Q E s := by
  w_top off
  k_fill
  intro w s base h₀ outer A₀ A env L m mg mb news p loose mean k t Q E B F X N T hA hf hke hdep h
  refine wpAny_call ?_
  refine' code_def (binds := [("x", .int k t)]) B F X N T hA hf hke ?k6 ?k7 hdep ?k9 ?kB ?_ ?c2 ?c3 ?c4 ?c5
  case k6 => k_is
  case k7 => k_is
  case k9 => exact BindsTo.of_eq rfl
  case kB => exact locs rfl
  case c2 => exact rfl
  case c3 => exact rfl
  case c4 => exact rfl
  case c5 => decide
  intro g' L' h' FG' F' N' B' X' T'
  try dsimp only
  walk_at "MI"
  rename_i F₆ N₆ _ _
  exact h _ _ F₆ N₆
end

/- _law_heaps and _split_list -/
section
def datInts (xs : List Int) : Dat := .list (xs.map .int)
theorem fr_see {h₀ h : Heap} {L : Addr} {m : Str → Option Value} {x : Str} {v : Value} (F : Fr h₀ L h m) (e : m x = some v) : Fr h₀ L h (fun y => if y = x then some v else m y) := by
  have : (fun y => if y = x then some v else m y) = m := by
    funext y
    by_cases hy : y = x
    · rw [if_pos hy, hy, e]
    · rw [if_neg hy]
  rw [this]; exact F
local macro_rules | `(tactic| walk_at "MH") => `(tactic| repeat' ((fail_if_success (with_reducible show wpAny _ _ (pyIter (Value.ref _)) _ _ _)); (fail_if_success (with_reducible show wpAny _ _ (eval (Expr.Lambda _ _ _ _) _) _ _ _)); (fail_if_success (with_reducible show wpAny _ _ (subscriptTail _ _ (Value.ref _) (Value.int _ _)) _ _ _)); (fail_if_success (with_reducible show wpAny _ _ (binaryOp Operator.Mod (Value.int _ _) (Value.int _ _)) _ _ _)); (first | (k_unfold; (try dsimp only)) | (k_end; wrow_close) | walk1 | (dsimp only; walk1) | (leave1; walk_say "STEP leave1"; try dsimp only) | fail "no step")))

local macro_rules | `(tactic| walk_at "call ref") => `(tactic| (k_here; (with_reducible show wpAny _ _ (call (Value.ref 21) [Value.int _ _]) _ _ _); k_dflt (refine' iseof_call ?B ?F ?X ?N ?T ?hA ?hf ?hke ?hdp ?_; (case hA => exact rfl); (case hf => exact rfl); (case hke => exact rfl); (case F => k_asm); (case N => k_asm); (case X => k_asm); (case T => k_asm); (case B => k_asm); (case hdp => k_room)); intro h' tk' F' N'; (try k_sweep)))
local macro_rules | `(tactic| walk_at "MHT") => `(tactic| repeat' ((fail_if_success (with_reducible show wpAny _ _ (pyIter (Value.ref _)) _ _ _)); (fail_if_success (with_reducible show InvEndG _ _ _ _ _ _)); (first | (k_unfold; (try dsimp only)) | (k_end; wrow_close) | walk1 | (dsimp only; walk1) | (leave1; walk_say "STEP leave1"; try dsimp only) | fail "no step")))
/-- the table of _law_heaps' inner codes: empty, or with the lambda's -/
def LamTab (ps : Array Value) (tl : List (Addr × Obj)) : Prop := ps = #[] ∨ ∃ c' oc' vs' t', ps = #[rawInt 22, rawInt 38, .ref c'] ∧ (c', oc') ∈ tl ∧ oc'.data = .fields vs' ∧ vs'[1]? = some (.str "_law_heaps.<locals>.<lambda>" t')
theorem lam_any {M : Model} {A : Around} {E : Value → Shared → Prop} {s : Shared} {h₀ : Heap} {L a : Addr} {m mg mb : Str → Option Value} {cn : Str} {cs : Scope} {ccd : Value} {cl : List (Str × Addr)} {p : Program} {loose : List Str} {mean : ExcName → Option Value}
    {name : Str} {params : Arguments} {body : PySem.Expr} {scope : Scope} {pos : Pos} {firstLine : Nat} {clos : List (Str × Addr)} {e1 e2 e3 : Addr × Obj} {rest tl ex : List (Addr × Obj)} {ps : Array Value} {Q : Value → Shared → Prop}
    (F : Fr h₀ L s.heap m) (N : News h₀ L s.heap (e1 :: e2 :: (30, tabObj ps) :: e3 :: rest)) (T : Top p loose mean mg mb h₀) (C : CodeHd h₀ 34 30) (hcd : ccd = .ref 34)
    (h1 : e1.1 ≠ 30) (h2 : e2.1 ≠ 30) (h3 : e3.1 ≠ 30) (hr : ∀ p ∈ rest, p.1 ≠ 30) (hps : LamTab ps tl) (hsub : ∀ p ∈ tl, p ∈ rest) (hto : OwnOff tl [e2.1, 30, e3.1]) (hxr : ∀ q ∈ ex, q ∈ rest) (hxt : OwnOff ex (tl.map (·.1))) (hl : pos.line = 22) (hc : pos.col = 38)
    (hcl : closureFor scope (envX cn cs L a ccd cl) = pure clos)
    (h : ∀ f c' oc vs t ctv h' tk, Fr h₀ L h' m →
      News h₀ L h' ((f, kla_obj name "_law_heaps.<locals>.<lambda>" params body scope clos ((mg "__name__").getD .none) c' ctv) :: (c', oc) :: e1 :: e2 :: (30, tabObj #[rawInt 22, rawInt 38, .ref c']) :: e3 :: rest) →
      oc.data = .fields vs → vs[1]? = some (.str "_law_heaps.<locals>.<lambda>" t) → (@Ne Nat c' e2.1 ∧ @Ne Nat c' 30 ∧ @Ne Nat c' e3.1) → (∀ q ∈ ex, q.1 ≠ c') → (AllLt f (e1 :: e2 :: (30, tabObj ps) :: e3 :: rest) ∧ @LT.lt Nat _ c' f) → Q (.ref f) { s with heap := h', toks := tk }) :
    wpAny M A (makeFunction name "_law_heaps.<locals>.<lambda>" params (.expr body) scope (envX cn cs L a ccd cl) [] [] [] pos firstLine) Q E s := by
  rcases hps with rfl | ⟨c', oc', vs', t', rfl, hm, hd', hv'⟩
  · refine kla_nest F N T C hcd (.tail h1 (.tail h2 (.head (List.forall_mem_cons.mpr ⟨h3, hr⟩)))) trivial rfl hcl fun f c' oc vs t ctv h' tk F' N' d v lt1 lt2 => ?_
    refine h f c' oc vs t ctv h' tk F' ?_ d v ⟨Nat.ne_of_gt (lt1 e2 (.tail _ (.head _))), Nat.ne_of_gt (lt1 _ (.tail _ (.tail _ (.head _)))), Nat.ne_of_gt (lt1 e3 (.tail _ (.tail _ (.tail _ (.head _)))))⟩ (fun q hq => Nat.ne_of_lt (lt1 q (.tail _ (.tail _ (.tail _ (.tail _ (hxr q hq)))))))
      ⟨allLt_of fun q hq => Nat.lt_trans (lt1 q hq) lt2, lt2⟩
    have e : (#[] ++ #[rawInt pos.line, rawInt pos.col, Value.ref c'] : Array Value) = #[rawInt 22, rawInt 38, .ref c'] := by rw [hl, hc]; rfl
    rw [e] at N'
    exact N'
  · refine kla_hit (c' := c') F N T C hcd (.tail _ (.tail _ (.head _))) (by simp [TriplesOk, rawInt]) (by simp [codeAmong, rawInt, hl, hc]) hcl fun f ctv h' tk F' N' lt => ?_
    have hm' : (c', oc') ∈ e1 :: e2 :: (30, tabObj #[rawInt 22, rawInt 38, .ref c']) :: e3 :: rest := .tail _ (.tail _ (.tail _ (.tail _ (hsub _ hm))))
    refine h f c' oc' vs' t' ctv h' tk F' (fun q hq => ?_) hd' hv' ⟨hto _ hm _ (.head _), hto _ hm _ (.tail _ (.head _)), hto _ hm _ (.tail _ (.tail _ (.head _)))⟩ (fun q hq => hxt q hq _ (List.mem_map.mpr ⟨_, hm, rfl⟩)) ⟨allLt_of lt, lt _ hm'⟩
    rcases List.mem_cons.mp hq with rfl | hq
    · exact N' _ (.head _)
    · rcases List.mem_cons.mp hq with rfl | hq
      · exact N' _ (.tail _ hm')
      · exact N' _ (.tail _ hq)

/-- between two turns of _split_list's loop -/
def SJ (left : List Int) (v0 : Int) (f ya na : Addr) (led : List (Addr × Obj)) (i : Nat) (m₁ : Str → Option Value) (nx : List (Addr × Obj)) : Prop :=
  ∃ (yv : List Value) (yn : Nat) (nv : List Value) (nn : Nat), nx = (na, W.listOf nv.toArray nn) :: (ya, W.listOf yv.toArray yn) :: led ∧
    IntsAre yv ((left.take i).filter (fun x => x.fmod v0 == 0)) ∧ IntsAre nv ((left.take i).filter (fun x => !(x.fmod v0 == 0))) ∧
    m₁ (Str.ofString "yes") = some (.ref ya) ∧ m₁ (Str.ofString "no") = some (.ref na) ∧ m₁ (Str.ofString "predicate") = some (.ref f)
theorem ints_dat {news : List (Addr × Obj)} {yv : List Value} {xs : List Int} (h : IntsAre yv xs) : DatAll news yv (xs.map Dat.int) := by
  induction h with
  | nil => exact .nil
  | cons i t _ ih => exact .cons (.int i t) ih
theorem take_snoc {left : List Int} {i : Nat} {x : Int} (hx : left[i]? = some x) : left.take (i + 1) = left.take i ++ [x] := by
  rw [List.take_add_one, hx]; rfl
section
variable {h₀ h' : Heap} {L la f ya na : Addr} {led own₂ : List (Addr × Obj)} {left : List Int} {v0 x : Int} {t : Tok} {i tk ln nn yn : Nat} {wl yv nv : List Value} {m' : Str → Option Value} {s₁ : Shared}
theorem sj_yes (hla : (la, W.listOf wl.toArray ln) ∈ led) (hx : left[i]? = some x) (hd : x.fmod v0 = 0) (hy : IntsAre yv ((left.take i).filter (fun x => x.fmod v0 == 0))) (hn : IntsAre nv ((left.take i).filter (fun x => !(x.fmod v0 == 0))))
    (ho : OwnOff own₂ (na :: ya :: led.map (·.1))) (F : Fr h₀ L h' m') (N : News h₀ L h' ((na, W.listOf nv.toArray nn) :: (ya, W.listOf (yv.toArray.push (.int x t)) yn) :: (led ++ own₂)))
    (e1 : m' (Str.ofString "yes") = some (.ref ya)) (e2 : m' (Str.ofString "no") = some (.ref na)) (e3 : m' (Str.ofString "predicate") = some (.ref f)) :
    InvEndG h₀ L (fun m' nx => (la, W.listOf wl.toArray ln) ∈ nx ∧ SJ left v0 f ya na led (i + 1) m' nx) own₂ s₁ { s₁ with heap := h', toks := tk } := by
  rw [List.push_toArray] at N
  refine InvEndG.intro F N (nx := (na, W.listOf nv.toArray nn) :: (ya, W.listOf (yv ++ [Value.int x t]).toArray yn) :: led) ⟨.tail _ (.tail _ hla), yv ++ [.int x t], yn, nv, nn, rfl, ?_, ?_, e1, e2, e3⟩ ho ?_ ?_
  · rw [take_snoc hx, List.filter_append]
    exact IntsAre.append hy (by simp only [List.filter_cons, hd]; exact .cons x t .nil)
  · rw [take_snoc hx, List.filter_append]
    simp only [List.filter_cons, hd]
    simpa using hn
  · intro q hq
    rcases List.mem_cons.mp hq with rfl | hq
    · exact .head _
    · rcases List.mem_cons.mp hq with rfl | hq
      · exact .tail _ (.head _)
      · exact .tail _ (.tail _ (List.mem_append_left _ hq))
  · exact fun q hq => .tail _ (.tail _ (List.mem_append_right _ hq))
theorem sj_no (hla : (la, W.listOf wl.toArray ln) ∈ led) (hx : left[i]? = some x) (hd : x.fmod v0 ≠ 0) (hy : IntsAre yv ((left.take i).filter (fun x => x.fmod v0 == 0))) (hn : IntsAre nv ((left.take i).filter (fun x => !(x.fmod v0 == 0))))
    (ho : OwnOff own₂ (na :: ya :: led.map (·.1))) (F : Fr h₀ L h' m') (N : News h₀ L h' ((na, W.listOf (nv.toArray.push (.int x t)) nn) :: (ya, W.listOf yv.toArray yn) :: (led ++ own₂)))
    (e1 : m' (Str.ofString "yes") = some (.ref ya)) (e2 : m' (Str.ofString "no") = some (.ref na)) (e3 : m' (Str.ofString "predicate") = some (.ref f)) :
    InvEndG h₀ L (fun m' nx => (la, W.listOf wl.toArray ln) ∈ nx ∧ SJ left v0 f ya na led (i + 1) m' nx) own₂ s₁ { s₁ with heap := h', toks := tk } := by
  rw [List.push_toArray] at N
  have hb : (x.fmod v0 == 0) = false := beq_eq_false_iff_ne.mpr hd
  refine InvEndG.intro F N (nx := (na, W.listOf (nv ++ [Value.int x t]).toArray nn) :: (ya, W.listOf yv.toArray yn) :: led) ⟨.tail _ (.tail _ hla), yv, yn, nv ++ [.int x t], nn, rfl, ?_, ?_, e1, e2, e3⟩ ho ?_ ?_
  · rw [take_snoc hx, List.filter_append]
    simp only [List.filter_cons, hb]
    simpa using hy
  · rw [take_snoc hx, List.filter_append]
    exact IntsAre.append hn (by simp only [List.filter_cons, hb]; exact .cons x t .nil)
  · intro q hq
    rcases List.mem_cons.mp hq with rfl | hq
    · exact .head _
    · rcases List.mem_cons.mp hq with rfl | hq
      · exact .tail _ (.head _)
      · exact .tail _ (.tail _ (List.mem_append_left _ hq))
  · exact fun q hq => .tail _ (.tail _ (List.mem_append_right _ hq))
end
section
variable {prog : Program} {w : World} {A : Around} {E : Value → Shared → Prop} {s : Shared} {env : Env} {h₀ : Heap} {body : List Stmt} {Q : Flow → Shared → Prop}
theorem split_loop {left : List Int} {v0 : Int} {f ya na la : Addr} {led : List (Addr × Obj)} {wl : List Value} {ln : Nat} {m₀ : Str → Option Value} (hh : A.handled = none) (hla : (la, W.listOf wl.toArray ln) ∈ led) (hwl : IntsAre wl left)
    (F : Fr h₀ env.locals s.heap m₀) (N : News h₀ env.locals s.heap ((na, W.listOf #[] 0) :: (ya, W.listOf #[] 0) :: led))
    (e1 : m₀ (Str.ofString "yes") = some (.ref ya)) (e2 : m₀ (Str.ofString "no") = some (.ref na)) (e3 : m₀ (Str.ofString "predicate") = some (.ref f))
    (turn : ∀ i x t yv yn nv nn (m₁ : Str → Option Value) h tk own₂, left[i]? = some x → IntsAre yv ((left.take i).filter (fun x => x.fmod v0 == 0)) → IntsAre nv ((left.take i).filter (fun x => !(x.fmod v0 == 0))) → yv.length ≤ left.length → nv.length ≤ left.length →
      OwnOff own₂ (na :: ya :: led.map (·.1)) → Fr h₀ env.locals h (fun y => if y = Str.ofString "yes" then some (.ref ya) else if y = Str.ofString "no" then some (.ref na) else if y = Str.ofString "predicate" then some (.ref f) else if y = Str.ofString "x" then some (.int x t) else m₁ y) →
      News h₀ env.locals h ((na, W.listOf nv.toArray nn) :: (ya, W.listOf yv.toArray yn) :: (led ++ own₂)) →
      wpAny (model prog w) A (execs body env) (InvPostG h₀ env.locals (fun m' nx => (la, W.listOf wl.toArray ln) ∈ nx ∧ SJ left v0 f ya na led (i + 1) m' nx) own₂ { s with heap := h, toks := tk } Q) E { s with heap := h, toks := tk })
    (done : ∀ yv yn nv nn (m₁ : Str → Option Value) h tk, IntsAre yv (left.filter (fun x => x.fmod v0 == 0)) → IntsAre nv (left.filter (fun x => !(x.fmod v0 == 0))) →
      Fr h₀ env.locals h (fun y => if y = Str.ofString "yes" then some (.ref ya) else if y = Str.ofString "no" then some (.ref na) else m₁ y) → News h₀ env.locals h ((na, W.listOf nv.toArray nn) :: (ya, W.listOf yv.toArray yn) :: led) → Q .next { s with heap := h, toks := tk }) :
    wpAny (model prog w) A (pyIter (.ref la)) (fun it s₂ => LoopAtV prog w A h₀ env (Str.ofString "x") body Q E it s₂) E s := by
  have hlen : wl.length = left.length := hwl.length
  refine kdl_iter (nn := ln) (vs := wl) (SJ left v0 f ya na led) hh (.tail _ (.tail _ hla)) F N ⟨[], 0, [], 0, rfl, .nil, .nil, e1, e2, e3⟩ ?_ ?_
  · rintro i v m₁ nx h tk own₂ hv hoff _ ⟨yv, yn, nv, nn, rfl, hy, hn, f1, f2, f3⟩ F₁ N₁
    have hi' : i < left.length := by rw [← hlen]; exact (List.getElem?_eq_some_iff.mp hv).1
    obtain ⟨t, hx⟩ := hwl.get i (left[i]'hi') (List.getElem?_eq_getElem hi')
    have ev : v = .int (left[i]'hi') t := by rw [hx] at hv; exact (Option.some.inj hv).symm
    subst ev
    have hy' := hy.length
    have hn' := hn.length
    have b1 := List.length_filter_le (fun x => x.fmod v0 == 0) (left.take i)
    have b2 := List.length_filter_le (fun x => !(x.fmod v0 == 0)) (left.take i)
    have b3 := List.length_take_le' i left
    exact turn i _ t yv yn nv nn m₁ h tk own₂ (List.getElem?_eq_getElem hi') hy hn (by omega) (by omega) hoff
      (fr_see (fr_see (fr_see F₁ ((if_neg (by decide)).trans f3)) ((if_neg (by decide)).trans ((if_neg (by decide)).trans f2))) ((if_neg (by decide)).trans ((if_neg (by decide)).trans ((if_neg (by decide)).trans f1)))) N₁
  · rintro m₁ nx h tk ⟨yv, yn, nv, nn, rfl, hy, hn, f1, f2, f3⟩ F₁ N₁
    rw [hlen, List.take_length] at hy hn
    exact done yv yn nv nn m₁ h tk hy hn (fr_see (fr_see F₁ f2) ((if_neg (by decide)).trans f1)) N₁
end
/-- between two turns of _law_heaps' loop -/
def HJ (ns : List Int) (hp cf : Addr) (cst : List (Addr × Obj)) (i : Nat) (m₁ : Str → Option Value) (nx : List (Addr × Obj)) : Prop :=
  ∃ (us : List Value) (nn : Nat) (hs : List (List Int)) (ps : Array Value) (oc : Obj) (vo : Option Value) (tl : List (Addr × Obj)) (la : Addr) (wl : List Value) (ln : Nat) (left : List Int),
    nx = (hp, W.listOf us.toArray nn) :: (30, tabObj ps) :: (cf, oc) :: (tl ++ cst) ∧ oc.data = .cell vo ∧ LamTab ps tl ∧ DatAll tl us (hs.map datInts) ∧ (la, W.listOf wl.toArray ln) ∈ tl ++ cst ∧ IntsAre wl left ∧
    m₁ (Str.ofString "left") = some (.ref la) ∧ m₁ (Str.ofString "heaps") = some (.ref hp) ∧ Sieve ns i hs left ∧ OwnOff tl [hp, 30, cf]

set_option maxRecDepth 100000 in
set_option maxHeartbeats 8000000 in
theorem heaps_call : ∀ {w : World} {s : Shared} {base h₀ : Heap} {A₀ : Around} {env : Env} {L : Addr} {m mg mb : Str → Option Value} {own : List (Addr × Obj)} {p : Program} {loose : List Str} {mean : ExcName → Option Value}
    {D : Addr} {vs : List Value} {ns : List Int} {n : Nat} {Q : Value → Shared → Prop} {E : Value → Shared → Prop}
    (B : Below A₀ base [] h₀) (F : Fr h₀ L s.heap m) (X : (hd.heap_39 w.params).In h₀) (N : News h₀ L s.heap ((30, tabObj #[]) :: (D, W.listOf vs.toArray n) :: own)) (T : Top p loose mean mg mb h₀) (C : CodeHd base 34 30)
    (hf : env.frame = some L) (hke : env.scope.kind = .function)
    (hD : D ≠ 30) (hoff : OwnOff own [30]) (hi : IntsAre vs ns) (h0 : ∀ x ∈ ns, x ≠ 0) (hsz : ns.length ≤ 100)
    (h : ∀ h' tk hp us nn ps tl, Fr h₀ L h' m → News h₀ L h' ((hp, W.listOf us.toArray nn) :: (30, tabObj ps) :: (tl ++ ((D, W.listOf vs.toArray n) :: own))) → DatAll tl us ((toldAt ns ns.length).map datInts) → Q (.ref hp) { s with heap := h', toks := tk }),
    wpAny (model PySem.Challenge.rw_mr0014_01.row.prog w) (callerA.deeper env) (call (.ref 35) [.ref D]) Q E s := by
  w_top off
  k_fill
  intro w s base h₀ A₀ env L m mg mb own p loose mean D vs ns n Q E B F X N T C hf hke hD hoff hi h0 hsz h
  refine wpAny_call ?_
  refine' code_defC (binds := [("row", .ref D)]) B F X N T rfl hf hke ?k6 ?k7 (by k_room) ?k9 ?kB ?kD ?_ ?c2 ?c3 ?c4
  case k6 => k_is
  case k7 => k_is
  case k9 => exact BindsTo.of_eq rfl
  case kB => exact rfl
  case kD => decide +kernel
  case c2 => exact rfl
  case c3 => exact rfl
  case c4 => exact rfl
  intro g' L' h' tk' cells' FG' F' N' Y' B' X' T' l1
  k_lt l1
  k_cells Y'
  (try simp only [List.cons_append, List.nil_append] at N')
  try dsimp only
  walk_at "MH"
  rename_i hi o₁ d₁ hp h₁ l₁ h₂ h₃ F₃ N₃
  have hlen : vs.length = ns.length := hi.length
  obtain ⟨cst, hcst⟩ : ∃ c, c = (D, W.listOf vs.toArray n) :: own := ⟨_, rfl⟩
  have hcoff : OwnOff cst [hp, 30, L' + 1] := by
    rw [hcst]
    intro q hq b hb
    rcases List.mem_cons.mp hq with rfl | hq
    · simp only [List.mem_cons, List.not_mem_nil, or_false] at hb
      rcases hb with rfl | rfl | rfl
      · exact Nat.ne_of_lt l₁.2.2.1
      · exact hD
      · exact Nat.ne_of_lt (Nat.lt_succ_of_lt l1.2.1)
    · simp only [List.mem_cons, List.not_mem_nil, or_false] at hb
      rcases hb with rfl | rfl | rfl
      · exact Nat.ne_of_lt (tb_ltOf l₁.2.2.2 q hq)
      · exact hoff q hq _ (.head _)
      · exact Nat.ne_of_lt (Nat.lt_succ_of_lt (tb_ltOf l1.2.2 q hq))
  with_unfolding_all refine' kdl_iter (news := (hp, W.listOf #[] 0) :: (30, tabObj #[]) :: (L' + 1, o₁) :: ([] ++ cst)) (nn := n) (vs := vs) (HJ ns hp (L' + 1) cst) ?hh ?hl (by assumption) ?hN ?hJ ?turn ?done
  case hh => rfl
  case hl => rw [hcst]; simp
  case hN =>
    rw [hcst]
    intro q hq
    refine N₃ q ?_
    simp only [List.nil_append, List.mem_cons] at hq ⊢
    rcases hq with a | a | a | a | a <;> simp [a]
  case hJ => exact ⟨[], 0, [], #[], o₁, _, [], D, vs, n, ns, rfl, d₁, .inl rfl, .nil, by rw [hcst]; simp, hi, rfl, rfl, sieve_start ns, fun _ h => nomatch h⟩
  case done =>
    rintro m₁ nx h₄ tk₄ ⟨us, nn, hs, ps, oc, vo, tl, la, wl, ln, left, rfl, hoc, hps, hD, hla, hwl, e1, e2, hS, ho⟩ F₄ N₄
    rw [hlen] at hS
    have F₅ : Fr g' L' h₄ _ := fr_see F₄ e2
    have N₅ : News g' L' h₄ _ := N₄
    clear F₄ N₄
    dsimp only
    walk_at "MH"
    rename_i F₆ N₆ _ _
    refine h _ _ hp us nn ps tl F₆ (fun q hq => N₆ q ?_) (by rw [← sieve_end hS]; exact hD)
    rw [hcst]
    simp only [List.mem_cons] at hq ⊢
    rcases hq with a | a | a
    · exact .inl a
    · exact .inr (.inl a)
    · exact .inr (.inr (.inr a))
  case turn =>
    rintro i v m₁ nx h₄ tk₄ own₁ hv hoff₁ _ ⟨us, nn, hs, ps, oc, vo, tl, la, wl, ln, left, rfl, hoc, hps, hDat, hla, hwl, e1, e2, hS, ho⟩ F₄ N₄
    have hin : i < ns.length := by rw [← hlen]; exact (List.getElem?_eq_some_iff.mp hv).1
    have hll : left.length ≤ 100 := Nat.le_trans (sieve_sub hS).1 hsz
    have hwn : wl.length = left.length := hwl.length
    have hul : us.length ≤ 100 := by
      have := hDat.length
      rw [List.length_map] at this
      have := sieve_len hS
      omega
    have htc : OwnOff (tl ++ cst) [hp, 30, L' + 1] := fun q hq => (List.mem_append.mp hq).elim (ho q) (hcoff q)
    have n1 : @Ne Nat la hp := htc _ hla _ (.head _)
    have n2 : @Ne Nat la 30 := htc _ hla _ (.tail _ (.head _))
    have n3 : @Ne Nat la (L' + 1) := htc _ hla _ (.tail _ (.tail _ (.head _)))
    have hro : OwnOff ((tl ++ cst) ++ own₁) [hp, 30, L' + 1] := by
      intro q hq b hb
      rcases List.mem_append.mp hq with hq | hq
      · exact htc q hq b hb
      · refine hoff₁ q hq b ?_
        simp only [List.mem_cons, List.not_mem_nil, or_false] at hb
        rcases hb with rfl | rfl | rfl <;> simp
    have N₅ : News g' L' h₄ ((la, W.listOf wl.toArray ln) :: (hp, W.listOf us.toArray nn) :: (30, tabObj ps) :: (L' + 1, oc) :: ((tl ++ cst) ++ own₁)) := fun q hq => by
      rcases List.mem_cons.mp hq with rfl | hq
      · exact N₄ _ (List.mem_append_left _ (.tail _ (.tail _ (.tail _ hla))))
      · exact N₄ q hq
    obtain ⟨rest, hrest⟩ : ∃ r, r = (tl ++ cst) ++ own₁ := ⟨_, rfl⟩
    rw [← hrest] at hro N₅
    have F₅ : Fr g' L' h₄ (fun y => if y = Str.ofString "heaps" then some (.ref hp) else if y = Str.ofString "left" then some (.ref la) else (if y = Str.ofString "turn" then some v else m₁ y)) := fr_see (fr_see F₄ ((if_neg (by decide)).trans e1)) ((if_neg (by decide)).trans ((if_neg (by decide)).trans e2))
    have n4 : @LT.lt Nat _ 30 hp := l₁.2.1
    have n5 : @LT.lt Nat _ (L' + 1) hp := l₁.1
    have n6 : @LT.lt Nat _ 30 L' := l1.1
    clear F₄ N₄ F₃ N₃ l₁ l1
    have hKd := kdMark
    dsimp only
    walk_at "MH"
    rotate_left
    · rename_i h₆ tk₆ F₆ N₆ ha
      have hl0 : left = [] := by
        cases left with
        | nil => rfl
        | cons a r => exact absurd ha (by simp; omega)
      subst hl0
      refine InvEndG.intro F₆ N₆ (nx := (hp, W.listOf us.toArray nn) :: (30, tabObj ps) :: (L' + 1, oc) :: (tl ++ cst)) ⟨?_, us, nn, hs, ps, oc, vo, tl, la, wl, ln, [], rfl, hoc, hps, hDat, hla, hwl, rfl, rfl, sieve_stop hS hin, ho⟩ hoff₁ ?_ ?_
      · rw [hcst]; simp
      · intro q hq
        rw [hrest]
        exact .tail _ (List.mem_append_left own₁ hq)
      · intro q hq
        rw [hrest]
        exact .tail _ (.tail _ (.tail _ (.tail _ (List.mem_append_right _ hq))))
    rename_i h₆ tk₆ F₆ N₆ ha
    obtain ⟨v0, r0, hl0⟩ : ∃ v0 r0, left = v0 :: r0 := by
      cases left with
      | nil => exact absurd ha (by simp)
      | cons a r => exact ⟨a, r, rfl⟩
    have hv0 : v0 ≠ 0 := h0 _ ((sieve_sub hS).2 v0 (by rw [hl0]; exact .head _))
    refine item_ints (x := v0) (by with_unfolding_all rfl) (N₆.isList (.head _)) hwl (by decide) (by decide) (by rw [hl0]; rfl) fun t₇ => ?_
    walk_at "MH"
    rename_i h₈ oc₈ F₈ N₈ d₈
    k_dflt (refine' kla_eval ?d0 ?_; (case d0 => exact rfl))
    k_dflt (refine' lam_any (tl := tl) (ex := own₁) F₈ N₈ T' (C.keeps B'.stays) ?cd n2 ?n4 ?n6 ?nr hps ?ns ho ?xr ?xt ?hl ?hc ?cl ?_)
    case cd => exact rfl
    case n4 => exact Nat.ne_of_gt n4
    case n6 => exact Nat.ne_of_gt (Nat.lt_succ_of_lt n6)
    case nr => exact hro.ne (.tail _ (.head _))
    case ns => exact fun q hq => by rw [hrest]; exact List.mem_append_left _ (List.mem_append_left _ hq)
    case xr => exact fun q hq => by rw [hrest]; exact List.mem_append_right _ hq
    case xt => exact fun q hq b hb => hoff₁ q hq b (.tail _ (.tail _ (.tail _ (by rw [List.map_append]; exact List.mem_append_left _ hb))))
    case hl => exact rfl
    case hc => exact rfl
    case cl => exact rfl
    intro f c' ocl vsl tll ctv h₉ tk₉ F₉ N₉ d₉ v₉ n₉ x₉ lt₉
    simp only [AllLt] at lt₉
    dsimp only at n₉
    walk_at "MH"
    rename_i g₂ L₂ h₁₀ FG₂ B₂ X₂ T₂ tk₁₀ ya h₁₁ ly h₁₂ na h₁₃ lna h₁₄ F₁₀ N₁₀
    have hwl' : IntsAre wl left := by assumption
    with_unfolding_all refine' split_loop (left := left) (v0 := v0) (f := f) ?hh ?hl hwl' F₁₀ N₁₀ ?q1 ?q2 ?q3 ?turn ?done
    case q1 => rfl
    case q2 => rfl
    case q3 => rfl
    case hh => rfl
    case hl => exact .tail _ (.tail _ (.head _))
    case done =>
      clear N₁₀ F₁₀
      intro yv yn nv nn₂ m₂ h₁₅ tk₁₅ hy hn F₁₅ N₁₅
      have F₁₆ : Fr g₂ L₂ h₁₅ _ := F₁₅
      have N₁₆ : News g₂ L₂ h₁₅ _ := N₁₅
      clear F₁₅ N₁₅
      dsimp only
      walk_at "MHT"
      rename_i tp _ _ _ ltp _ _ _ _ _ h₁₇ F₁₇ N₁₇
      have hro' : ∀ q ∈ own₁, q.1 < ya := fun q hq => tb_ltOf ly.2.2.2.2.2.2 q (by rw [hrest]; exact List.mem_append_right _ hq)
      have hro'' : ∀ q ∈ own₁, q.1 < na := fun q hq => tb_ltOf lna.2.2.2.2.2.2.2 q (by rw [hrest]; exact List.mem_append_right _ hq)
      refine InvEndG.intro F₁₇ N₁₇ (nx := (hp, W.listOf (us ++ [Value.ref ya]).toArray (nn + 1)) :: (30, tabObj #[rawInt 22, rawInt 38, .ref c']) :: (L' + 1, oc₈) :: (((na, W.listOf nv.toArray nn₂) :: (ya, W.listOf yv.toArray yn) :: (c', ocl) :: tl) ++ cst))
        ⟨?_, us ++ [.ref ya], nn + 1, hs ++ [left.filter (fun x => x.fmod v0 == 0)], _, oc₈, _, (na, W.listOf nv.toArray nn₂) :: (ya, W.listOf yv.toArray yn) :: (c', ocl) :: tl, na, nv, nn₂, left.filter (fun x => !(x.fmod v0 == 0)), rfl, d₈,
          .inr ⟨c', ocl, vsl, tll, rfl, .tail _ (.tail _ (.head _)), d₉, v₉⟩, ?_, .head _, hn, rfl, rfl, sieve_more hS hl0, ?_⟩ ?_ ?_ ?_
      · rw [hcst]; simp
      · rw [List.map_append]
        refine DatAll.append (hDat.mono fun q hq => .tail _ (.tail _ (.tail _ hq))) (.one (.list (.tail _ (.head _)) (ints_dat hy)))
      · intro q hq b hb
        simp only [List.mem_cons, List.not_mem_nil, or_false] at hb
        rcases List.mem_cons.mp hq with rfl | hq
        · rcases hb with rfl | rfl | rfl
          · exact Nat.ne_of_gt lna.2.2.2.2.1
          · exact Nat.ne_of_gt lna.2.2.2.2.2.1
          · exact Nat.ne_of_gt lna.2.2.2.2.2.2.1
        · rcases List.mem_cons.mp hq with rfl | hq
          · rcases hb with rfl | rfl | rfl
            · exact Nat.ne_of_gt ly.2.2.2.1
            · exact Nat.ne_of_gt ly.2.2.2.2.1
            · exact Nat.ne_of_gt ly.2.2.2.2.2.1
          · rcases List.mem_cons.mp hq with rfl | hq
            · rcases hb with rfl | rfl | rfl
              · exact n₉.1
              · exact n₉.2.1
              · exact n₉.2.2
            · exact ho q hq b (by simpa using hb)
      · intro q hq b hb
        simp only [List.map_cons, List.cons_append, List.mem_cons, List.map_append] at hb
        rcases hb with rfl | rfl | rfl | rfl | rfl | rfl | hb
        · exact hoff₁ q hq _ (.head _)
        · exact hoff₁ q hq _ (.tail _ (.head _))
        · exact hoff₁ q hq _ (.tail _ (.tail _ (.head _)))
        · exact Nat.ne_of_lt (hro'' q hq)
        · exact Nat.ne_of_lt (hro' q hq)
        · exact x₉ q hq
        · exact hoff₁ q hq _ (.tail _ (.tail _ (.tail _ (by rw [List.map_append]; exact hb))))
      · intro q hq
        simp only [List.cons_append, List.mem_cons] at hq
        rcases hq with rfl | rfl | rfl | rfl | rfl | rfl | hq
        · exact .tail _ (.tail _ (.tail _ (.tail _ (.tail _ (.tail _ (.head _))))))
        · exact .tail _ (.tail _ (.tail _ (.tail _ (.tail _ (.tail _ (.tail _ (.head _)))))))
        · exact .tail _ (.tail _ (.tail _ (.tail _ (.tail _ (.tail _ (.tail _ (.tail _ (.head _))))))))
        · exact .tail _ (.head _)
        · exact .tail _ (.tail _ (.head _))
        · exact .tail _ (.tail _ (.tail _ (.tail _ (.head _))))
        · refine .tail _ (.tail _ (.tail _ (.tail _ (.tail _ (.tail _ (.tail _ (.tail _ (.tail _ ?_))))))))
          rw [hrest]
          exact List.mem_append_left _ hq
      · intro q hq
        refine .tail _ (.tail _ (.tail _ (.tail _ (.tail _ (.tail _ (.tail _ (.tail _ (.tail _ ?_))))))))
        rw [hrest]
        exact List.mem_append_right _ hq
    case turn =>
      clear N₁₀ F₁₀
      intro i₂ x t₂ yv yn nv nn₂ m₂ h₁₅ tk₁₅ own₂ hx hy hn by1 bn1 ho₂ F₁₅ N₁₅
      have F₁₆ : Fr g₂ L₂ h₁₅ _ := F₁₅
      have N₁₆ : News g₂ L₂ h₁₅ _ := N₁₅
      clear F₁₅ N₁₅
      simp only [List.cons_append] at N₁₆
      dsimp only
      walk_at "MH"
      refine mod_int' hv0 ?_
      walk_at "MHT"
      · rename_i ha h₁₇ F₁₇ N₁₇
        exact sj_yes (.tail _ (.tail _ (.head _))) hx ha hy hn ho₂ F₁₇ N₁₇ rfl rfl rfl
      · rename_i ha h₁₇ F₁₇ N₁₇
        exact sj_no (.tail _ (.tail _ (.head _))) hx ha hy hn ho₂ F₁₇ N₁₇ rfl rfl rfl
end

/- a for over a range whose target is a cell -/
section
/-- a turn's end of a for whose target is a cell -/
def CellEnd (h₀ : Heap) (L c I : Addr) (oI : Obj) (Jn : (Str → Option Value) → List (Addr × Obj) → Prop) (s₁ s₂ : Shared) : Prop :=
  ∃ h' tk m' nx' oc' v', s₂ = { s₁ with heap := h', toks := tk } ∧ Fr h₀ L h' m' ∧ News h₀ L h' ((c, oc') :: (nx' ++ [(I, oI)])) ∧ oc'.data = .cell v' ∧ (∀ p ∈ nx', p.1 ≠ c ∧ p.1 ≠ I) ∧ Jn m' nx'
def CellPost (h₀ : Heap) (L c I : Addr) (oI : Obj) (Jn : (Str → Option Value) → List (Addr × Obj) → Prop) (s₁ : Shared) (Q : Flow → Shared → Prop) (f : Flow) (s₂ : Shared) : Prop :=
  match f with
  | .ret v => Q (.ret v) s₂
  | .brk => Q .next s₂
  | _ => CellEnd h₀ L c I oI Jn s₁ s₂
/-- what is asked where the range has been made -/
def CellLoop (prog : Program) (w : World) (A : Around) (h₀ : Heap) (env : Env) (c : Addr) (body : List Stmt) (Q : Flow → Shared → Prop) (E : Value → Shared → Prop) (xv : Value) (s₁ : Shared) : Prop :=
  ∃ (r : Addr) (n : Nat) (t u v : Tok) (oc : Obj) (v₀ : Option Value) (m : Str → Option Value) (nx : List (Addr × Obj)) (J : Nat → (Str → Option Value) → List (Addr × Obj) → Prop),
    xv = .ref r ∧ A.handled = none ∧ IsRange s₁.heap r 0 n 1 t u v ∧ n ≤ 1000 ∧ Fr h₀ env.locals s₁.heap m ∧ News h₀ env.locals s₁.heap ((c, oc) :: nx) ∧ oc.data = .cell v₀ ∧ (∀ p ∈ nx, p.1 ≠ c) ∧ J 0 m nx ∧
    (∀ i t m₁ nx₁ oc h tk I oI, i < n → J i m₁ nx₁ → oc.data = .cell (some (.int (i : Nat) t)) → (∀ p ∈ nx₁, p.1 ≠ c ∧ p.1 ≠ I) → c ≠ I → Fr h₀ env.locals h m₁ → News h₀ env.locals h ((c, oc) :: (nx₁ ++ [(I, oI)])) →
      wpAny (model prog w) A (execs body env) (CellPost h₀ env.locals c I oI (J (i + 1)) { s₁ with heap := h, toks := tk } Q) E { s₁ with heap := h, toks := tk }) ∧
    (∀ m₁ nx₁ oc h tk v₁, J n m₁ nx₁ → oc.data = .cell v₁ → (∀ p ∈ nx₁, p.1 ≠ c) → Fr h₀ env.locals h m₁ → News h₀ env.locals h ((c, oc) :: nx₁) → Q .next { s₁ with heap := h, toks := tk })

theorem For_cell {prog : Program} {w : World} {A : Around} {E : Value → Shared → Prop} {s : Shared} {env : Env} {h₀ : Heap} {x : Str} {px pos : Pos} {c : Addr} {iter : PySem.Expr} {body : List Stmt} {Q : Flow → Shared → Prop}
    (hk : env.scope.kind = .function) (hx : env.kindOf x = some .cell) (hc : env.cells.lookup x = some c)
    (h : wpAny (model prog w) A (eval iter env) (CellLoop prog w A h₀ env c body Q E) E s)
    (hs : ∀ x, foldedSetIterable iter env x = pure x) (hE : PassesOwn (model prog w) A env E) :
    wpAny (model prog w) A (exec (.For (.Name x px) iter body [] pos) env) Q E s := by
  refine wpAny_For (wpAny_mono h (fun xv s₁ h₁ => ?_) fun _ _ e => e) hs
  obtain ⟨r, n, t, u, v, oc, v₀, m, nx, J, rfl, hh, hr, hn, F, N, hoc, hnc, hJ, turn, done⟩ := h₁
  have hsm : Builtin.Range.small 0 n 1 = true := small_one (by omega) (by omega) (by omega) (by omega)
  have hsz : Builtin.Range.rangeSize 0 n 1 = ((n : Nat) : Int) := by rw [rangeSize_nat]; simp
  refine wpAny_pyIter_range hr hsm ?_
  have W := LCg.range_walks (prog := prog) (w := w) (A := A) (I := s₁.heap.objs.size) hh 0 n
  have hIL : env.locals ≠ s₁.heap.objs.size := Nat.ne_of_lt F.ns.lt
  have hI₀ : h₀.get? s₁.heap.objs.size = none := next_is_new F
  have hcN := N (c, oc) (.head _)
  have hcI : c ≠ s₁.heap.objs.size := Nat.ne_of_lt (Heap.lt_size hcN.1)
  have hnI : ∀ p ∈ nx, p.1 ≠ s₁.heap.objs.size := fun p hp => Nat.ne_of_lt (Heap.lt_size (N p (.tail _ hp)).1)
  have hpush : ∀ o : Obj, News h₀ env.locals (s₁.heap.push o) ((c, oc) :: nx) := fun o => N.grown fun _ _ e => Heap.get?_push_of_some _ e
  refine codeAny_forLoop (R := fun r s' => match r with | .ok f => Q f s' | .error e => cameBackBy (model prog w) A env E e s')
    (fun k s' => ∃ h' tk m' nx' oc' v' i, s' = { s₁ with heap := h', toks := tk } ∧ IsRangeIter h' s₁.heap.objs.size (0 + (i : Nat) * 1) ((n : Int) - (i : Nat)) 1 ∧ Fr h₀ env.locals h' m' ∧ News h₀ env.locals h' ((c, oc') :: nx') ∧ oc'.data = .cell v' ∧
      (∀ p ∈ nx', p.1 ≠ c ∧ p.1 ≠ s₁.heap.objs.size) ∧ J i m' nx' ∧ i ≤ n ∧ k = n + 1 - i) ?_ (n + 1)
    ⟨_, s₁.toks, m, nx, oc, v₀, 0, rfl, by rw [hsz]; simpa using Heap.get?_push_size _ rfl, F.push _, hpush _, hoc, fun p hp => ⟨hnc p hp, hnI p hp⟩, hJ, Nat.zero_le _, rfl⟩
  rintro k s' ⟨h', tk, m', nx', oc', v', i, rfl, hst', F', N', hoc', hne', hJ', hi, rfl⟩
  have offI : ∀ p ∈ (c, oc') :: nx', p.1 ≠ s₁.heap.objs.size := fun p hp => by
    rcases List.mem_cons.mp hp with rfl | hp
    · exact hcI
    · exact (hne' p hp).2
  by_cases hlt : i < n
  · refine W.item i _ _ _ hlt hst' fun v h₁ tk₁ hP hst₁ hk₁ => ?_
    obtain ⟨t, rfl⟩ := hP
    rw [Int.zero_add]
    have F₁ := LCg.fr_but F' hk₁ hIL hI₀
    have N₁ := LCg.news_but N' hk₁ offI
    have hc₁ := N₁ (c, oc') (.head _)
    refine wpAny_assign_Name (wpAny_storeName_cell hk hx hc ⟨oc', hc₁.1, hoc'⟩ fun h₂ hv hs₂ => ?_)
    obtain ⟨o₂, ho₂, hd₂⟩ := hv
    have F₂ : Fr h₀ env.locals h₂ m' := F₁.change hs₂ hc₁.2.1 hc₁.2.2
    have N₂ : News h₀ env.locals h₂ ((c, o₂) :: nx') := News.setAt (own := []) N₁ (fun _ h => nomatch h) (fun p hp => (hne' p hp).1) hs₂ ho₂
    obtain ⟨oI, hoI, heI⟩ : ∃ o, h₁.get? s₁.heap.objs.size = some o ∧ (∀ h' : Heap, h'.get? s₁.heap.objs.size = some o → IsRangeIter h' s₁.heap.objs.size (0 + ((i + 1 : Nat) : Nat) * 1) ((n : Int) - ((i + 1 : Nat) : Nat)) 1) := ⟨_, hst₁, fun h' e => e⟩
    have hI₂ : h₂.get? s₁.heap.objs.size = some oI := (hs₂.2 _ (Ne.symm hcI)).trans hoI
    have N₃ : News h₀ env.locals h₂ ((c, o₂) :: (nx' ++ [(s₁.heap.objs.size, oI)])) := fun p hp => by
      rcases List.mem_cons.mp hp with rfl | hp
      · exact N₂ _ (.head _)
      · rcases List.mem_append.mp hp with hp | hp
        · exact N₂ _ (.tail _ hp)
        · rw [List.mem_singleton.mp hp]
          exact ⟨hI₂, Ne.symm hIL, hI₀⟩
    refine wpAny_mono (wpAny_passesOwn hE (turn i t m' nx' o₂ h₂ _ _ oI hlt hJ' hd₂ hne' hcI F₂ N₃)) (fun f s₃ h₃ => ?_) fun _ _ e => e
    have fin : CellEnd h₀ env.locals c s₁.heap.objs.size oI (J (i + 1)) { s₁ with heap := h₂, toks := tk₁ } s₃ → ∃ k, k < n + 1 - i ∧ ∃ h' tk m' nx' oc' v' i, s₃ = { s₁ with heap := h', toks := tk } ∧ IsRangeIter h' s₁.heap.objs.size (0 + (i : Nat) * 1) ((n : Int) - (i : Nat)) 1 ∧ Fr h₀ env.locals h' m' ∧ News h₀ env.locals h' ((c, oc') :: nx') ∧ oc'.data = .cell v' ∧
      (∀ p ∈ nx', p.1 ≠ c ∧ p.1 ≠ s₁.heap.objs.size) ∧ J i m' nx' ∧ i ≤ n ∧ k = n + 1 - i := by
      rintro ⟨h₄, tk₄, m₄, nx₄, oc₄, v₄, rfl, F₄, N₄, hoc₄, hne₄, hJ₄⟩
      refine ⟨n + 1 - (i + 1), by omega, h₄, tk₄, m₄, nx₄, oc₄, v₄, i + 1, rfl, ?_, F₄, fun p hp => N₄ p ?_, hoc₄, hne₄, hJ₄, hlt, rfl⟩
      · exact heI _ (N₄ (s₁.heap.objs.size, oI) (.tail _ (List.mem_append_right _ (.head _)))).1
      · rcases List.mem_cons.mp hp with rfl | hp
        · exact .head _
        · exact .tail _ (List.mem_append_left _ hp)
    cases f with
    | ret v => exact h₃
    | brk => exact h₃
    | next => exact fin h₃
    | cont => exact fin h₃
  · have hin : i = n := by omega
    subst hin
    refine W.done _ _ _ hst' fun h₁ tk₁ hk₁ => wpAny_execs_nil ?_
    exact done m' nx' oc' h₁ tk₁ v' hJ' hoc' (fun p hp => (hne' p hp).1) (LCg.fr_but F' hk₁ hIL hI₀) (LCg.news_but N' hk₁ offI)
end

/- the law's body behind the row -/
section
/-- the law's own body and scope, read off the row -/
def lawBody : List Stmt := match PySem.Challenge.pw_mr0014_01.main.body with
  | [_, _, _, _, _, _, _, _, .FunctionDef _ _ b _ _ _ _ _ _ _] => b
  | _ => []
def lawScope : Scope := match PySem.Challenge.pw_mr0014_01.main.body with
  | [_, _, _, _, _, _, _, _, .FunctionDef _ _ _ _ _ _ sc _ _ _] => sc
  | _ => default
local macro_rules | `(tactic| walk_at "MR") => `(tactic| repeat' ((fail_if_success (with_reducible show wpAny _ _ (call (Value.ref _) _ _) _ _ _)); (fail_if_success (with_reducible show KCiEl _ _ _ _ _)); (fail_if_success (with_reducible show KCfEl _ _ _ _)); (fail_if_success (with_reducible show LCg.CompSrc ..));  (fail_if_success (with_reducible show wpAny _ _ (exec (Stmt.For _ _ _ _ _) _) _ _ _)); (first | (k_unfold; (try dsimp only)) | (k_end; wrow_close) | walk1 | (dsimp only; walk1) | (leave1; walk_say "STEP leave1"; try dsimp only) | fail "no step")))
local macro_rules | `(tactic| walk_at "eval ListComp") => `(tactic| (k_here; lct_look; k_dflt (refine LCt.ListComp_T (F₀ := by k_asm) (by with_unfolding_all rfl) (by decide) (by rfl) (by decide) (by rfl) ?_); walk_say "MINE T"))
local macro_rules | `(tactic| walk_at "MRT") => `(tactic| repeat' ((fail_if_success (with_reducible show wpAny _ _ (subscriptTail _ _ (Value.ref _) (Value.int _ _)) _ _ _)); (fail_if_success (with_reducible show KCiEl _ _ _ _ _)); (fail_if_success (with_reducible show KCiNo _ _ _ _)); (fail_if_success (with_reducible show LCt.CompSrcT ..)); (first | (k_unfold; (try dsimp only)) | (k_end; wrow_close) | walk1 | (dsimp only; walk1) | (leave1; walk_say "STEP leave1"; try dsimp only) | fail "no step")))
theorem off1_mem {D : Addr} : ∀ {l : List (Addr × Obj)}, LCg.Off1 D l → ∀ p ∈ l, p.1 ≠ D
  | [], _, _, h => nomatch h
  | _ :: _, x, p, h => by
    rcases List.mem_cons.mp h with rfl | h
    · exact x.1
    · exact off1_mem x.2 p h
theorem told_ok (hs : List (List Int)) : ∀ d ∈ hs.map datInts, kqdOk 8 d = true := by
  intro d hd
  obtain ⟨xs, _, rfl⟩ := List.mem_map.mp hd
  show (xs.map Dat.int).all (kqdOk 7) = true
  rw [List.all_map]
  exact List.all_eq_true.mpr fun _ _ => rfl
theorem dec_self {p : Prop} {inst : Decidable p} (h : p) : @decide p inst = true := decide_eq_true h
/-- between two turns of the law's own loop -/
def TJ (ns : List Int) (tl : Addr) (cst : List (Addr × Obj)) (i : Nat) (m₁ : Str → Option Value) (nx : List (Addr × Obj)) : Prop :=
  ∃ (us : List Value) (nn : Nat) (tls : List (Addr × Obj)), nx = (tl, W.listOf us.toArray nn) :: (cst ++ tls) ∧ DatAll tls us ((toldAt ns i).map datInts) ∧ m₁ (Str.ofString "told") = some (.ref tl) ∧ OwnOff tls [tl, 30]
set_option maxRecDepth 100000 in
set_option maxHeartbeats 8000000 in
theorem law_rest : ∀ {w : World} {s : Shared} {base h₀ : Heap} {A₀ : Around} {L fa : Addr} {cd : Value} {m mg mb : Str → Option Value} {p : Program} {loose : List Str} {mean : ExcName → Option Value}
    {D : Addr} {oj ofs orow : Obj} {vj vf : Option Value} {vs : List Value} {ns : List Int} {n : Nat} {Q : Flow → Shared → Prop} {E : Value → Shared → Prop}
    (B : Below A₀ base [] h₀) (F : Fr h₀ L s.heap m) (X : (hd.heap_39 w.params).In h₀) (N : News h₀ L s.heap [(L + 1 + 1 + 1, oj), (L + 1 + 1, ofs), (L + 1, orow), (30, tabObj #[]), (D, W.listOf vs.toArray n)]) (T : Top p loose mean mg mb h₀) (C : CodeHd base 34 30)
    (hj : oj.data = .cell vj) (hf : ofs.data = .cell vf) (hr : orow.data = .cell (some (.ref D))) (l1 : @LT.lt Nat _ 30 L) (l2 : @LT.lt Nat _ (L + 1 + 1 + 1) D)
    (hi : IntsAre vs ns) (h0 : ∀ x ∈ ns, x ≠ 0) (hsz : ns.length ≤ 100)
    (hE : PassesOwn (model PySem.Challenge.rw_mr0014_01.row.prog w) (callerA.deeper (envOfC "law" lawScope L fa cd)) (envOfC "law" lawScope L fa cd) E)
    (h : ∀ h' tk m' ps led, Fr h₀ L h' m' → News h₀ L h' ((30, tabObj ps) :: led) → Q (.ret (.bool true)) { s with heap := h', toks := tk }),
    wpAny (model PySem.Challenge.rw_mr0014_01.row.prog w) (callerA.deeper (envOfC "law" lawScope L fa cd)) (execs (lawBody.drop 3) (envOfC "law" lawScope L fa cd)) Q E s := by
  w_top off
  k_fill
  delta lawBody lawScope PySem.Challenge.pw_mr0014_01
  simp only [List.drop]
  intro w s base h₀ A₀ L fa cd m mg mb p loose mean D oj ofs orow vj vf vs ns n Q E B F X N T C hj hf hr l1 l2 hi h0 hsz hE h
  have hvn : vs.length = ns.length := hi.length
  walk_at "MR"
  refine LCg.CompSrc.ledger (by rfl) (by k_asm) (by k_asm) (by k_mem) (by rw [PySem.sizeLine_eq, List.size_toArray]; omega) ?_
  intro g'
  refine' kcf_list (fun k => (fstDiv ns k : Int)) hi (fun k' t' I' oI' C' oC' D' m' ys' h' tk' E' hk' hC' hx' F' N' off' ne' hMark' => ?_) ?_
  · simp only [LCg.Off3, and_true] at off'
    walk_at "MR"
    refine' first_call ?B ?F ?X ?N ?T ?hA ?hf ?hke ?hdp ?hm hi hk' h0 hsz ?_
    case hA => exact rfl
    case hf => exact rfl
    case hke => exact rfl
    case F => k_asm
    case N => k_asm
    case X => k_asm
    case T => k_asm
    case B => k_asm
    case hdp => k_room
    case hm => k_mem
    intro h₂ tk₂ t₂ F₂ N₂
    walk_at "MR"
    exact ⟨rfl, _, rfl⟩
  walk_at "MR"
  rename_i hys _ fl _ _ ofl h₃ of' dof tk₃ tl h₄ ltl h₅ F₅ N₅
  refine For_cell (h₀ := h₀) (c := L + 1 + 1 + 1) rfl rfl rfl ?_ (fun _ => rfl) hE
  walk_at "MR"
  rename_i F₅' N₅' h₆ tk₆ tr ur vr hR F₆ N₆ _
  obtain ⟨cst, hcst⟩ : ∃ c : List (Addr × Obj), c = [(fl, LCg.lst ys), (L + 1 + 1, of'), (L + 1, orow), (30, tabObj #[]), (D, W.listOf vs.toArray n)] := ⟨_, rfl⟩
  clear F₅' N₅'
  refine ⟨_, ns.length, tr, ur, vr, oj, vj, _, (tl, W.listOf #[] 0) :: (cst ++ []), TJ ns tl cst, rfl, rfl, hR, by omega, F₆, ?_, hj, ?_, ⟨[], 0, [], rfl, by simp [toldAt, DatAll.nil], rfl, fun _ h => nomatch h⟩, ?_, ?_⟩
  · intro q hq
    refine N₆ q ?_
    rw [hcst] at hq
    simp only [List.mem_cons, List.append_nil, List.not_mem_nil, or_false] at hq ⊢
    rcases hq with a | a | a | a | a | a | a <;> simp [a]
  · intro q hq
    rw [hcst] at hq
    simp only [List.mem_cons, List.append_nil, List.not_mem_nil, or_false] at hq
    rcases hq with rfl | rfl | rfl | rfl | rfl | rfl
    · exact Nat.ne_of_gt ltl.2.1
    · exact Ne.symm ofl.1
    · exact Nat.ne_of_lt (Nat.lt_succ_self _)
    · exact Nat.ne_of_lt (Nat.lt_succ_of_lt (Nat.lt_succ_self _))
    · exact Nat.ne_of_lt (Nat.lt_succ_of_lt (Nat.lt_succ_of_lt (Nat.lt_succ_of_lt l1)))
    · exact Nat.ne_of_gt l2
  · rintro i t m₁ nx₁ oc h₇ tk₇ I oI hin ⟨us, nn, tls, rfl, hDat, e1, hof⟩ hoc hne hcI F₇ N₇
    have hro : OwnOff (tls ++ [(I, oI)]) [tl, L + 1 + 1 + 1] := by
      intro q hq b hb
      simp only [List.mem_cons, List.not_mem_nil, or_false] at hb
      rcases List.mem_append.mp hq with hq | hq
      · rcases hb with rfl | rfl
        · exact hof q hq _ (.head _)
        · exact (hne q (.tail _ (List.mem_append_right _ hq))).1
      · rw [List.mem_singleton.mp hq]
        rcases hb with rfl | rfl
        · exact Ne.symm (hne _ (.head _)).2
        · exact Ne.symm hcI
    obtain ⟨rest, hrest⟩ : ∃ r, r = tls ++ [(I, oI)] := ⟨_, rfl⟩
    have N₈ : News h₀ L h₇ ((L + 1 + 1 + 1, oc) :: (tl, W.listOf us.toArray nn) :: (fl, LCg.lst ys) :: (L + 1 + 1, of') :: (L + 1, orow) :: (30, tabObj #[]) :: (D, W.listOf vs.toArray n) :: rest) := by
      rw [hcst] at N₇
      rw [hrest]
      intro q hq
      refine N₇ q ?_
      simp only [List.mem_cons, List.cons_append, List.nil_append, List.mem_append, List.not_mem_nil, or_false] at hq ⊢
      exact hq
    rw [← hrest] at hro
    have F₈ : Fr h₀ L h₇ (fun y => if y = Str.ofString "told" then some (.ref tl) else m₁ y) := fr_see F₇ e1
    clear F₇ N₇ F₆ N₆
    have hyn : ys.length = ns.length := by have := hys.length; rwa [List.length_map] at this
    have hul : us.length ≤ 100 := by
      have := hDat.length
      rw [List.length_map] at this
      have : (toldAt ns i).length ≤ i := by
        unfold toldAt
        rw [List.length_map]
        exact Nat.le_trans (List.length_filter_le _ _) (by simp)
      omega
    have hKd := kdMark
    walk_at "MRT"
    refine item_ints (x := (fstDiv ns ns[i] : Nat)) (by with_unfolding_all rfl) (N₈.isList (.tail _ (.tail _ (.head _)))) hys (Int.natCast_nonneg _) (by omega) (by simp [hin]) fun t₂ => ?_
    walk_at "MRT"
    · rename_i hq h₉ tk₉ t₉ u₉ v₉ hR₉ F₉ N₉ _
      have hq' : fstDiv ns ns[i] = i := by omega
      refine LCt.CompSrcT.range (n := ns.length) (by rfl) F₉ N₉ hR₉ (small_one (by omega) (by omega) (by omega) (by omega)) (by rw [rangeSize_nat]; simp) (by rw [PySem.sizeLine_eq]; omega) ?_
      intro g'
      refine' kci_range (fun l k => if (fstDiv ns (ns.getD k.toNat 0) == i) = true then l ++ [ns.getD k.toNat 0] else l) (fun k' t' I' oI' C' oC' D' m' ys' l' h' tk' E' hlo' hhi' hI' hC' hx' F' N' off' ne' hMark' => ?_) ?_ ?_
      rotate_left
      rotate_left
      · exact fun l k => by dsimp only; split <;> simp
      · have hkn : k'.toNat < ns.length := by omega
        have hke : ns.getD k'.toNat 0 = ns[k'.toNat] := by simp [List.getD, hkn]
        walk_at "MRT"
        refine item_ints (x := (fstDiv ns (ns.getD k'.toNat 0) : Nat)) (by with_unfolding_all rfl) (N'.isList (by k_mem)) hys hlo' (by omega) (by rw [List.getElem?_map, List.getElem?_eq_getElem hkn, hke]; rfl) fun t₂ => ?_
        walk_at "MRT"
        · rename_i hq₂
          have hq₃ : (fstDiv ns (ns.getD k'.toNat 0) == i) = true := beq_iff_eq.mpr (by omega)
          refine item_ints (x := ns.getD k'.toNat 0) (by with_unfolding_all rfl) (N'.isList (by k_mem)) hi hlo' (by omega) (by rw [List.getElem?_eq_getElem hkn, hke]) fun t₃ => ?_
          exact ⟨_, _, _, rfl, F', N', off', trivial, rfl, _, _, rfl, if_pos hq₃⟩
        · rename_i hq₂
          have hq₃ : ¬ (fstDiv ns (ns.getD k'.toNat 0) == i) = true := fun e => hq₂ (by rw [beq_iff_eq.mp e])
          exact ⟨_, _, _, rfl, F', N', off', trivial, rfl, if_neg hq₃⟩
      · intro zs hzs hzn
        rw [show (rangeKs 0 ns.length) = (List.range ns.length).map (fun (i : Nat) => (0 : Int) + (i : Int)) from rfl, heap_fold] at hzs
        clear hR₉ F₉ N₉
        walk_at "MRT"
        rename_i z _ _ oz h₁₀ F₁₀ N₁₀
        have hzr : ∀ q ∈ rest, q.1 ≠ z := off1_mem oz.2.2.2.2.2.2.2
        rw [List.push_toArray] at N₁₀
        refine ⟨h₁₀, _, _, (tl, W.listOf (us ++ [Value.ref z]).toArray (nn + 1)) :: (cst ++ ((z, LCg.lst zs) :: tls)), oc, _, rfl, F₁₀, ?_, hoc, ?_, us ++ [.ref z], nn + 1, (z, LCg.lst zs) :: tls, rfl, ?_, rfl, ?_⟩
        · intro q hq₁
          refine N₁₀ q ?_
          rw [hcst] at hq₁
          rw [hrest]
          simp only [List.mem_cons, List.cons_append, List.nil_append, List.mem_append, List.not_mem_nil, or_false] at hq₁ ⊢
          rcases hq₁ with a | a | a | a | a | a | a | a | a | a <;> simp [a]
        · intro q hq₁
          rcases List.mem_cons.mp hq₁ with rfl | hq₁
          · exact hne (tl, W.listOf us.toArray nn) (.head _)
          · rcases List.mem_append.mp hq₁ with hq₁ | hq₁
            · exact hne q (.tail _ (List.mem_append_left _ hq₁))
            · rcases List.mem_cons.mp hq₁ with rfl | hq₁
              · exact ⟨Ne.symm oz.1, Ne.symm (hzr (I, oI) (by rw [hrest]; simp))⟩
              · exact hne q (.tail _ (List.mem_append_right _ hq₁))
        · rw [told_succ ns i hin, if_pos hq', List.map_append]
          exact DatAll.append (hDat.mono fun q hq => .tail _ hq) (.one (.list (n := zs.length) (.head _) (ints_dat hzs)))
        · intro q hq₁ b hb
          rcases List.mem_cons.mp hq₁ with rfl | hq₁
          · simp only [List.mem_cons, List.not_mem_nil, or_false] at hb
            rcases hb with rfl | rfl
            · exact Ne.symm oz.2.1
            · exact Ne.symm oz.2.2.2.2.2.1
          · exact hof q hq₁ b hb
    · rename_i hq
      have hq' : ¬ fstDiv ns ns[i] = i := fun e => hq (by rw [e])
      refine ⟨h₇, _, _, (tl, W.listOf us.toArray nn) :: (cst ++ tls), oc, _, rfl, F₈, ?_, hoc, hne, us, nn, tls, rfl, ?_, rfl, hof⟩
      · intro q hq₁
        refine N₈ q ?_
        rw [hcst] at hq₁
        rw [hrest]
        simp only [List.mem_cons, List.cons_append, List.nil_append, List.mem_append, List.not_mem_nil, or_false] at hq₁ ⊢
        exact hq₁
      · rw [told_succ ns i hin, if_neg hq', List.append_nil]
        exact hDat
  · rintro m₁ nx₁ oc h₇ tk₇ v₁ ⟨us, nn, tls, rfl, hDat, e1, hof⟩ hoc hne F₇ N₇
    have F₈ : Fr h₀ L h₇ (fun y => if y = Str.ofString "told" then some (.ref tl) else m₁ y) := fr_see F₇ e1
    have N₈ : News h₀ L h₇ ((30, tabObj #[]) :: (D, W.listOf vs.toArray n) :: (L + 1 + 1 + 1, oc) :: (tl, W.listOf us.toArray nn) :: (L + 1, orow) :: tls) := by
      rw [hcst] at N₇
      intro q hq
      refine N₇ q ?_
      simp only [List.mem_cons, List.cons_append, List.nil_append, List.mem_append, List.not_mem_nil, or_false] at hq ⊢
      rcases hq with a | a | a | a | a | a <;> simp [a]
    clear F₇ N₇ F₆ N₆
    dsimp only
    have hKd := kdMark
    walk_at "MR"
    have hD30 : D ≠ 30 := Nat.ne_of_gt (Nat.lt_trans l1 (Nat.lt_trans (Nat.lt_succ_of_lt (Nat.lt_succ_of_lt (Nat.lt_succ_self _))) l2))
    have hoff : OwnOff ((L + 1 + 1 + 1, oc) :: (tl, W.listOf us.toArray nn) :: (L + 1, orow) :: tls) [30] := by
      intro q hq b hb
      rw [List.mem_singleton.mp hb]
      rcases List.mem_cons.mp hq with rfl | hq
      · exact Nat.ne_of_gt (Nat.lt_succ_of_lt (Nat.lt_succ_of_lt (Nat.lt_succ_of_lt l1)))
      · rcases List.mem_cons.mp hq with rfl | hq
        · exact Nat.ne_of_gt ltl.2.2.2.2.1
        · rcases List.mem_cons.mp hq with rfl | hq
          · exact Nat.ne_of_gt (Nat.lt_succ_of_lt l1)
          · exact hof q hq _ (.tail _ (.head _))
    refine heaps_call B F₈ X N₈ T C rfl rfl hD30 hoff hi h0 hsz ?_
    intro h₈ tk₈ hp us₂ nn₂ ps tl₂ F₉ N₉ hDat₂
    clear N₈ F₈
    iterate 1 walk1
    refine kqd_eq N₉ (.head _) rfl rfl hDat₂ (fun q hq => .tail _ (.tail _ (List.mem_append_left _ hq))) (.tail _ (.tail _ (List.mem_append_right _ (.tail _ (.tail _ (.head _)))))) rfl rfl hDat
      (fun q hq => .tail _ (.tail _ (List.mem_append_right _ (.tail _ (.tail _ (.tail _ (.tail _ hq))))))) (told_ok _) (told_ok _) (by ke_room) ?_
    rw [dec_self rfl]
    exact h h₈ tk₈ _ ps _ F₉ fun q hq => N₉ q (.tail _ hq)
end

/- the law -/
section
theorem foldl_keep (p : Int → Bool) (ns : List Int) : ∀ a : List Int, ns.foldl (fun l k => if p k = true then l ++ [k] else l) a = a ++ ns.filter p := by
  induction ns with
  | nil => intro a; simp
  | cons n r ih =>
    intro a
    rw [List.foldl_cons, ih, List.filter_cons]
    by_cases h : p n = true <;> simp [h]
theorem kci_yes {news : List (Addr × Obj)} {l : List Int} {p : Int → Bool} {k : Int} {t : Tok} (h : p k = true) : KCiEl news l (if p k = true then l ++ [k] else l) (.int k t) news := ⟨rfl, k, t, rfl, by rw [if_pos h]⟩
theorem news_pick {h₀ h : Heap} {L : Addr} {e1 e2 e3 e4 e5 e6 e7 e8 e9 e10 e11 e12 e13 : Addr × Obj} (N : News h₀ L h [e1, e2, e3, e4, e5, e6, e7, e8, e9, e10, e11, e12, e13]) : News h₀ L h [e10, e11, e12, e13, e1] := fun q hq => N q (by
  simp only [List.mem_cons, List.not_mem_nil, or_false] at hq ⊢
  rcases hq with h | h | h | h | h <;> simp [h])
theorem row_nz {ws : List Int} : ∀ x ∈ ([-4, 6] : List Int) ++ List.map (fun k' => 2 + Int.fmod k' 24) (List.take 8 ws) ++ List.filter (fun k => k != 0) (List.take 4 ws) ++ [9, -27, 25, 50], x ≠ 0 := by
  intro x hx
  simp only [List.mem_append, List.mem_cons, List.not_mem_nil, or_false, List.mem_map, List.mem_filter] at hx
  rcases hx with (((rfl | rfl) | ⟨k, _, rfl⟩) | ⟨_, h⟩) | (rfl | rfl | rfl | rfl)
  · decide
  · decide
  · have := Int.fmod_nonneg_of_pos k (show (0 : Int) < 24 by decide)
    omega
  · simpa using h
  all_goals decide
theorem row_len {ws : List Int} : (([-4, 6] : List Int) ++ List.map (fun k' => 2 + Int.fmod k' 24) (List.take 8 ws) ++ List.filter (fun k => k != 0) (List.take 4 ws) ++ [9, -27, 25, 50]).length ≤ 100 := by
  have h1 := List.length_filter_le (fun k => k != 0) (List.take 4 ws)
  simp only [List.length_append, List.length_cons, List.length_nil, List.length_map, List.length_take] at h1 ⊢
  omega
local macro_rules | `(tactic| walk_at "exec Assign cons ListComp") => `(tactic| (k_here; lct_look; k_dflt (refine LCt.Assign_ListComp_T (F₀ := by k_asm) (by rfl) (by with_unfolding_all rfl) (by with_unfolding_all rfl) (by decide) (by rfl) (by decide) (by rfl) (by rfl) (by rfl) ?_); walk_say "MINE T"))
local macro_rules | `(tactic| walk_at "MM") => `(tactic| repeat' ((fail_if_success (with_reducible show wpAny _ _ (call (Value.ref _) _ _) _ _ _)); (fail_if_success (with_reducible show KCiEl _ _ _ _ _)); (fail_if_success (with_reducible show wpAny _ _ (storeName _ (Str.ofString "row") _) _ _ _)); (fail_if_success (with_reducible show LCt.CompSrcT ..)); (first | (k_unfold; (try dsimp only)) | (k_end; wrow_close) | walk1 | (dsimp only; walk1) | (leave1; walk_say "STEP leave1"; try dsimp only) | fail "no step")))
set_option maxRecDepth 100000 in
set_option maxHeartbeats 8000000 in
theorem whole : PySem.Challenge.rw_mr0014_01.Holds := hd (by
  w_strict (
    k_go0; (all_goals try k_fold); walk_at "MM"
    refine LCt.CompSrcT.ledger (by rfl) (by k_asm) (by k_asm) (by k_mem) (by size_fits) ?_
    intro g'
    refine' kci_list (fun l k => if (k != 0) = true then l ++ [k] else l) (by assumption) (fun k' t' I' oI' C' oC' D' m' ys' l' h' tk' E' hk' hI' hC' hx' F' N' off' ne' => ?_) ?_ ?_
    all_goals (try (simp only [LCg.Off3, and_true] at off'))
    all_goals (try ((show KPfMark → _); intro hMark'))
    kcf_last
    case refine'_3 => exact fun l k => by dsimp only; split <;> simp
    case refine'_1 =>
      walk_at "MM"
      exact kci_yes (p := fun k => k != 0) (by simp_all)
    intro ys hI hlen
    rw [foldl_keep, List.nil_append] at hI
    have hgl : ((List.take 4 ‹List Int›).filter (· != 0)).length ≤ 4 := Nat.le_trans (List.length_filter_le _ _) (List.length_take_le _ _)
    walk_at "MM"
    walk1
    rename_i D ws _ hI₁ l₁ h₁ o₁ F₁ N₁ d₁
    have N₂ := news_pick N₁
    have h0 := row_nz (ws := ‹List Int›)
    have hsz := row_len (ws := ‹List Int›)
    refine law_rest (by assumption) F₁ (by assumption) N₂ (by assumption) (by assumption) (by assumption) (by assumption) d₁ (by omega) (by omega) hI₁ h0 hsz (by passes_own) ?_
    intro h₂ tk₂ m₂ ps led F₂ N₃
    dsimp only
    k_steps
    all_goals trace_state))
end

end Mine

theorem PySem.Challenge.cw_mr0014_01_holds : PySem.Challenge.rw_mr0014_01.Holds :=
  Mine.whole
