import PyProof.Rows.All
import Wide.All
import OpenK.AllK
import Wide.FinOn
import PySem.Challenge.RW_sr0020_01
set_option Elab.async false
section
open PySem PySem.W PyProof.Rows
set_option maxRecDepth 100000
set_option maxHeartbeats 8000000
open_top Mine.hd for PySem.Challenge.rw_sr0020_01
end
section -- T1
open PySem PySem.W PyProof.Rows PySem.Spec PySem.Calls
namespace Mine
def S (l : List Nat) : Str := ⟨l.toArray⟩
theorem S_app (a b : List Nat) : S a ++ S b = S (a ++ b) := Str.ext' (by show a.toArray ++ b.toArray = (a ++ b).toArray; simp)
theorem S_len (a : List Nat) : (S a).length = a.length := by simp [S, Str.length]
theorem S_inj {a b : List Nat} : S a = S b ↔ a = b := by
  constructor
  · intro h
    have := congrArg (fun x : Str => x.cps.toList) h
    simpa [S] using this
  · rintro rfl; rfl
def qs (n : Nat) : List Nat := List.replicate n 34
def ds (n : Nat) : List Nat := List.replicate n 46
def quotes (n : Nat) : Str := S (qs n)
def dots (n : Nat) : Str := S (ds n)
def headL : List Nat := [50, 53, 55, 32, 34]
def patL (n : Nat) : List Nat := headL ++ (qs n ++ [120, 34])
def pat (n : Nat) : Str := S (patL n)
theorem lit_head : Str.ofString "257 \"" = S headL := by decide +kernel
theorem lit_tail : Str.ofString "x\"" = S [120, 34] := by decide +kernel
theorem lit_x : Str.ofString "x" = S [120] := by decide +kernel
theorem lit_q : Str.ofString "\"" = S [34] := by decide +kernel
theorem lit_dot : Str.ofString "." = S [46] := by decide +kernel
theorem lit_257 : Str.ofString "257" = S [50, 53, 55] := by decide +kernel
theorem lit_sq : Str.ofString " \"" = S [32, 34] := by decide +kernel
theorem lit_nil : Str.ofString "" = S [] := by decide +kernel
def toldL (n : Nat) : List Nat := if n % 2 = 0 then qs (n / 2) ++ [120] else qs (n / 2)
def told (n : Nat) : Str := S (toldL n)
theorem patL_len (n : Nat) : (patL n).length = n + 7 := by simp [patL, headL, qs]
theorem pat_len (n : Nat) : (pat n).length = n + 7 := by rw [pat, S_len, patL_len]
theorem slice_nat (l : List Nat) {a b : Nat} (hab : a ≤ b) (hb : b ≤ l.length) : Txt.slice (S l) (some (a : Int)) (some (b : Int)) = S ((l.drop a).take (b - a)) :=
  StrLaws.sliceText_nat (S l) hab (by rw [S_len]; exact hb)
theorem slice_to (l : List Nat) {b : Nat} (hb : b ≤ l.length) : Txt.slice (S l) none (some (b : Int)) = S (l.take b) := by
  have e : Txt.slice (S l) none (some (b : Int)) = Txt.slice (S l) (some ((0 : Nat) : Int)) (some (b : Int)) := by
    show StrLaws.sliceText _ _ _ = StrLaws.sliceText _ _ _
    unfold StrLaws.sliceText
    rw [StrLaws.sliceIdx_none_lo]; rfl
  rw [e, slice_nat l (Nat.zero_le _) hb]; simp
theorem slice_from (l : List Nat) {a : Nat} (ha : a ≤ l.length) : Txt.slice (S l) (some (a : Int)) none = S (l.drop a) := by
  have e : Txt.slice (S l) (some (a : Int)) none = Txt.slice (S l) (some (a : Int)) (some (l.length : Int)) := by
    show StrLaws.sliceText _ _ _ = StrLaws.sliceText _ _ _
    unfold StrLaws.sliceText
    rw [StrLaws.sliceIdx_none_hi, S_len]
  rw [e, slice_nat l ha (Nat.le_refl _), List.take_of_length_le (by simp)]
theorem pat_slice03 (n : Nat) : Txt.slice (pat n) none (some 3) = Str.ofString "257" := by
  have h := slice_to (patL n) (b := 3) (by rw [patL_len]; omega)
  rw [lit_257]
  exact h
theorem pat_slice35 (n : Nat) : Txt.slice (pat n) (some 3) (some 5) = Str.ofString " \"" := by
  have h := slice_nat (patL n) (a := 3) (b := 5) (by omega) (by rw [patL_len]; omega)
  rw [lit_sq]
  exact h
theorem item_S {l : List Nat} {i : Nat} {c : Nat} (h : l[i]? = some c) : Txt.item (S l) (i : Int) = S [c] := by
  have hi : i < l.length := by
    rcases List.getElem?_eq_some_iff.mp h with ⟨h, _⟩; exact h
  unfold Txt.item Txt.charAt
  rw [StrLaws.seqIndex_nonneg (by omega) (by rw [S_len]; omega)]
  have : (S l).cps[(i : Int).toNat]? = some c := by
    show l.toArray[_]? = _
    simpa using h
  simp only [Option.bind_some, this]
  rfl
theorem patL_quote {n i : Nat} (h1 : 5 ≤ i) (h2 : i < n + 5) : (patL n)[i]? = some 34 := by
  unfold patL
  have e : headL.length = 5 := rfl
  rw [List.getElem?_append_right (by omega), List.getElem?_append_left (by simp [qs]; omega)]
  rw [qs, List.getElem?_replicate, if_pos (by omega)]
theorem patL_x (n : Nat) : (patL n)[n + 5]? = some 120 := by
  unfold patL
  rw [List.getElem?_append_right (by simp [headL]), List.getElem?_append_right (by simp [headL, qs])]
  simp [qs, headL]
theorem patL_last (n : Nat) : (patL n)[n + 6]? = some 34 := by
  unfold patL
  rw [List.getElem?_append_right (by simp [headL]), List.getElem?_append_right (by simp [headL, qs])]
  simp [qs, headL]
-- replace of one sign by one sign
def sub1 (c d : Nat) (l : List Nat) : List Nat := l.map fun k => if k = c then d else k
theorem sub1_free {c d : Nat} {l : List Nat} (h : c ∉ l) : sub1 c d l = l := by
  unfold sub1
  conv => rhs; rw [← List.map_id l]
  refine List.map_congr_left fun k hk => ?_
  have : k ≠ c := fun e => h (e ▸ hk)
  simp [this]
theorem sub1_join (c d : Nat) : ∀ parts : List Str, (∀ p ∈ parts, c ∉ p.cps.toList) → sub1 c d (Str.join ⟨#[c]⟩ parts).cps.toList = (Str.join ⟨#[d]⟩ parts).cps.toList
  | [], _ => rfl
  | [p], h => sub1_free (h p (List.mem_singleton.mpr rfl))
  | p :: q :: r, h => by
    have ih := sub1_join c d (q :: r) fun a ha => h a (List.mem_cons_of_mem _ ha)
    show sub1 c d (p ++ ⟨#[c]⟩ ++ Str.join ⟨#[c]⟩ (q :: r)).cps.toList = (p ++ ⟨#[d]⟩ ++ Str.join ⟨#[d]⟩ (q :: r)).cps.toList
    simp only [Str.cps_append, Array.toList_append]
    unfold sub1 at ih ⊢
    rw [List.map_append, List.map_append, ih]
    have hp := sub1_free (d := d) (h p (List.mem_cons_self ..))
    unfold sub1 at hp
    rw [hp]
    simp
theorem replace_one_one (x : Str) (c d : Nat) : (Txt.replace x ⟨#[c]⟩ ⟨#[d]⟩).cps.toList = sub1 c d x.cps.toList := by
  rw [StrLaws.replace_one, ← sub1_join c d _ (StrLaws.split_free x c), StrLaws.join_split]
theorem replace_S (l : List Nat) (c d : Nat) : Txt.replace (S l) (S [c]) (S [d]) = S (sub1 c d l) := by
  refine Str.ext' ?_
  have h := replace_one_one (S l) c d
  have h2 : (Txt.replace (S l) (S [c]) (S [d])).cps.toList = (S (sub1 c d l)).cps.toList := by
    have e : (S l).cps.toList = l := by simp [S]
    rw [e] at h
    have e2 : (S (sub1 c d l)).cps.toList = sub1 c d l := by simp [S]
    rw [e2]
    exact h
  exact Array.toList_inj.mp h2
theorem replace_dots (n : Nat) : Txt.replace (dots n) (Str.ofString ".") (Str.ofString "\"") = quotes n := by
  rw [lit_dot, lit_q, dots, replace_S]; simp [sub1, ds, qs, quotes]
theorem replace_quotes (n : Nat) : Txt.replace (quotes n) (Str.ofString "\"") (Str.ofString ".") = dots n := by
  rw [lit_dot, lit_q, quotes, replace_S]; simp [sub1, ds, qs, dots]
end Mine
end
section -- C1
open PySem PySem.W PyProof.Rows PySem.Spec PySem.Calls
set_option maxRecDepth 100000
set_option maxHeartbeats 8000000
namespace Mine
def ParseTells (w : World) (p : Program) (loose : List Str) (mean : ExcName → Option Value) (mg mb : Str → Option Value) : Prop :=
  ∀ (dp un : Nat) (gd : Option (List Code)) (cn : Str) (cs : Scope) (a : Addr) (ccd : Value) (cl : List (Str × Addr)) (outer : List Env) (A₀ : Around) (base h₀ : Heap) (L : Addr) (m : Str → Option Value) (news : List (Addr × Obj)) (s : Shared) (n : Nat) (x : Str) (tk : Tok)
    (Q E : Value → Shared → Prop),
    Below A₀ base outer h₀ → Fr h₀ L s.heap m → (hd.heap_39 w.params).In h₀ → News h₀ L s.heap news → Top p loose mean mg mb h₀ → cs.kind = .function → n < 10000 → x = pat n → dp + 1 < recursionLimit → un + 8 < cLine →
    (∀ t h' tk', Fr h₀ L h' m → News h₀ L h' news → Q (.str (told n) t) { s with heap := h', toks := tk' }) →
    wpAny (model PySem.Challenge.rw_sr0020_01.row.prog w) (ktrTop dp un gd cn cs L a ccd cl outer) (call (.ref 90) [.str x tk]) Q E s
-- the two heads of the text
theorem parse_slice3 {prog : Program} {w : World} {A : Around} {E : Value → Shared → Prop} {s : Shared} {value slice : PySem.Expr} {x : Str} {t : Tok} {h₀ : Heap} {L : Addr} {m : Str → Option Value} {news : List (Addr × Obj)} {Q : Value → Shared → Prop} {n : Nat} {uj : Tok}
    (hx : x = pat n) (hn : n < 10000) (hF : Fr h₀ L s.heap m) (hN : News h₀ L s.heap news) (h : ∀ h' t' k, Fr h₀ L h' m → News h₀ L h' news → Q (.str (Str.ofString "257") t') { s with heap := h', toks := k })
    (hs : subscripted slice false (.str x t) (.ref s.heap.objs.size) = operate [.ref s.heap.objs.size, .str x t] (getItem (.str x t) (.ref s.heap.objs.size)))
    (ht : ∀ r, letTemporaryGo value (.str x t) r = pure ()) :
    wpAny (model prog w) A (subscriptTail value slice (.str x t) (.ref s.heap.objs.size)) Q E { s with heap := s.heap.push { cls := .type "slice", data := .fields #[.none, .int 3 uj, .none] } } :=
  slice_strN_ns hF hN (fun h' t' k F' N' => by rw [show Txt.slice x none (some 3) = Str.ofString "257" from by rw [hx]; exact pat_slice03 n]; exact h h' t' k F' N') hs ht (by rw [hx, pat_len, sizeLine_eq]; omega)
theorem parse_slice35 {prog : Program} {w : World} {A : Around} {E : Value → Shared → Prop} {s : Shared} {value slice : PySem.Expr} {x : Str} {t : Tok} {h₀ : Heap} {L : Addr} {m : Str → Option Value} {news : List (Addr × Obj)} {Q : Value → Shared → Prop} {n : Nat} {ui uj : Tok}
    (hx : x = pat n) (hn : n < 10000) (hF : Fr h₀ L s.heap m) (hN : News h₀ L s.heap news) (h : ∀ h' t' k, Fr h₀ L h' m → News h₀ L h' news → Q (.str (Str.ofString " \"") t') { s with heap := h', toks := k })
    (hs : subscripted slice false (.str x t) (.ref s.heap.objs.size) = operate [.ref s.heap.objs.size, .str x t] (getItem (.str x t) (.ref s.heap.objs.size)))
    (ht : ∀ r, letTemporaryGo value (.str x t) r = pure ()) :
    wpAny (model prog w) A (subscriptTail value slice (.str x t) (.ref s.heap.objs.size)) Q E { s with heap := s.heap.push { cls := .type "slice", data := .fields #[.int 3 ui, .int 5 uj, .none] } } :=
  slice_strN_ss hF hN (fun h' t' k F' N' => by rw [show Txt.slice x (some 3) (some 5) = Str.ofString " \"" from by rw [hx]; exact pat_slice35 n]; exact h h' t' k F' N') hs ht (by rw [hx, pat_len, sizeLine_eq]; omega)
local macro_rules | `(tactic| walk_at "subscriptTail Name Slice str ref") => `(tactic| (with_unfolding_all refine' parse_slice3 ?x ?n ?F ?N ?_ ?hs ?ht; (case x => assumption); (case n => assumption); (case F => k_asm); (case N => k_asm); (case hs => with_unfolding_all rfl); (case ht => intro _; with_unfolding_all rfl); intro h' t' k' F' N'))
local macro_rules | `(tactic| walk_at "subscriptTail Name Slice str ref") => `(tactic| (with_unfolding_all refine' parse_slice35 ?x ?n ?F ?N ?_ ?hs ?ht; (case x => assumption); (case n => assumption); (case F => k_asm); (case N => k_asm); (case hs => with_unfolding_all rfl); (case ht => intro _; with_unfolding_all rfl); intro h' t' k' F' N'))
-- a sign of the text
def ItemIs (x : Str) (i : Int) (y : Str) : Prop := 0 ≤ i ∧ i < x.length ∧ x.length < 2 ^ 62 ∧ Txt.item x i = y
theorem item_is {prog : Program} {w : World} {A : Around} {E : Value → Shared → Prop} {s : Shared} {value slice : PySem.Expr} {x y : Str} {t : Tok} {Q : Value → Shared → Prop} {i : Int} {u : Tok} (hI : ItemIs x i y)
    (h : Q (.str y s.toks) { s with toks := s.toks + 1 })
    (hs : subscripted slice false (.str x t) (.int i u) = operate [.str x t, .int i u] (getItem (.str x t) (.int i u)))
    (ht : ∀ r, letTemporaryGo value (.str x t) r = pure ()) :
    wpAny (model prog w) A (subscriptTail value slice (.str x t) (.int i u)) Q E s := by
  obtain ⟨h0, h1, h2, h3⟩ := hI
  refine item_str (fitsSsize_of (N := 9223372036854775808) (by omega) (by omega) (Int.le_refl _)) (by omega) h1 (fun _ => ?_) hs ht
  rw [h3]; exact h
local macro_rules | `(tactic| walk_at "subscriptTail Name Name str int") => `(tactic| (with_unfolding_all refine' item_is ?x ?_ ?hs ?ht; (case x => assumption); (case hs => with_unfolding_all rfl); (case ht => intro _; with_unfolding_all rfl)))
-- the loop
def parseInv (n : Nat) (i : Int) (d : Str) : Prop :=
  (∃ k : Nat, i = 5 + 2 * k ∧ 2 * k ≤ n ∧ d = quotes k) ∨ (i = n + 6 ∧ n % 2 = 0 ∧ d = quotes (n / 2) ++ Str.ofString "x")
theorem parseInv_start (n : Nat) : parseInv n 5 (Str.ofString "") := .inl ⟨0, by omega, by omega, by decide +kernel⟩
theorem parseInv_len {n : Nat} {i : Int} {d : Str} (h : parseInv n i d) : d.length ≤ n + 1 := by
  rcases h with ⟨k, _, hk, rfl⟩ | ⟨_, _, rfl⟩
  · rw [quotes, S_len, qs, List.length_replicate]; omega
  · rw [lit_x, quotes, S_app, S_len]; simp [qs]; omega
def pvars (m : Str → Option Value) (x : Str) (i : Int) (d : Str) (nn : Int) (tx ti td tn : Tok) : Str → Option Value := fun y =>
  if y = Str.ofString "resp" then some (.str x tx) else if y = Str.ofString "i" then some (.int i ti) else if y = Str.ofString "dirname" then some (.str d td) else if y = Str.ofString "n" then some (.int nn tn) else m y
def ParsePost (h₀ : Heap) (L : Addr) (s : Shared) (news : List (Addr × Obj)) (x : Str) (n : Nat) (nn : Int) (tx tn : Tok) (i : Int) (Q : Flow → Shared → Prop) (f : Flow) (s₃ : Shared) : Prop :=
  match f with
  | .next | .cont => ∃ h' tk m₂ i' d' ti' td', s₃ = { s with heap := h', toks := tk } ∧ Fr h₀ L h' m₂ ∧ News h₀ L h' news ∧ i < i' ∧ i' < n + 7 ∧ parseInv n i' d' ∧ m₂ (Str.ofString "resp") = some (.str x tx) ∧ m₂ (Str.ofString "i") = some (.int i' ti') ∧ m₂ (Str.ofString "dirname") = some (.str d' td') ∧ m₂ (Str.ofString "n") = some (.int nn tn)
  | .brk => Q .next s₃
  | .ret v => Q (.ret v) s₃
theorem parse_while {prog : Program} {w : World} {A : Around} {E : Value → Shared → Prop} {Q : Flow → Shared → Prop} {s : Shared} {env : Env} {h₀ : Heap} {L : Addr} {test : PySem.Expr} {body : List Stmt} {pos : Pos} {m : Str → Option Value} {news : List (Addr × Obj)}
    {x : Str} {n : Nat} {nn : Int} {tx ti td tn : Tok} (_hx : x = pat n) (F : Fr h₀ L s.heap m) (N : News h₀ L s.heap news)
    (h1 : m (Str.ofString "resp") = some (.str x tx)) (h2 : m (Str.ofString "i") = some (.int 5 ti)) (h3 : m (Str.ofString "dirname") = some (.str (Str.ofString "") td)) (h4 : m (Str.ofString "n") = some (.int nn tn))
    (turn : ∀ m₁ h₁ tk₁ i d ti td, Fr h₀ L h₁ (pvars m₁ x i d nn tx ti td tn) → News h₀ L h₁ news → 5 ≤ i → i < n + 7 → parseInv n i d →
      wpAny (model prog w) A (isTrue test env (eval test env)) (fun b s₂ =>
        if b = true then wpAny (model prog w) A (execs body env) (ParsePost h₀ L s news x n nn tx tn i Q) E s₂ else Q .next s₂) E { s with heap := h₁, toks := tk₁ })
    (hE : PassesOwn (model prog w) A env E) :
    wpAny (model prog w) A (exec (.While test body [] pos) env) Q E s := by
  refine While_inv2 (fun μ m nx => nx = news ∧ ∃ i d ti td, (μ : Int) = n + 7 - i ∧ 5 ≤ i ∧ i < n + 7 ∧ parseInv n i d ∧ m (Str.ofString "resp") = some (.str x tx) ∧ m (Str.ofString "i") = some (.int i ti) ∧ m (Str.ofString "dirname") = some (.str d td) ∧ m (Str.ofString "n") = some (.int nn tn)) (n₀ := n + 2) F N
    ⟨rfl, 5, _, ti, td, by omega, by omega, by omega, parseInv_start n, h1, h2, h3, h4⟩ ?_ hE
  rintro μ m₁ nx h₁ tk₁ F₁ N₁ ⟨rfl, i, d, ti', td', hμ, hi5, hi, hinv, e1, e2, e3, e4⟩
  have em : pvars m₁ x i d nn tx ti' td' tn = m₁ := by
    funext y
    unfold pvars
    split
    · rename_i h; rw [h]; exact e1.symm
    split
    · rename_i h; rw [h]; exact e2.symm
    split
    · rename_i h; rw [h]; exact e3.symm
    split
    · rename_i h; rw [h]; exact e4.symm
    rfl
  refine wpAny_mono (turn m₁ h₁ tk₁ i d ti' td' (by rw [em]; exact F₁) N₁ hi5 hi hinv) (fun b s₂ hb => ?_) fun _ _ h => h
  cases b with
  | false => exact hb
  | true =>
    simp only [if_true] at hb ⊢
    refine wpAny_mono hb (fun f s₃ hf => ?_) fun _ _ h => h
    cases f with
    | brk => exact hf
    | ret v => exact hf
    | next =>
      obtain ⟨h', tk, m₂, i', d', ti2, td2, rfl, F2, N2, hlt, hlt2, hinv2, f1, f2, f3, f4⟩ := hf
      exact ⟨h', tk, m₂, _, (n + 7 - i').toNat, rfl, F2, N2, by omega, rfl, i', d', ti2, td2, by omega, by omega, hlt2, hinv2, f1, f2, f3, f4⟩
    | cont =>
      obtain ⟨h', tk, m₂, i', d', ti2, td2, rfl, F2, N2, hlt, hlt2, hinv2, f1, f2, f3, f4⟩ := hf
      exact ⟨h', tk, m₂, _, (n + 7 - i').toNat, rfl, F2, N2, by omega, rfl, i', d', ti2, td2, by omega, by omega, hlt2, hinv2, f1, f2, f3, f4⟩
theorem parse_cases {x : Str} {n : Nat} {i : Int} {d : Str} (hx : x = pat n) (hn : n < 10000) (hinv : parseInv n i d) :
    (∃ k : Nat, i = 5 + 2 * k ∧ 2 * k + 2 ≤ n ∧ d = quotes k ∧ ItemIs x i (Str.ofString "\"") ∧ ItemIs x (i + 1) (Str.ofString "\"")) ∨
    (∃ k : Nat, i = 5 + 2 * k ∧ 2 * k + 1 = n ∧ d = quotes k ∧ ItemIs x i (Str.ofString "\"") ∧ ItemIs x (i + 1) (Str.ofString "x")) ∨
    (∃ k : Nat, i = 5 + 2 * k ∧ 2 * k = n ∧ d = quotes k ∧ ItemIs x i (Str.ofString "x")) ∨
    (i = n + 6 ∧ n % 2 = 0 ∧ d = quotes (n / 2) ++ Str.ofString "x" ∧ ItemIs x i (Str.ofString "\"")) := by
  have it : ∀ (j : Nat) (c : Nat), (patL n)[j]? = some c → ItemIs x (j : Int) (S [c]) := by
    intro j c h
    have hj : j < (patL n).length := (List.getElem?_eq_some_iff.mp h).1
    rw [patL_len] at hj
    refine ⟨by omega, ?_, ?_, ?_⟩
    · rw [hx, pat_len]; omega
    · rw [hx, pat_len]; omega
    · rw [hx]; exact item_S h
  rw [lit_q, lit_x]
  rcases hinv with ⟨k, hi, hk, hd⟩ | ⟨hi, hp, hd⟩
  · have e1 : i = ((5 + 2 * k : Nat) : Int) := by omega
    have e2 : i + 1 = ((5 + 2 * k + 1 : Nat) : Int) := by omega
    by_cases h2 : 2 * k + 2 ≤ n
    · refine .inl ⟨k, hi, h2, hd, ?_, ?_⟩
      · rw [e1]; exact it _ _ (patL_quote (by omega) (by omega))
      · rw [e2]; exact it _ _ (patL_quote (by omega) (by omega))
    · by_cases h1 : 2 * k + 1 = n
      · refine .inr (.inl ⟨k, hi, h1, hd, ?_, ?_⟩)
        · rw [e1]; exact it _ _ (patL_quote (by omega) (by omega))
        · rw [e2]; refine it _ _ ?_
          rw [show 5 + 2 * k + 1 = n + 5 by omega]; exact patL_x n
      · refine .inr (.inr (.inl ⟨k, hi, by omega, hd, ?_⟩))
        rw [e1]; refine it _ _ ?_
        rw [show 5 + 2 * k = n + 5 by omega]; exact patL_x n
  · refine .inr (.inr (.inr ⟨hi, hp, hd, ?_⟩))
    rw [show i = ((n + 6 : Nat) : Int) by omega]; exact it _ _ (patL_last n)
theorem parse_next1 {n k : Nat} {i : Int} {d : Str} (hi : i = 5 + 2 * k) (h : 2 * k + 2 ≤ n) (hd : d = quotes k) : parseInv n (i + 1 + 1) (d ++ Str.ofString "\"") := by
  refine .inl ⟨k + 1, by omega, by omega, ?_⟩
  rw [hd, lit_q, quotes, quotes, S_app, qs, qs, ← List.replicate_succ']
theorem parse_next2 {n k : Nat} {i : Int} {d : Str} (hi : i = 5 + 2 * k) (h : 2 * k = n) (hd : d = quotes k) : parseInv n (i + 1) (d ++ Str.ofString "x") :=
  .inr ⟨by omega, by omega, by rw [hd, show n / 2 = k by omega]⟩
theorem told_odd {n k : Nat} {d : Str} (h : 2 * k + 1 = n) (hd : d = quotes k) : d = told n := by
  rw [hd, told, toldL, if_neg (by omega), show n / 2 = k by omega]; rfl
theorem told_even {n : Nat} {d : Str} (h : n % 2 = 0) (hd : d = quotes (n / 2) ++ Str.ofString "x") : d = told n := by
  rw [hd, told, toldL, if_pos h, lit_x, quotes, S_app]
local macro_rules | `(tactic| walk_at "exec While Compare cons nil") => `(tactic| (with_unfolding_all refine' parse_while ?x ?F ?N ?h1 ?h2 ?h3 ?h4 ?_ ?hE; (case x => assumption); (case F => k_asm); (case N => k_asm); (case h1 => with_unfolding_all rfl); (case h2 => with_unfolding_all rfl); (case h3 => with_unfolding_all rfl); (case h4 => with_unfolding_all rfl); (case hE => passes_own); (intro m₁ h₁ tk₁ i d ti td F' N' hi5 hi hinv); (have hdl := parseInv_len hinv); (try k_sweep); (rcases parse_cases (by assumption) (by assumption) hinv with ⟨k, c1, c2, c3, c4, c5⟩ | ⟨k, c1, c2, c3, c4, c5⟩ | ⟨k, c1, c2, c3, c4⟩ | ⟨c1, c2, c3, c4⟩)))
local macro_rules | `(tactic| walk_at "ParsePost brk") => `(tactic| (dsimp only [ParsePost]))
local macro_rules | `(tactic| walk_at "ParsePost next") => `(tactic| (dsimp only [ParsePost]; refine' ⟨_, _, _, _, _, _, _, ?e1, ?e2, ?e3, ?e4, ?e5, ?e6, ?e7, ?e8, ?e9, ?e10⟩; (case e1 => exact rfl); (case e2 => k_asm); (case e3 => k_asm); (case e7 => with_unfolding_all rfl); (case e8 => with_unfolding_all rfl); (case e9 => with_unfolding_all rfl); (case e10 => with_unfolding_all rfl); (case e4 => omega); (case e5 => omega); (case e6 => first | exact parse_next1 (by assumption) (by assumption) (by assumption) | exact parse_next2 (by assumption) (by assumption) (by assumption))))
theorem parse_tells {w p loose mean mg mb} : ParseTells w p loose mean mg mb := by
  unfold ParseTells
  w_top off
  k_fill
  intro dp un gd cn cs a ccd cl outer A₀ base h₀ L m news s n x tk Q E B F X N T hk hn hx hd hu hret
  have hlen : x.length = n + 7 := by rw [hx, pat_len]
  refine wpAny_call ?_
  k_dflt (refine' code_def ?k1 ?k2 ?k3 ?k4 ?k5 ?kA ?kF ?kK ?k6 ?k7 ?k8 (binds := [(Str.ofString "resp", Value.str x tk)]) ?k9 ?kB ?_ ?c2 ?c3 ?c4 ?c5; (case kA => exact rfl); (case kF => exact rfl); (case kK => assumption); (case k1 => k_asm); (case k2 => k_asm); (case k3 => k_asm); (case k4 => k_asm); (case k5 => k_asm); (case k6 => k_is); (case k7 => k_is); (case k8 => ktr_room); (case k9 => exact BindsTo.of_eq rfl); (case c5 => decide); (case kB => exact locs rfl); (case c2 => exact rfl); (case c3 => exact rfl); (case c4 => exact rfl); k_whole; intro g' L' h' FG' F' N' B' X' T'; (try dsimp only); (try k_lift B'); (try k_fold))
  k_steps
  all_goals (refine' cb_retS hret ?e1 ?e2 ?e3; (case e2 => k_asm); (case e3 => k_asm); (case e1 => first | exact told_odd (by assumption) (by assumption) | exact told_even (by assumption) (by assumption)))
end Mine
end
section -- R0
open PySem PySem.W PyProof.Rows PySem.Spec PySem.Calls
set_option maxRecDepth 100000
set_option maxHeartbeats 4000000
namespace Mine
theorem plainAttrs_re : PlainAttrs "re.Pattern" :=
  ⟨⟨"object.__getattribute__", by rw [typeLookup_type, builtinLookup_eq_fast]; kernel_rfl, by decide +kernel⟩, by rw [typeLookup_type, builtinLookup_eq_fast]; kernel_rfl⟩
theorem slot_re_sub : Slot "re.Pattern" "sub" "re.Pattern.sub" :=
  .of (owner := "re.Pattern") (n := "sub") (by rw [typeLookup_type, builtinLookup_eq_fast]; kernel_rfl) (by decide +kernel) (by decide +kernel) (by decide +kernel)
    (by first | exact .inl (by decide +kernel) | exact .inr (by decide +kernel)) (by rw [isSubtype_type]; kernel_rfl)
theorem type_re_sub : typeOf (.builtin "re.Pattern.sub") = pure (.type "method_descriptor") := by show builtinType _ = _; rw [builtinType_eq_fast]; kernel_rfl
theorem entry_re_sub : entryFor table "re.Pattern.sub" = some Builtin.«re.Pattern.sub» := entryFor_of_tree (by kernel_rfl)
theorem entry_re_loop : entryFor table "re.Pattern.sub.loop" = some Builtin.«re.Pattern.sub.loop» := entryFor_of_tree (by kernel_rfl)
theorem args_re_sub (p : Addr) (a b : Str) (t u : Tok) : argsOk "re.Pattern.sub" ⟨[.ref p, .str a t, .str b u], []⟩ := by
  unfold argsOk; kernel_rfl
theorem nocall_str : typeLookup (.type "str") "__call__" = pure none := by rw [typeLookup_type, builtinLookup_eq_fast]; kernel_rfl
end Mine
end
section -- R1
open PySem
set_option maxRecDepth 100000
set_option maxHeartbeats 400000
namespace Mine
open PySem.Sre
def code1 : Array Nat := #[14, 4, 0, 1, 1, 6, 1, 16, 46, 1]
def code2 : Array Nat := #[14, 9, 4, 1, 2, 16, 10, 16, 13, 0, 7, 7, 16, 13, 16, 10, 15, 18, 5, 16, 10, 15, 13, 11, 16, 13, 5, 5, 0, 16, 10, 1, 15, 2, 0, 1]
theorem ds_getD {n s : Nat} (h : s < n) : (ds n).toArray.getD s 0 = 46 := by
  rw [Array.getD_eq_getD_getElem?]
  simp [ds, h]
-- the search for a line's end among dots finds none
theorem inSet2 (seen : Seen) : ∃ seen', inSet code2 46 code2.size 5 true seen = .ok (false, seen') := ⟨_, rfl⟩
theorem admitted2 (m : M) (n : Nat) (hc : m.code = code2) (ht : m.text = (ds n).toArray) (hl : m.lim = n) : ∀ (fuel s : Nat) (seen : Seen), ∃ seen', m.admitted fuel s seen = .ok (none, seen')
  | 0, _, seen => ⟨seen, rfl⟩
  | fuel + 1, s, seen => by
    unfold M.admitted
    by_cases h : s ≥ m.lim
    · exact ⟨seen, by rw [if_pos h]⟩
    · rw [if_neg h, ht, hc, ds_getD (by omega)]
      obtain ⟨seen', e⟩ := inSet2 seen
      rw [e]
      exact admitted2 m n hc ht hl fuel (s + 1) seen'
theorem attempt2 (m : M) (n s : Nat) (b : Bool) (hc : m.code = code2) (ht : m.text = (ds n).toArray) (hl : m.lim = n) (hf : m.frames = []) (ho : m.outcome = none) :
    (m.attemptFrom s b).answer = some false ∧ (m.attemptFrom s b).frames = [] ∧ (m.attemptFrom s b).outcome = none := by
  unfold M.attemptFrom
  have hh : m.hasFirstSet = true := by unfold M.hasFirstSet; rw [hc]; rfl
  obtain ⟨seen', e'⟩ := admitted2 m n hc ht hl (m.lim + 1 - s) s m.seen
  rw [hh, e']
  exact ⟨rfl, hf, ho⟩
theorem search2 (n : Nat) : (forSearch code2 (ds n).toArray 0 0 n false).answer = some false ∧ (forSearch code2 (ds n).toArray 0 0 n false).frames = [] ∧ (forSearch code2 (ds n).toArray 0 0 n false).outcome = none := by
  unfold forSearch
  dsimp only
  split
  · exact ⟨rfl, rfl, rfl⟩
  · exact attempt2 _ n 0 true rfl rfl rfl rfl rfl
theorem failed_of {m : M} (ha : m.answer = some false) (hf : m.frames = []) (ho : m.outcome = none) : (m.runFor 1).outcome = some .failed := by
  simp only [M.runFor, ho, Option.isSome_none, Bool.false_eq_true, if_false, M.step, ha, hf]
-- the sign at a line's head
theorem step_at (m : M) (hc : m.code = code1) (hp : m.pc = 5) (ha : m.answer = none) (ho : m.outcome = none) :
    ∃ seen, m.step = if (m.pos == 0 || m.text.getD (m.pos - 1) 0 == 10) = true then { m with seen := seen, pc := 7 } else { m with seen := seen, answer := some false } := by
  obtain ⟨code, text, lim, start, lastStart, wholeText, mustAdvance, pc, pos, handed, outermost, marks, lastmark, lastindex, loops, inner, frames, weight, answer, seen, outcome⟩ := m
  dsimp only at hc hp ha ho
  subst hc hp ha ho
  exact ⟨_, rfl⟩
theorem step_lit (m : M) (hc : m.code = code1) (hp : m.pc = 7) (ha : m.answer = none) (ho : m.outcome = none) (hl : m.pos < m.lim) (ht : m.text.getD m.pos 0 = 46) :
    ∃ seen, m.step = { m with seen := seen, pc := 9, pos := m.pos + 1 } := by
  obtain ⟨code, text, lim, start, lastStart, wholeText, mustAdvance, pc, pos, handed, outermost, marks, lastmark, lastindex, loops, inner, frames, weight, answer, seen, outcome⟩ := m
  dsimp only at hc hp ha ho hl ht
  subst hc hp ha ho
  refine ⟨?_, ?_⟩
  rotate_left
  · show (if pos ≥ lim then _ else match accepts code1 7 (text.getD pos 0) _ with | .error why => _ | .ok (false, seen) => _ | .ok (true, seen) => _) = _
    rw [if_neg (by omega), ht]
    rfl
theorem step_ok (m : M) (hc : m.code = code1) (hp : m.pc = 9) (ha : m.answer = none) (ho : m.outcome = none) (hw : m.wholeText = false) (hm : m.mustAdvance = false) :
    ∃ seen, m.step = { m with seen := seen, handed := m.pos, answer := some true } := by
  obtain ⟨code, text, lim, start, lastStart, wholeText, mustAdvance, pc, pos, handed, outermost, marks, lastmark, lastindex, loops, inner, frames, weight, answer, seen, outcome⟩ := m
  dsimp only at hc hp ha ho hw hm
  subst hc hp ha ho hw hm
  refine ⟨?_, ?_⟩
  rotate_left
  · show (if (outermost && (false && pos != lim || false && pos == start)) = true then _ else _) = _
    rw [if_neg (by simp)]
    rfl
theorem runFor_done {m : M} (h : m.outcome.isSome = true) : ∀ k, m.runFor k = m
  | 0 => rfl
  | k + 1 => by unfold M.runFor; rw [if_pos h]
theorem runFor_succ {m : M} (h : m.outcome = none) (k : Nat) : m.runFor (k + 1) = m.step.runFor k := by
  conv => lhs; unfold M.runFor
  rw [h]; rfl
theorem runFor_add : ∀ (a b : Nat) (m : M), m.runFor (a + b) = (m.runFor a).runFor b
  | 0, b, m => by rw [Nat.zero_add]; rfl
  | a + 1, b, m => by
    cases h : m.outcome with
    | some o =>
      have hs : m.outcome.isSome = true := by rw [h]; rfl
      rw [runFor_done hs, runFor_done hs, runFor_done hs]
    | none => rw [show a + 1 + b = (a + b) + 1 by omega, runFor_succ h, runFor_succ h, runFor_add a b]
structure Att (n s : Nat) (m : M) : Prop where
  code : m.code = code1
  text : m.text = (ds n).toArray
  lim : m.lim = n
  last : m.lastStart = n
  whole : m.wholeText = false
  must : m.mustAdvance = false
  pc : m.pc = 5
  pos : m.pos = s
  start : m.start = s
  frames : ∃ ob, m.frames = [{ wait := .nextStart, pc := 5, pos := s, outermost := ob }]
  weight : m.weight = 1
  answer : m.answer = none
  outcome : m.outcome = none
theorem attemptFrom1 {n s : Nat} {b : Bool} {m : M} (code : m.code = code1) (text : m.text = (ds n).toArray) (lim : m.lim = n) (last : m.lastStart = n) (whole : m.wholeText = false) (must : m.mustAdvance = false) (pc : m.pc = 5)
    (frames : m.frames = []) (weight : m.weight = 0) (answer : m.answer = none) (outcome : m.outcome = none) : Att n s (m.attemptFrom s b) := by
  have hh : m.hasFirstSet = false := by unfold M.hasFirstSet; rw [code]; rfl
  have e : m.attemptFrom s b = m.attemptAt s b := by unfold M.attemptFrom; rw [hh]; rfl
  rw [e]
  unfold M.attemptAt M.attempt
  rw [if_neg (by show ¬ (m.weight + 1 + 0 > 16777216); rw [weight]; decide)]
  exact ⟨code, text, lim, last, whole, must, pc, rfl, rfl, ⟨b, by show _ :: m.frames = _; rw [frames, pc]⟩, by show m.weight + 1 + 0 = 1; rw [weight], answer, outcome⟩
theorem start1 {n s : Nat} (hs : s < n) : Att n s (forSearch code1 (ds n).toArray 0 s n false) := by
  unfold forSearch
  dsimp only
  rw [if_neg (by simp [header, ops, code1]; omega)]
  exact attemptFrom1 rfl rfl rfl rfl rfl rfl rfl rfl rfl rfl rfl
theorem none1 {n : Nat} : (forSearch code1 (ds n).toArray 0 n n false).answer = some false ∧ (forSearch code1 (ds n).toArray 0 n n false).frames = [] ∧ (forSearch code1 (ds n).toArray 0 n n false).outcome = none := by
  unfold forSearch
  dsimp only
  rw [if_pos (by simp [header, ops, code1])]
  exact ⟨rfl, rfl, rfl⟩
theorem step_back (m : M) (f : Sre.Frame) (yes : Bool) (ha : m.answer = some yes) (hf : m.frames = [f]) (ho : m.outcome = none) :
    m.step = M.resume { m with answer := none, frames := [], weight := m.weight - (1 + f.kept.marks.size), pc := f.pc, pos := f.pos, outermost := f.outermost } f yes := by
  unfold M.step
  rw [if_neg (by rw [ho]; simp), ha, hf]
theorem step_end (m : M) (yes : Bool) (ha : m.answer = some yes) (hf : m.frames = []) (ho : m.outcome = none) :
    m.step = { m with outcome := some (if yes then .matched else .failed) } := by
  unfold M.step
  rw [if_neg (by rw [ho]; simp), ha, hf]
theorem match1 {n : Nat} (hn : 1 ≤ n) {m : M} (h : Att n 0 m) : (m.runFor 5).outcome = some .matched ∧ (m.runFor 5).start = 0 ∧ (m.runFor 5).handed = 1 := by
  obtain ⟨ob, hf⟩ := h.frames
  obtain ⟨s1, e1⟩ := step_at m h.code h.pc h.answer h.outcome
  rw [if_pos (by rw [h.pos]; rfl)] at e1
  rw [show (5 : Nat) = 4 + 1 from rfl, runFor_succ h.outcome, e1]
  obtain ⟨s2, e2⟩ := step_lit { m with seen := s1, pc := 7 } h.code rfl h.answer h.outcome (by show m.pos < m.lim; rw [h.pos, h.lim]; omega) (by show m.text.getD m.pos 0 = 46; rw [h.pos, h.text]; exact ds_getD (by omega))
  rw [show (4 : Nat) = 3 + 1 from rfl, runFor_succ (by exact h.outcome), e2]
  obtain ⟨s3, e3⟩ := step_ok { m with seen := s2, pc := 9, pos := m.pos + 1 } h.code rfl h.answer h.outcome h.whole h.must
  rw [show (3 : Nat) = 2 + 1 from rfl, runFor_succ (by exact h.outcome), e3]
  rw [show (2 : Nat) = 1 + 1 from rfl, runFor_succ (by exact h.outcome), step_back _ { wait := .nextStart, pc := 5, pos := 0, outermost := ob } true (by rfl) (by exact hf) (by exact h.outcome)]
  have hr : ∀ m : M, M.resume m { wait := .nextStart, pc := 5, pos := 0, outermost := ob } true = m.say true := fun m => rfl
  rw [hr, runFor_succ (by exact h.outcome), step_end _ true (by rfl) (by rfl) (by exact h.outcome)]
  exact ⟨rfl, h.start, by show m.pos + 1 = 1; rw [h.pos]⟩
theorem fail1 {n : Nat} : ∀ (k s : Nat), n - s = k → 1 ≤ s → s ≤ n → ∀ {m : M}, Att n s m → (m.runFor (2 * k + 3)).outcome = some .failed := by
  intro k
  induction k with
  | zero =>
    intro s hk h1 hs m h
    obtain ⟨ob, hf⟩ := h.frames
    have hs' : s = n := by omega
    subst hs'
    obtain ⟨s1, e1⟩ := step_at m h.code h.pc h.answer h.outcome
    rw [if_neg (by rw [h.pos, h.text, ds_getD (by omega)]; simp; omega)] at e1
    rw [show 2 * 0 + 3 = 2 + 1 from rfl, runFor_succ h.outcome, e1, show (2 : Nat) = 1 + 1 from rfl, runFor_succ (by exact h.outcome), step_back _ { wait := .nextStart, pc := 5, pos := s, outermost := ob } false (by rfl) (by exact hf) (by exact h.outcome)]
    have hr : ∀ m : M, m.lastStart = s → M.resume m { wait := .nextStart, pc := 5, pos := s, outermost := ob } false = m.say false := fun m e => by
      show (if s < m.lastStart then _ else m.say false) = _
      rw [if_neg (by omega)]
    rw [hr _ (by exact h.last), runFor_succ (by exact h.outcome), step_end _ false (by rfl) (by rfl) (by exact h.outcome)]
    rfl
  | succ k ih =>
    intro s hk h1 hs m h
    obtain ⟨ob, hf⟩ := h.frames
    obtain ⟨s1, e1⟩ := step_at m h.code h.pc h.answer h.outcome
    rw [if_neg (by rw [h.pos, h.text, ds_getD (by omega)]; simp; omega)] at e1
    rw [show 2 * (k + 1) + 3 = (2 * k + 3 + 1) + 1 by omega, runFor_succ h.outcome, e1, runFor_succ (by exact h.outcome), step_back _ { wait := .nextStart, pc := 5, pos := s, outermost := ob } false (by rfl) (by exact hf) (by exact h.outcome)]
    have hr : ∀ m : M, m.lastStart = n → M.resume m { wait := .nextStart, pc := 5, pos := s, outermost := ob } false = M.attemptFrom { m with mustAdvance := false } (s + 1) false := fun m e => by
      show (if s < m.lastStart then _ else m.say false) = _
      rw [if_pos (by omega)]
    rw [hr _ (by exact h.last)]
    exact ih (s + 1) (by omega) (by omega) (by omega) (attemptFrom1 h.code h.text h.lim h.last h.whole rfl rfl rfl (by show m.weight - (1 + 0) = 0; rw [h.weight]) rfl h.outcome)
end Mine
end
section -- R2
open PySem PySem.W PyProof.Rows PySem.Spec PySem.Calls PySem.Builtin PySem.Builtin.Re
set_option maxRecDepth 100000
set_option maxHeartbeats 400000
namespace Mine
section
variable {M : Model} {A : Around} {E : Value → Shared → Prop} {s : Shared}
theorem drive : ∀ (turns N : Nat) {m m' : Sre.M} {Q : Sre.M → Shared → Prop}, m.runFor N = m' → m'.outcome.isSome = true → N + 1 ≤ 4 * turns → Q m' s → wpAny M A (reDrive turns m) Q E s := by
  intro turns
  induction turns with
  | zero => intro N m m' Q _ _ h; omega
  | succ t ih =>
    intro N m m' Q hr ho hN hQ
    unfold reDrive
    show wpAny M A (if (m.runFor 4).outcome.isSome = true then pure (m.runFor 4) else rule "sre.turn" >>= fun _ => reDrive t (m.runFor 4)) Q E s
    cases h : (m.runFor 4).outcome.isSome with
    | true =>
      rw [if_pos rfl]
      have e : m.runFor 4 = m' := by
        by_cases h4 : N ≤ 4
        · rw [show 4 = N + (4 - N) by omega, runFor_add, hr, runFor_done ho]
        · rw [show N = 4 + (N - 4) by omega, runFor_add, runFor_done h] at hr
          exact hr
      rw [e]
      exact wpAny_pure hQ
    | false =>
      rw [if_neg Bool.false_ne_true]
      refine wpAny_bind (wpAny_rule ?_)
      by_cases h4 : N ≤ 4
      · exfalso
        rw [show 4 = N + (4 - N) by omega, runFor_add, hr, runFor_done ho, ho] at h
        cases h
      · refine ih (N - 4) ?_ ho (by omega) hQ
        rw [← runFor_add, show 4 + (N - 4) = N by omega]
        exact hr
theorem rules_skip {c : Nat → Bool} {g : Nat → String} {Q : PUnit → Shared → Prop} (h : Q PUnit.unit s) : ∀ l : List Nat,
    wpAny M A (forIn l PUnit.unit fun i (_ : PUnit) => if c i = true then (rule (g i) >>= fun _ => pure (ForInStep.yield PUnit.unit)) else pure (ForInStep.yield PUnit.unit)) Q E s
  | [] => by rw [List.forIn_nil]; exact wpAny_pure h
  | i :: r => by
    rw [List.forIn_cons]
    have ih := rules_skip (c := c) (g := g) h r
    refine wpAny_bind ?_
    split
    · exact wpAny_bind (wpAny_rule (wpAny_pure ih))
    · exact wpAny_pure ih
theorem to_end {N : Nat} {m : Sre.M} {Q : Option Sre.M → Shared → Prop} (hN : N < 2 ^ 60) (ho : (m.runFor N).outcome = some .matched ∧ Q (some (m.runFor N)) s ∨ (m.runFor N).outcome = some .failed ∧ Q none s) :
    wpAny M A (reRunToEnd m) Q E s := by
  unfold reRunToEnd
  refine wpAny_bind (drive (2 ^ 64) N rfl ?_ (by omega) ?_)
  · rcases ho with ⟨h, _⟩ | ⟨h, _⟩ <;> rw [h] <;> rfl
  · refine wpAny_bind (rules_skip ?_ _)
    rcases ho with ⟨h, q⟩ | ⟨h, q⟩
    · rw [h]; exact wpAny_pure q
    · rw [h]; exact wpAny_pure q
end
end Mine
end
section -- R3
open PySem PySem.W PyProof.Rows PySem.Spec PySem.Calls PySem.Builtin PySem.Builtin.Re
set_option maxRecDepth 100000
set_option maxHeartbeats 1000000
namespace Mine
structure PatAt (h : Heap) (P T : Addr) (code : List Nat) : Prop where
  pat : ∃ a b d sl, h.get? P = some ⟨.type "re.Pattern", d, .fields #[a, b, .int 0 0, .none, .none, .ref T, .int 0 0], sl⟩
  tup : ∃ c d sl n, h.get? T = some ⟨c, d, .seq (code.map fun (k : Nat) => Value.int (k : Int) 0).toArray n, sl⟩
section
variable {prog : Program} {w : World} {A : Around} {E : Value → Shared → Prop} {s : Shared} {P T : Addr} {code : List Nat} {x : Str} {tx : Tok}
theorem raws (code : List Nat) : (((code.map fun (k : Nat) => Value.int (k : Int) 0).toArray).map reRawOf).map (·.toNat) = code.toArray := by
  simp only [List.map_toArray, List.map_map]
  congr 1
  conv => rhs; rw [← List.map_id code]
  refine List.map_congr_left fun k _ => ?_
  show (k : Int).toNat = k
  omega
theorem whole_target {Q : ReTarget → Shared → Prop} (hP : PatAt s.heap P T code)
    (h : Q { pattern := .ref P, string := .str x tx, code := code.toArray, text := x.cps, kind := 0, groups := 0, pos := 0, lim := x.cps.size } s) : wpAny (model prog w) A (reWholeTarget (.ref P) (.str x tx)) Q E s := by
  obtain ⟨a, b, d, sl, e1⟩ := hP.pat
  obtain ⟨c, d2, sl2, n, e2⟩ := hP.tup
  unfold reWholeTarget
  refine wpAny_bind (m := fieldsOf (.ref P)) ?_
  unfold fieldsOf
  refine wpAny_bind (wpAny_load e1 (wpAny_pure ?_))
  refine wpAny_bind (m := reTextOf (.str x tx)) (wpAny_pure ?_)
  refine wpAny_bind (m := reNoCollectionInside (.str x tx) 0) (wpAny_pure ?_)
  refine wpAny_bind (m := reRawItems (.ref T)) ?_
  unfold reRawItems
  refine wpAny_bind (wpAny_seqItems e2 rfl (wpAny_pure (wpAny_pure ?_)))
  rw [show ((((some (code.map fun (k : Nat) => Value.int (k : Int) 0).toArray).getD #[]).map reRawOf).map (·.toNat)) = code.toArray from raws code]
  exact h
theorem sub_start {r : Str} {tr : Tok} {Q : Value → Shared → Prop} (hP : PatAt s.heap P T code) (hr : r.cps.contains 92 = false)
    (h : codeAny (model prog w) A (.builtin "re.Pattern.sub.loop" ⟨[.ref P, .str x tx, .str r tr, .int 0 0, .int 0 0, .int 0 0, .int 0 0, .int 0 0, .bool false, .ref s.heap.objs.size, .bool false], []⟩) (wants Q E)
      { s with heap := s.heap.push { cls := .type "list", data := .seq #[] } }) :
    wpAny (model prog w) A (call (.builtin "re.Pattern.sub") [.ref P, .str r tr, .str x tx]) Q E s := by
  obtain ⟨a, b, d, sl, e1⟩ := hP.pat
  refine wpAny_call (codeAny_call_builtin slot_re_sub.plain entry_re_sub (slot_re_sub.check _ _ _ _ _ _ _ _ ⟨_, e1, rfl⟩ (args_re_sub _ _ _ _ _) ?_))
  unfold Builtin.«re.Pattern.sub» reSubstitute
  refine wpAny_bind (m := reNamed "re.Pattern.sub" "sub" ["repl", "string", "count"] 2 [.str r tr, .str x tx] []) (wpAny_of_eq (a := [some (.str r tr), some (.str x tx), none]) ?_ ?_)
  · rfl
  refine wpAny_bind (m := pure (0 : Int)) (wpAny_pure ?_)
  refine wpAny_bind (wpAny_specialOf (typeIs_str _ _ _) nocall_str ?_)
  refine wpAny_bind (m := asStr? (.str r tr)) (wpAny_pure ?_)
  refine wpAny_bind (wpAny_pure ?_)
  rw [hr]
  refine wpAny_bind (m := (pure (Value.str r tr, (0 : Int)) : Sem (Value × Int))) (wpAny_pure ?_)
  refine wpAny_bind (wpAny_holding (whole_target hP ?_))
  refine wpAny_bind (wpAny_newList ?_)
  exact wpAny_pure ⟨plainId_quiet (by decide +kernel) _, h⟩
-- a round of the loop that finds nothing
theorem loop_none {r : Str} {tr : Tok} {n₀ done start : Int} {must : Bool} {L : Addr} {items : List Value} {N : Nat} {R : Result → Shared → Prop} {o : Obj} {c : Nat}
    (hP : PatAt s.heap P T code) (hL : s.heap.get? L = some o) (hd : o.data = .seq items.toArray c) (hN : N < 2 ^ 60) (hf : ((Sre.forSearch code.toArray x.cps 0 start.toNat x.cps.size must).runFor N).outcome = some .failed)
    (hlt : done.toNat < x.cps.size) (hxs : x.cps.size ≤ 1000000) (hz : items.length ≤ 1000)
    (h : wpAny (model prog w) A.in1 (call (.builtin "str.join") [.str ⟨x.cps.extract 0 0⟩ (s.toks + 1), .ref L]) (fun v s' => R (.ok (.ret v)) s') (fun e s' => R (.error e) s')
      { s with heap := s.heap.update L (Obj.mapSeq (·.push (.str ⟨x.cps.extract done.toNat x.cps.size⟩ s.toks))), toks := s.toks + 2 }) :
    codeAny (model prog w) A (.builtin "re.Pattern.sub.loop" ⟨[.ref P, .str x tx, .str r tr, .int 0 0, .int 0 0, .int n₀ 0, .int done 0, .int start 0, .bool must, .ref L, .bool false], []⟩) R s := by
  refine codeAny_builtin entry_re_loop ?_
  rw [Around.under_plainId (by decide +kernel) _]
  unfold Builtin.«re.Pattern.sub.loop»
  refine wpAny_bind (whole_target hP ?_)
  refine wpAny_bind (m := reLiteralCannotBeTurned (.str r tr)) (wpAny_pure ?_)
  refine wpAny_bind (m := reNextFound _ _ _) (to_end (N := N) hN (.inr ⟨hf, ?_⟩))
  show wpAny _ _ (ite (done.toNat < x.cps.size) _ _) _ _ _
  rw [if_pos hlt]
  have hsz : (⟨x.cps.extract done.toNat x.cps.size⟩ : Str).length ≤ sizeLine := by
    show (x.cps.extract done.toNat x.cps.size).size ≤ sizeLine
    rw [Array.size_extract, sizeLine_eq]; omega
  refine wpAny_bind (m := mkStr ⟨x.cps.extract done.toNat x.cps.size⟩) (wpAny_mkStr ?_ hsz)
  refine wpAny_bind (wpAny_updateSeq hL hd ?_ (by simp [sizeLine_eq]; omega) (by simp [sizeLine_eq]; omega))
  refine wpAny_bind (m := mkStr ⟨x.cps.extract 0 0⟩) (wpAny_mkStr ?_ (by show (x.cps.extract 0 0).size ≤ sizeLine; simp))
  obtain ⟨c0, d0, dt0, sl0⟩ := o
  dsimp only at hd
  subst hd
  have hL' : (s.heap.update L (Obj.mapSeq (·.push (.str ⟨x.cps.extract done.toNat x.cps.size⟩ s.toks)))).get? L = some (Obj.mapSeq (·.push (.str ⟨x.cps.extract done.toNat x.cps.size⟩ s.toks)) ⟨c0, d0, .seq items.toArray c, sl0⟩) := by
    rw [Heap.get?_update_self _ hL rfl]
  refine wpAny_bind (wpAny_seqItems hL' rfl ?_)
  have he : (items.toArray.push (.str ⟨x.cps.extract done.toNat x.cps.size⟩ s.toks)).isEmpty = false := by simp
  show wpAny _ _ (ite ((items.toArray.push (Value.str ⟨x.cps.extract done.toNat x.cps.size⟩ s.toks)).isEmpty = true) _ _) _ _ _
  rw [if_neg (by rw [he]; exact Bool.false_ne_true)]
  exact wpAny_bind (wpAny_mono h (fun v s' hv => wpAny_pure hv) fun _ _ e => e)
-- the same where nothing is left behind the last find
theorem loop_none0 {r : Str} {tr : Tok} {n₀ done start : Int} {must : Bool} {L : Addr} {items : List Value} {N : Nat} {R : Result → Shared → Prop} {o : Obj} {c : Nat}
    (hP : PatAt s.heap P T code) (hL : s.heap.get? L = some o) (hd : o.data = .seq items.toArray c) (hN : N < 2 ^ 60) (hf : ((Sre.forSearch code.toArray x.cps 0 start.toNat x.cps.size must).runFor N).outcome = some .failed)
    (hlt : ¬ done.toNat < x.cps.size) (hne : items ≠ [])
    (h : wpAny (model prog w) A.in1 (call (.builtin "str.join") [.str ⟨x.cps.extract 0 0⟩ s.toks, .ref L]) (fun v s' => R (.ok (.ret v)) s') (fun e s' => R (.error e) s')
      { s with toks := s.toks + 1 }) :
    codeAny (model prog w) A (.builtin "re.Pattern.sub.loop" ⟨[.ref P, .str x tx, .str r tr, .int 0 0, .int 0 0, .int n₀ 0, .int done 0, .int start 0, .bool must, .ref L, .bool false], []⟩) R s := by
  refine codeAny_builtin entry_re_loop ?_
  rw [Around.under_plainId (by decide +kernel) _]
  unfold Builtin.«re.Pattern.sub.loop»
  refine wpAny_bind (whole_target hP ?_)
  refine wpAny_bind (m := reLiteralCannotBeTurned (.str r tr)) (wpAny_pure ?_)
  refine wpAny_bind (m := reNextFound _ _ _) (to_end (N := N) hN (.inr ⟨hf, ?_⟩))
  show wpAny _ _ (ite (done.toNat < x.cps.size) _ _) _ _ _
  rw [if_neg hlt]
  refine wpAny_bind (m := mkStr ⟨x.cps.extract 0 0⟩) (wpAny_mkStr ?_ (by show (x.cps.extract 0 0).size ≤ sizeLine; simp))
  refine wpAny_bind (wpAny_seqItems hL hd ?_)
  have he : (items.toArray).isEmpty = false := by cases items with | nil => exact absurd rfl hne | cons a r => rfl
  show wpAny _ _ (ite ((items.toArray).isEmpty = true) _ _) _ _ _
  rw [if_neg (by rw [he]; exact Bool.false_ne_true)]
  exact wpAny_bind (wpAny_mono h (fun v s' hv => wpAny_pure hv) fun _ _ e => e)
-- a round that finds, right where the last one ended
theorem loop_some {r : Str} {tr : Tok} {n₀ done start : Int} {must : Bool} {L : Addr} {items : List Value} {N st hn : Nat} {R : Result → Shared → Prop} {o : Obj} {c : Nat}
    (hP : PatAt s.heap P T code) (hL : s.heap.get? L = some o) (hd : o.data = .seq items.toArray c) (hN : N < 2 ^ 60) (hf : ((Sre.forSearch code.toArray x.cps 0 start.toNat x.cps.size must).runFor N).outcome = some .matched)
    (h1 : ((Sre.forSearch code.toArray x.cps 0 start.toNat x.cps.size must).runFor N).start = st) (h2 : ((Sre.forSearch code.toArray x.cps 0 start.toNat x.cps.size must).runFor N).handed = hn)
    (hlt : ¬ done.toNat < st) (hz : items.length ≤ 1000)
    (h : codeAny (model prog w) A (.builtin "re.Pattern.sub.loop" ⟨[.ref P, .str x tx, .str r tr, .int 0 0, .int 0 0, .int (n₀ + 1) 0, .int hn 0, .int hn 0, .bool (hn == st), .ref L, .bool false], []⟩) R
      { s with heap := s.heap.update L (Obj.mapSeq (·.push (.str r tr))) }) :
    codeAny (model prog w) A (.builtin "re.Pattern.sub.loop" ⟨[.ref P, .str x tx, .str r tr, .int 0 0, .int 0 0, .int n₀ 0, .int done 0, .int start 0, .bool must, .ref L, .bool false], []⟩) R s := by
  refine codeAny_builtin entry_re_loop ?_
  rw [Around.under_plainId (by decide +kernel) _]
  unfold Builtin.«re.Pattern.sub.loop»
  refine wpAny_bind (whole_target hP ?_)
  refine wpAny_bind (m := reLiteralCannotBeTurned (.str r tr)) (wpAny_pure ?_)
  refine wpAny_bind (m := reNextFound _ _ _) (to_end (N := N) hN (.inl ⟨hf, ?_⟩))
  generalize (Sre.forSearch code.toArray x.cps 0 start.toNat x.cps.size must).runFor N = m at h1 h2
  subst h1 h2
  show wpAny _ _ (ite (done.toNat < m.start) _ _) _ _ _
  rw [if_neg hlt]
  refine wpAny_bind (m := (pure (Value.str r tr) : Sem Value)) (wpAny_pure ?_)
  refine wpAny_bind (wpAny_updateSeq hL hd ?_ (by simp [sizeLine_eq]; omega) (by simp [sizeLine_eq]; omega))
  exact wpAny_pure ⟨plainId_quiet (by decide +kernel) _, h⟩
end
end Mine
end
section -- R4
open PySem PySem.W PyProof.Rows PySem.Spec PySem.Calls PySem.Builtin PySem.Builtin.Re
set_option maxRecDepth 100000
set_option maxHeartbeats 1000000
namespace Mine
def code1L : List Nat := [14, 4, 0, 1, 1, 6, 1, 16, 46, 1]
def code2L : List Nat := [14, 9, 4, 1, 2, 16, 10, 16, 13, 0, 7, 7, 16, 13, 16, 10, 15, 18, 5, 16, 10, 15, 13, 11, 16, 13, 5, 5, 0, 16, 10, 1, 15, 2, 0, 1]
theorem dots_size (n : Nat) : (dots n).cps.size = n := by simp [dots, S, ds]
abbrev lst (vs : List Value) (c : Nat := 0) : Obj := { cls := .type "list", data := .seq vs.toArray c }
theorem mapSeq_push (vs : List Value) (c : Nat) (v : Value) : Obj.mapSeq (·.push v) (lst vs c) = lst (vs ++ [v]) (c + 1) := by simp [Obj.mapSeq, lst]
theorem PatAt.push {h : Heap} {P T : Addr} {code : List Nat} (p : PatAt h P T code) (o : Obj) : PatAt (h.push o) P T code := by
  obtain ⟨⟨a, b, d, sl, e1⟩, ⟨c, d2, sl2, n, e2⟩⟩ := p
  exact ⟨⟨a, b, d, sl, Heap.get?_push_of_some _ e1⟩, ⟨c, d2, sl2, n, Heap.get?_push_of_some _ e2⟩⟩
theorem PatAt.update {h : Heap} {P T L : Addr} {code : List Nat} {f : Obj → Obj} (p : PatAt h P T code) (h1 : P ≠ L) (h2 : T ≠ L) : PatAt (h.update L f) P T code := by
  obtain ⟨⟨a, b, d, sl, e1⟩, ⟨c, d2, sl2, n, e2⟩⟩ := p
  exact ⟨⟨a, b, d, sl, (Heap.get?_update_ne _ _ _ _ h1).trans e1⟩, ⟨c, d2, sl2, n, (Heap.get?_update_ne _ _ _ _ h2).trans e2⟩⟩
theorem PatAt.lt {h : Heap} {P T : Addr} {code : List Nat} (p : PatAt h P T code) : P < h.objs.size ∧ T < h.objs.size := by
  obtain ⟨⟨a, b, d, sl, e1⟩, ⟨c, d2, sl2, n, e2⟩⟩ := p
  exact ⟨Heap.lt_size e1, Heap.lt_size e2⟩
section
variable {prog : Program} {w : World} {A : Around} {E : Value → Shared → Prop} {s : Shared} {P T : Addr} {x : Str} {tx tr : Tok} {r : Str} {h₀ : Heap} {L : Addr} {m : Str → Option Value} {news : List (Addr × Obj)} {Q : Value → Shared → Prop}
/-- one more item on the list that the ledger bears at its head -/
theorem push_item {D : Addr} {h : Heap} {vs : List Value} {c : Nat} {v : Value} (F : Fr h₀ L h m) (N : News h₀ L h ((D, lst vs c) :: news)) (hlt : ∀ p ∈ news, p.1 ≠ D) :
    Fr h₀ L (h.update D (Obj.mapSeq (·.push v))) m ∧ News h₀ L (h.update D (Obj.mapSeq (·.push v))) ((D, lst (vs ++ [v]) (c + 1)) :: news) :=
  news_upd (pre := []) F N (fun _ h => nomatch h) hlt (mapSeq_push vs c v) rfl
theorem sub2_call {n : Nat} (hP : PatAt s.heap P T code2L) (F : Fr h₀ L s.heap m) (N : News h₀ L s.heap news) (hx : x = dots n) (hr : r.cps.contains 92 = false) (hn : 1 ≤ n) (hn2 : n < 20000)
    (h : ∀ t h' k, Fr h₀ L h' m → News h₀ L h' news → Q (.str (dots n) t) { s with heap := h', toks := k }) :
    wpAny (model prog w) A (call (.builtin "re.Pattern.sub") [.ref P, .str r tr, .str x tx]) Q E s := by
  subst hx
  have hsz := dots_size n
  have hlt : ∀ p ∈ news, p.1 ≠ s.heap.objs.size := fun p hp => Nat.ne_of_lt (Heap.lt_size (N p hp).1)
  refine sub_start hP hr ?_
  have F1 : Fr h₀ L (s.heap.push (lst [])) m := F.push _
  have N1 : News h₀ L (s.heap.push (lst [])) ((s.heap.objs.size, lst []) :: news) := News.push F N _
  obtain ⟨s2, s3, s4⟩ := search2 n
  have hpl := hP.lt
  refine loop_none (N := 1) (items := []) (hP.push _) (N1 _ (.head _)).1 rfl (by decide) (by rw [hsz]; exact failed_of s2 s3 s4) (by show 0 < (dots n).cps.size; omega) (by omega) (by simp) ?_
  have e0 : (⟨(dots n).cps.extract (0 : Int).toNat (dots n).cps.size⟩ : Str) = dots n := Str.ext' (by simp)
  rw [e0]
  obtain ⟨F2, N2⟩ := push_item (v := .str (dots n) s.toks) F1 N1 hlt
  refine join_list (items := #[.str (dots n) s.toks]) (ys := [dots n]) ⟨_, (N2 _ (.head _)).1, rfl, _, rfl⟩ (.cons _ _ .nil) ?_ ?_
  · show (dots n).length + 0 + 1 * ((dots n).cps.extract 0 0).size ≤ 16777216
    have : (dots n).length = n := hsz
    simp; omega
  · intro t' k
    rw [show Txt.join ⟨(dots n).cps.extract 0 0⟩ [dots n] = dots n from by rw [Txt.join, StrLaws.glued_eq_join]; rfl]
    exact h t' _ _ F2 fun p hp => N2 p (.tail _ hp)
theorem sub1_call {n : Nat} (hP : PatAt s.heap P T code1L) (F : Fr h₀ L s.heap m) (N : News h₀ L s.heap news) (hx : x = dots n) (hr : r = Str.ofString "..") (hn : 1 ≤ n) (hn2 : n < 20000)
    (h : ∀ t h' k, Fr h₀ L h' m → News h₀ L h' news → Q (.str (dots (n + 1)) t) { s with heap := h', toks := k }) :
    wpAny (model prog w) A (call (.builtin "re.Pattern.sub") [.ref P, .str r tr, .str x tx]) Q E s := by
  subst hx
  have hrd : r = dots 2 := by rw [hr]; decide +kernel
  have hsz := dots_size n
  have hlt : ∀ p ∈ news, p.1 ≠ s.heap.objs.size := fun p hp => Nat.ne_of_lt (Heap.lt_size (N p hp).1)
  refine sub_start hP (by rw [hr]; decide +kernel) ?_
  have F1 : Fr h₀ L (s.heap.push (lst [])) m := F.push _
  have N1 : News h₀ L (s.heap.push (lst [])) ((s.heap.objs.size, lst []) :: news) := News.push F N _
  have hpl := hP.lt
  obtain ⟨m1, m2, m3⟩ := match1 hn (start1 (n := n) (s := 0) hn)
  refine loop_some (N := 5) (st := 0) (hn := 1) (items := []) (hP.push _) (N1 _ (.head _)).1 rfl (by decide) (by rw [hsz]; exact m1) (by rw [hsz]; exact m2) (by rw [hsz]; exact m3) (by show ¬ (0 : Int).toNat < 0; omega) (by simp) ?_
  obtain ⟨F2, N2⟩ := push_item (v := .str r tr) F1 N1 hlt
  have hP2 : PatAt ((s.heap.push (lst [])).update s.heap.objs.size (Obj.mapSeq (·.push (.str r tr)))) P T code1L := (hP.push _).update (Nat.ne_of_lt hpl.1) (Nat.ne_of_lt hpl.2)
  by_cases h1 : n = 1
  · subst h1
    obtain ⟨q1, q2, q3⟩ := none1 (n := 1)
    refine loop_none0 (N := 1) (items := [.str r tr]) hP2 (N2 _ (.head _)).1 rfl (by decide) (by rw [hsz]; exact failed_of q1 q2 q3) (by rw [hsz]; decide) (by simp) ?_
    refine join_list (items := #[.str r tr]) (ys := [r]) ⟨_, (N2 _ (.head _)).1, rfl, _, rfl⟩ (.cons _ _ .nil) ?_ ?_
    · rw [hrd]; decide +kernel
    · intro t' k
      rw [show Txt.join ⟨(dots 1).cps.extract 0 0⟩ [r] = dots (1 + 1) from by rw [Txt.join, StrLaws.glued_eq_join, hrd]; rfl]
      exact h t' _ _ F2 fun p hp => N2 p (.tail _ hp)
  · have q := fail1 (n - 1) 1 rfl (Nat.le_refl _) hn (start1 (n := n) (s := 1) (by omega))
    refine loop_none (N := 2 * (n - 1) + 3) (items := [.str r tr]) hP2 (N2 _ (.head _)).1 rfl (by omega) (by rw [hsz]; exact q) (by show 1 < (dots n).cps.size; omega) (by omega) (by simp) ?_
    have e0 : (⟨(dots n).cps.extract ((1 : Nat) : Int).toNat (dots n).cps.size⟩ : Str) = dots (n - 1) := by
      refine Str.ext' ?_
      show (dots n).cps.extract 1 (dots n).cps.size = (dots (n - 1)).cps
      simp [dots, S, ds]
    rw [e0]
    obtain ⟨F3, N3⟩ := push_item (v := .str (dots (n - 1)) s.toks) F2 N2 hlt
    refine join_list (items := #[.str r tr, .str (dots (n - 1)) s.toks]) (ys := [r, dots (n - 1)]) ⟨_, (N3 _ (.head _)).1, rfl, _, rfl⟩ (.cons _ _ (.cons _ _ .nil)) ?_ ?_
    · show r.length + ((dots (n - 1)).length + 0) + 2 * ((dots n).cps.extract 0 0).size ≤ 16777216
      have e1 : (dots (n - 1)).length = n - 1 := dots_size _
      have e2 : r.length = 2 := by rw [hrd]; exact dots_size 2
      simp; omega
    · intro t' k
      have ej : Txt.join ⟨(dots n).cps.extract 0 0⟩ [r, dots (n - 1)] = dots (n + 1) := by
        rw [Txt.join, StrLaws.glued_eq_join, hrd]
        show dots 2 ++ ⟨(dots n).cps.extract 0 0⟩ ++ dots (n - 1) = _
        have e3 : (⟨(dots n).cps.extract 0 0⟩ : Str) = S [] := Str.ext' (by simp [S])
        rw [e3, dots, dots, S_app, S_app, dots, ds, ds, ds, List.append_nil, List.replicate_append_replicate, show 2 + (n - 1) = n + 1 by omega]
      rw [ej]
      exact h t' _ _ F3 fun p hp => N3 p (.tail _ hp)
end
end Mine
end
section -- C2
open PySem PySem.W PyProof.Rows PySem.Spec PySem.Calls
set_option maxRecDepth 100000
set_option maxHeartbeats 8000000
namespace Mine
def QuoteTells (w : World) (p : Program) (loose : List Str) (mean : ExcName → Option Value) (mg mb : Str → Option Value) : Prop :=
  ∀ (dp un : Nat) (gd : Option (List Code)) (cn : Str) (cs : Scope) (a : Addr) (ccd : Value) (cl : List (Str × Addr)) (outer : List Env) (A₀ : Around) (base h₀ : Heap) (L : Addr) (m : Str → Option Value) (news : List (Addr × Obj)) (s : Shared) (n : Nat) (x : Str) (tk : Tok)
    (Q E : Value → Shared → Prop),
    Below A₀ base outer h₀ → Fr h₀ L s.heap m → (hd.heap_39 w.params).In h₀ → News h₀ L s.heap news → Top p loose mean mg mb h₀ → cs.kind = .function → n < 10000 → 1 ≤ n → x = dots n → dp + 1 < recursionLimit → un + 8 < cLine →
    (∀ t h' tk', Fr h₀ L h' m → News h₀ L h' news → Q (.str (dots (n + 1)) t) { s with heap := h', toks := tk' }) →
    wpAny (model PySem.Challenge.rw_sr0020_01.row.prog w) (ktrTop dp un gd cn cs L a ccd cl outer) (call (.ref 107) [.str x tk]) Q E s
theorem getMethod_re {M : Model} {A : Around} {E : Value → Shared → Prop} {s : Shared} {K : Frag} {P : Addr} {vs : Array Value} {sl : Array (Option Value)} {pl : Sem Bool} {Q : Value × List Value → Shared → Prop} (X : K.In s.heap) (hl : K.lookup P = some ⟨.type "re.Pattern", none, .fields vs, sl⟩)
    (h : Q (.builtin "re.Pattern.sub", [.ref P]) s) : wpAny M A (getMethod (.ref P) (Str.ofString "sub") pl) Q E s :=
  getMethod_builtin ⟨_, X _ _ hl, rfl⟩ plainAttrs_re slot_re_sub type_re_sub (fun a e => by cases e; exact ⟨_, X _ _ hl, rfl⟩) h
theorem PatAt.of_K {K : Frag} {h : Heap} {P T : Addr} {code : List Nat} {a b : Value} {d : Option Addr} {sl : Array (Option Value)} {c : Value} {d2 : Option Addr} {sl2 : Array (Option Value)} {n : Nat} (X : K.In h)
    (h1 : K.lookup P = some ⟨.type "re.Pattern", d, .fields #[a, b, .int 0 0, .none, .none, .ref T, .int 0 0], sl⟩) (h2 : K.lookup T = some ⟨c, d2, .seq (code.map fun (k : Nat) => Value.int (k : Int) 0).toArray n, sl2⟩) : PatAt h P T code :=
  ⟨⟨a, b, d, sl, X _ _ h1⟩, ⟨c, d2, sl2, n, X _ _ h2⟩⟩
local macro_rules | `(tactic| walk_at "getMethod ref") => `(tactic| (k_dflt (refine' getMethod_re ?k1 ?k2 ?_; (case k1 => k_in); (case k2 => k_is); k_whole)))
local macro_rules | `(tactic| walk_at "call builtin:re.Pattern.sub") => `(tactic| (k_dflt (first
  | (refine' sub2_call ?P ?F ?N ?x ?r ?n1 ?n2 ?_; (case F => k_asm); (case N => k_asm); (case x => assumption); (case n1 => omega); (case n2 => omega); (case r => decide +kernel); (case P => (refine' PatAt.of_K ?X ?h1 ?h2; (case X => k_in); (case h1 => k_is); (case h2 => k_is))); intro t' h' k' F' N')
  | (refine' sub1_call ?P ?F ?N ?x ?r ?n1 ?n2 ?_; (case F => k_asm); (case N => k_asm); (case x => first | assumption | rfl); (case n1 => omega); (case n2 => omega); (case r => rfl); (case P => (refine' PatAt.of_K ?X ?h1 ?h2; (case X => k_in); (case h1 => k_is); (case h2 => k_is))); intro t' h' k' F' N'))))
theorem quote_tells {w p loose mean mg mb} : QuoteTells w p loose mean mg mb := by
  unfold QuoteTells
  w_top off
  k_fill
  intro dp un gd cn cs a ccd cl outer A₀ base h₀ L m news s n x tk Q E B F X N T hk hn hn1 hx hd hu hret
  refine wpAny_call ?_
  k_dflt (refine' code_def ?k1 ?k2 ?k3 ?k4 ?k5 ?kA ?kF ?kK ?k6 ?k7 ?k8 (binds := [(Str.ofString "data", Value.str x tk)]) ?k9 ?kB ?_ ?c2 ?c3 ?c4 ?c5; (case kA => exact rfl); (case kF => exact rfl); (case kK => assumption); (case k1 => k_asm); (case k2 => k_asm); (case k3 => k_asm); (case k4 => k_asm); (case k5 => k_asm); (case k6 => k_is); (case k7 => k_is); (case k8 => ktr_room); (case k9 => exact BindsTo.of_eq rfl); (case c5 => decide); (case kB => exact locs rfl); (case c2 => exact rfl); (case c3 => exact rfl); (case c4 => exact rfl); k_whole; intro g' L' h' FG' F' N' B' X' T'; (try dsimp only); (try k_lift B'); (try k_fold))
  k_steps
  all_goals (refine' cb_retS hret ?e1 ?e2 ?e3; (case e2 => k_asm); (case e3 => k_asm); (case e1 => rfl))
end Mine
end
section -- T2
open PySem PySem.W PyProof.Rows PySem.Spec PySem.Calls PySem.Builtin PySem.Builtin.Str
set_option maxRecDepth 100000
set_option maxHeartbeats 1000000
namespace Mine
theorem quotes_len (n : Nat) : (quotes n).length = n := by simp [quotes, S_len, qs]
theorem dots_len (n : Nat) : (dots n).length = n := by simp [dots, S_len, ds]
theorem told_len (n : Nat) : (told n).length ≤ n + 1 := by
  rw [told, S_len, toldL]; split <;> simp [qs] <;> omega
def headq (n : Nat) : Str := S (headL ++ qs n)
theorem headq_len (n : Nat) : (headq n).length = n + 5 := by simp [headq, S_len, headL, qs]
theorem mul_S (l : List Nat) (k : Nat) : Txt.mul (S l) (k : Int) = S (List.replicate k l).flatten := by
  have hf : ∀ (k : Nat) (acc : Array Nat), (List.replicate k l.toArray).foldl (· ++ ·) acc = acc ++ (List.replicate k l).flatten.toArray := by
    intro k
    induction k with
    | zero => intro acc; simp
    | succ k ih => intro acc; rw [List.replicate_succ, List.foldl_cons, ih, List.replicate_succ, List.flatten_cons]; simp
  unfold Txt.mul
  by_cases h0 : k = 0
  · subst h0; simp [S, Str.empty]
  rw [if_neg (by omega)]
  split
  · rename_i h
    rcases Bool.or_eq_true_iff.mp h with h | h
    · have : k = 1 := by have := beq_iff_eq.mp h; omega
      subst this; simp
    · have hl : l = [] := by
        have := beq_iff_eq.mp h
        rw [S_len] at this
        exact List.length_eq_zero_iff.mp this
      subst hl
      have : (List.replicate k ([] : List Nat)).flatten = [] := by induction k with
        | zero => rfl
        | succ k ih => simp
      rw [this]
  · refine Str.ext' ?_
    show (List.replicate (k : Int).toNat l.toArray).foldl (· ++ ·) #[] = (List.replicate k l).flatten.toArray
    rw [Int.toNat_natCast, hf]; simp
theorem mul_dots (n k : Nat) : Txt.mul (dots n) (k : Int) = dots (n * k) := by
  rw [dots, mul_S, dots]
  congr 1
  unfold ds
  rw [List.flatten_replicate_replicate, Nat.mul_comm]
theorem mul_dot (k : Nat) : Txt.mul (Str.ofString ".") (k : Int) = dots k := by
  rw [show Str.ofString "." = dots 1 by rw [lit_dot]; rfl, mul_dots, Nat.one_mul]
theorem slice_last (l : List Nat) (c : Nat) : Txt.slice (S (l ++ [c])) (some (-1)) none = S [c] := by
  rw [PyProof.Rows.slice_from_neg (by decide)]
  rw [S_len, show (max (0 : Int) (((l ++ [c]).length : Nat) + (-1))) = ((l.length : Nat) : Int) by simp; omega, slice_from _ (by simp)]
  simp
theorem slice_last0 : Txt.slice (S []) (some (-1)) none = S [] := by decide +kernel
theorem slice_init (l : List Nat) (c : Nat) : Txt.slice (S (l ++ [c])) none (some (-1)) = S l := by
  rw [PyProof.Rows.slice_to_neg (by decide)]
  rw [S_len, show (max (0 : Int) (((l ++ [c]).length : Nat) + (-1))) = ((l.length : Nat) : Int) by simp; omega, slice_to _ (by simp)]
  simp
section
variable {prog : Program} {w : World} {A : Around} {E : Value → Shared → Prop} {s : Shared} {t u v : Tok} {Q : Value → Shared → Prop}
theorem rep_dots {n : Nat} (hn : n ≤ 100000) (hu : u ≠ 0) (hv : v ≠ 0) (huv : u ≠ v) (h : ∀ t' k, Q (.str (quotes n) t') { s with toks := k }) :
    wpAny (model prog w) A (call (.builtin "str.replace") [.str (dots n) t, .str (Str.ofString ".") u, .str (Str.ofString "\"") v]) Q E s :=
  SC.replaceW hu hv huv (by decide +kernel) (by rw [dots_len]; omega) (by decide +kernel) (fun t' k => by rw [replace_dots]; exact h t' k)
theorem rep_quotes {n : Nat} (hn : n ≤ 100000) (hu : u ≠ 0) (hv : v ≠ 0) (huv : u ≠ v) (h : ∀ t' k, Q (.str (dots n) t') { s with toks := k }) :
    wpAny (model prog w) A (call (.builtin "str.replace") [.str (quotes n) t, .str (Str.ofString "\"") u, .str (Str.ofString ".") v]) Q E s :=
  SC.replaceW hu hv huv (by decide +kernel) (by rw [quotes_len]; omega) (by decide +kernel) (fun t' k => by rw [replace_quotes]; exact h t' k)
theorem add_head {n : Nat} (hn : n ≤ 100000) (h : ∀ t' k, Q (.str (headq n) t') { s with toks := k }) :
    wpAny (model prog w) A (binaryOp .Add (.str (Str.ofString "257 \"") t) (.str (quotes n) u)) Q E s :=
  SB.add (fun t' k => by rw [show Str.ofString "257 \"" ++ quotes n = headq n by rw [lit_head, quotes, S_app]; rfl]; exact h t' k) (by rw [quotes_len, sizeLine_eq]; have : (Str.ofString "257 \"").length = 5 := (by decide +kernel); omega)
theorem add_tail {n : Nat} (hn : n ≤ 100000) (h : ∀ t' k, Q (.str (pat n) t') { s with toks := k }) :
    wpAny (model prog w) A (binaryOp .Add (.str (headq n) t) (.str (Str.ofString "x\"") u)) Q E s :=
  SB.add (fun t' k => by rw [show headq n ++ Str.ofString "x\"" = pat n by rw [lit_tail, headq, S_app, List.append_assoc]; rfl]; exact h t' k) (by rw [headq_len, sizeLine_eq]; have : (Str.ofString "x\"").length = 2 := (by decide +kernel); omega)
theorem mul_rule {n : Nat} {i : Int} (h0 : 0 ≤ i) (hi : i ≤ 100) (hn : n ≤ 10000) (h : ∀ t' k, Q (.str (dots (n * i.toNat)) t') { s with toks := k }) :
    wpAny (model prog w) A (binaryOp .Mult (.str (dots n) t) (.int i u)) Q E s := by
  obtain ⟨k, rfl⟩ := Int.eq_ofNat_of_zero_le h0
  refine SB.mul (mulOk_of 10000 100 (by rw [dots_len]; exact hn) hi (by omega) (by decide) (by decide)) (fun t' k' => ?_)
  rw [mul_dots]; exact h t' k'
theorem mul_rule1 {i : Int} (h0 : 0 ≤ i) (hi : i ≤ 10000) (h : ∀ t' k, Q (.str (dots i.toNat) t') { s with toks := k }) :
    wpAny (model prog w) A (binaryOp .Mult (.str (Str.ofString ".") t) (.int i u)) Q E s := by
  obtain ⟨k, rfl⟩ := Int.eq_ofNat_of_zero_le h0
  refine SB.mul (mulOk_of 10 10000 (by decide +kernel) hi (by omega) (by decide) (by decide)) (fun t' k' => ?_)
  rw [mul_dot]; exact h t' k'
variable {value slice : PySem.Expr} {h₀ : Heap} {L : Addr} {m : Str → Option Value} {news : List (Addr × Obj)} {ui : Tok}
theorem told_last {n : Nat} {y : Str} (hy : Txt.slice (told n) (some (-1)) none = y) (hn : n ≤ 100000) (hF : Fr h₀ L s.heap m) (hN : News h₀ L s.heap news) (h : ∀ h' t' k, Fr h₀ L h' m → News h₀ L h' news → Q (.str y t') { s with heap := h', toks := k })
    (hs : subscripted slice false (.str (told n) t) (.ref s.heap.objs.size) = operate [.ref s.heap.objs.size, .str (told n) t] (getItem (.str (told n) t) (.ref s.heap.objs.size)))
    (ht : ∀ r, letTemporaryGo value (.str (told n) t) r = pure ()) :
    wpAny (model prog w) A (subscriptTail value slice (.str (told n) t) (.ref s.heap.objs.size)) Q E { s with heap := s.heap.push { cls := .type "slice", data := .fields #[.int (-1) ui, .none, .none] } } :=
  slice_strN_sn hF hN (fun h' t' k F' N' => by rw [hy]; exact h h' t' k F' N') hs ht (by rw [sizeLine_eq]; have := told_len n; omega)
theorem told_init {n : Nat} (htk : 0 < s.toks) (hp : n % 2 = 0) (hn : n ≤ 100000) (hF : Fr h₀ L s.heap m) (hN : News h₀ L s.heap news) (h : ∀ h' t' k, 0 < k → Fr h₀ L h' m → News h₀ L h' news → Q (.str (quotes (n / 2)) t') { s with heap := h', toks := k })
    (hs : subscripted slice false (.str (told n) t) (.ref s.heap.objs.size) = operate [.ref s.heap.objs.size, .str (told n) t] (getItem (.str (told n) t) (.ref s.heap.objs.size)))
    (ht : ∀ r, letTemporaryGo value (.str (told n) t) r = pure ()) :
    wpAny (model prog w) A (subscriptTail value slice (.str (told n) t) (.ref s.heap.objs.size)) Q E { s with heap := s.heap.push { cls := .type "slice", data := .fields #[.none, .int (-1) ui, .none] } } :=
  wpAny_with_toks (n := 1) htk (slice_strN_ns hF hN (fun h' t' k F' N' hk => by
    rw [show Txt.slice (told n) none (some (-1)) = quotes (n / 2) by rw [told, toldL, if_pos hp, slice_init]; rfl]; exact h h' t' k hk F' N') hs ht (by rw [sizeLine_eq]; have := told_len n; omega))
end
theorem last_even {n : Nat} (hp : n % 2 = 0) : Txt.slice (told n) (some (-1)) none = Str.ofString "x" := by
  rw [told, toldL, if_pos hp, slice_last, lit_x]
theorem last_one {n : Nat} (hp : n % 2 = 1) (h : n / 2 = 0) : Txt.slice (told n) (some (-1)) none = Str.ofString "" := by
  rw [told, toldL, if_neg (by omega), h, lit_nil]; exact slice_last0
theorem last_odd {n : Nat} (hp : n % 2 = 1) (h : n / 2 ≠ 0) : Txt.slice (told n) (some (-1)) none = Str.ofString "\"" := by
  rw [told, toldL, if_neg (by omega), lit_q]
  obtain ⟨k, hk⟩ : ∃ k, n / 2 = k + 1 := ⟨n / 2 - 1, by omega⟩
  rw [hk, qs, List.replicate_succ', slice_last]
end Mine
end
section -- E0
open PySem PySem.W PyProof.Rows PySem.Spec PySem.Calls
set_option maxRecDepth 100000
set_option maxHeartbeats 1000000
namespace Mine
section
variable {prog : Program} {w : World} {A A₀ : Around} {s : Shared} {K : Frag} {L : Addr} {h₀ base : Heap} {m mg mb : Str → Option Value} {news : List (Addr × Obj)} {p : Program} {loose : List Str} {mean : ExcName → Option Value}
theorem enter0 {env : Env} {outer : List Env} {R : Result → Shared → Prop} {name qual : Str} {params : Arguments} {body : List Stmt} {scope : Scope} {dV kV doc pm cdv ct oc : Value} {an od : Option Addr} {osl : Array (Option Value)} {f : Addr} {args : Args} (binds : List (Str × Value))
    (B : Below A₀ base outer h₀) (F : Fr h₀ L s.heap m) (X₀ : K.In h₀) (N : News h₀ L s.heap news) (T : Top p loose mean mg mb h₀) (hA : A.frames = some (env :: outer)) (hf : env.frame = some L) (hke : env.scope.kind = .function)
    (ho : K.lookup f = some ⟨oc, od, .func (fnOf name qual params body scope dV kV doc pm an cdv ct), osl⟩) (hcd : codeIn K cdv qual = true) (hroom : A.depth < recursionLimit)
    (hbind : BindsTo s (fnOf name qual params body scope dV kV doc pm an cdv ct) args binds) (hloc : ∀ y ∈ binds, scope.names.lookup y.1 = some .local)
    (h : ∀ g L' h₁, Fr h₀ L g m → Fr g L' h₁ (fun y => binds.reverse.lookup y) → News g L' h₁ [] → Below A base (env :: outer) g → K.In g → Top p loose mean mg mb g → AllLt L' news →
      wpAny (model prog w) (A.deeper (envOf qual scope L' f cdv)) (execs body (envOf qual scope L' f cdv))
        (fun fl s' => LeaveK h₀ L m g (fun r s' => News h₀ L s'.heap news → R r s') (match fl with | .ret v => v | _ => .none) s')
        (fun e s' => wpAny (model prog w) (A.deeper (envOf qual scope L' f cdv)) (leaving (envOf qual scope L' f cdv) e) (fun _ s'' => R (.error e) s'') (fun e' s'' => R (.error e') s'') s')
        { s with heap := h₁, toks := s.toks + binds.length })
    (hco : scope.isCoroutine = false) (hgen : scope.isGenerator = false) (hk : scope.kind = .function)
    (hcell : ∀ x ∈ scope.names, x.2 ≠ .cell) : codeAny (model prog w) A (.call (.ref f) args) R s := by
  have X := X₀.keeps F.keep
  have Ts : Top p loose mean mg mb s.heap := T.keeps F.keep
  obtain ⟨FG, BG, st, lv⟩ := groundX (R := R) B F (News.nil) hA hf hke
  have hg : hideAll s.heap (([] : List (Addr × Obj)).map (·.1)) = s.heap := rfl
  rw [hg] at FG BG st lv
  refine codeAny_call_def (fd := fnOf name qual params body scope dV kV doc pm an cdv ct) (body := body) (binds := binds) hroom (X _ _ ho) rfl (T.nolimit.keeps F.keep) (codeRec_of X hcd) rfl hbind hcell hloc (fun h₁ hns hk₁ => ?_) hco hgen hk
  refine wpAny_mono (h s.heap s.heap.objs.size h₁ FG ⟨hns, fun b o e => hk₁ b o e, Nat.le_refl _⟩ News.nil BG X Ts (allLt_of fun q hq => Heap.lt_size (N q hq).1)) (fun fl s' hl => ?_) fun _ _ y => y
  obtain ⟨L', m', news', F', N', k⟩ := hl
  exact lv _ _ ⟨L', m', news', F', N', fun kF kN => k kF kN fun q hq => ⟨F'.keep _ _ (N q hq).1, (N q hq).2⟩⟩
end
theorem news_both {h₀ h : Heap} {L : Addr} {a b : List (Addr × Obj)} (A : News h₀ L h a) (B : News h₀ L h b) : News h₀ L h (a ++ b) := fun p hp => (List.mem_append.mp hp).elim (A p) (B p)
theorem allLt_trans {a b : Nat} : ∀ {l : List (Addr × Obj)}, AllLt a l → a < b → AllLt b l
  | [], _, _ => trivial
  | _ :: _, ⟨h1, h2⟩, h => ⟨Nat.lt_trans h1 h, allLt_trans h2 h⟩
section
variable {prog : Program} {w : World} {A : Around} {E : Value → Shared → Prop} {s : Shared} {h₀ : Heap} {L : Addr} {m : Str → Option Value} {news : List (Addr × Obj)} {vs : List Value} {Q : Value → Shared → Prop}
theorem newTuple_L (F : Fr h₀ L s.heap m) (N : News h₀ L s.heap news) (h : ∀ D h', Fr h₀ L h' m → News h₀ L h' ((D, { cls := .type "tuple", data := .seq vs.toArray }) :: news) → (∀ p ∈ news, p.1 < D) → L < D → Q (.ref D) { s with heap := h' }) (hz : vs.length ≤ sizeLine) :
    wpAny (model prog w) A (newTuple vs) Q E s :=
  wpAny_newTuple (h _ _ (F.push _) (News.push F N _) (fun p hp => Heap.lt_size (N p hp).1) F.ns.lt) (by exact hz)
end
end Mine
end
section -- C3
open PySem PySem.W PyProof.Rows PySem.Spec PySem.Calls
set_option maxRecDepth 100000
set_option maxHeartbeats 2000000
namespace Mine
section
variable {w : World} {p : Program} {loose : List Str} {mean : ExcName → Option Value} {mg mb : Str → Option Value} {dp un : Nat} {gd : Option (List Code)} {cn : Str} {cs : Scope} {a : Addr} {ccd : Value} {cl : List (Str × Addr)} {outer : List Env} {A₀ : Around} {base h₀ : Heap} {L : Addr} {m : Str → Option Value} {news : List (Addr × Obj)} {s : Shared} {n : Nat} {x : Str} {tk : Tok} {Q E : Value → Shared → Prop}
theorem parse_use (B : Below A₀ base outer h₀) (F : Fr h₀ L s.heap m) (X : (hd.heap_39 w.params).In h₀) (N : News h₀ L s.heap news) (T : Top p loose mean mg mb h₀) (hk : cs.kind = .function) (hn : n < 10000) (hd : dp + 1 < recursionLimit) (hu : un + 8 < cLine)
    (hret : ∀ t h' tk', Fr h₀ L h' m → News h₀ L h' news → Q (.str (told n) t) { s with heap := h', toks := tk' }) :
    wpAny (model PySem.Challenge.rw_sr0020_01.row.prog w) (ktrTop dp un gd cn cs L a ccd cl outer) (call (.ref 90) [.str (pat n) tk]) Q E s :=
  parse_tells _ _ _ _ _ _ _ _ _ _ _ _ _ _ _ _ _ _ _ _ _ B F X N T hk hn rfl hd hu hret
theorem quote_use (B : Below A₀ base outer h₀) (F : Fr h₀ L s.heap m) (X : (hd.heap_39 w.params).In h₀) (N : News h₀ L s.heap news) (T : Top p loose mean mg mb h₀) (hk : cs.kind = .function) (hn : n < 10000) (hn1 : 1 ≤ n) (hd : dp + 1 < recursionLimit) (hu : un + 8 < cLine)
    (hret : ∀ t h' tk', Fr h₀ L h' m → News h₀ L h' news → Q (.str (dots (n + 1)) t) { s with heap := h', toks := tk' }) :
    wpAny (model PySem.Challenge.rw_sr0020_01.row.prog w) (ktrTop dp un gd cn cs L a ccd cl outer) (call (.ref 107) [.str (dots n) tk]) Q E s :=
  quote_tells _ _ _ _ _ _ _ _ _ _ _ _ _ _ _ _ _ _ _ _ _ B F X N T hk hn hn1 rfl hd hu hret
end
abbrev pairObj (x y : Str) (t u : Tok) (c : Nat) : Obj := { cls := .type "tuple", data := .seq #[.str x t, .str y u] c }
def stepN (n : Nat) (a b : Nat) : Nat := if n % 2 = 0 then n / 2 else (n * a + b) / 2
def stepC (n : Nat) : Str := if n % 2 = 0 then Str.ofString "e" else Str.ofString "o"
def StepTells (w : World) (p : Program) (loose : List Str) (mean : ExcName → Option Value) (mg mb : Str → Option Value) : Prop :=
  ∀ (dp un : Nat) (gd : Option (List Code)) (cn : Str) (cs : Scope) (a : Addr) (ccd : Value) (cl : List (Str × Addr)) (outer : List Env) (A₀ : Around) (base h₀ : Heap) (L : Addr) (m : Str → Option Value) (news : List (Addr × Obj)) (s : Shared) (n : Nat) (tk : Tok) (i j : Int) (ti tj : Tok)
    (Q E : Value → Shared → Prop),
    Below A₀ base outer h₀ → Fr h₀ L s.heap m → (hd.heap_39 w.params).In h₀ → News h₀ L s.heap news → Top p loose mean mg mb h₀ → cs.kind = .function → n ≤ 1000 → (i = 1 ∨ i = 3 ∨ i = 5) → (j = 1 ∨ j = 3 ∨ j = 5) → dp + 2 < recursionLimit → un + 16 < cLine →
    (∀ D t1 t2 c h' tk', Fr h₀ L h' m → News h₀ L h' ((D, pairObj (dots (stepN n i.toNat j.toNat)) (stepC n) t1 t2 c) :: news) → AllLt D news → Q (.ref D) { s with heap := h', toks := tk' }) →
    wpAny (model PySem.Challenge.rw_sr0020_01.row.prog w) (ktrTop dp un gd cn cs L a ccd cl outer) (call (.ref 114) [.str (dots n) tk, .int i ti, .int j tj]) Q E s
local macro_rules | `(tactic| walk_at "call builtin:str.replace") => `(tactic| (with_reducible refine' rep_dots ?n ?u ?v ?uv ?_; (case n => omega); (case u => first | exact Nat.succ_ne_zero _ | exact Nat.ne_of_gt (by assumption)); (case v => exact Nat.succ_ne_zero _); (case uv => exact Nat.ne_of_lt (Nat.lt_succ_self _)); intro t' k'))
local macro_rules | `(tactic| walk_at "call builtin:str.replace") => `(tactic| (with_reducible refine' rep_quotes ?n ?u ?v ?uv ?_; (case n => omega); (case u => first | exact Nat.succ_ne_zero _ | exact Nat.ne_of_gt (by assumption)); (case v => exact Nat.succ_ne_zero _); (case uv => exact Nat.ne_of_lt (Nat.lt_succ_self _)); intro t' k'))
local macro_rules | `(tactic| walk_at "binaryOp Add str str") => `(tactic| (with_reducible refine' add_head ?n ?_; (case n => omega); intro t' k'))
local macro_rules | `(tactic| walk_at "binaryOp Add str str") => `(tactic| (with_reducible refine' add_tail ?n ?_; (case n => omega); intro t' k'))
local macro_rules | `(tactic| walk_at "binaryOp Mult str int") => `(tactic| (with_reducible refine' mul_rule ?n ?u ?v ?_; (case n => omega); (case u => omega); (case v => omega); intro t' k'))
local macro_rules | `(tactic| walk_at "subscriptTail Name Slice str ref") => `(tactic| (with_reducible refine' told_last (s := ⟨_, _, _, _, _⟩) ?x ?n ?F ?N ?_ ?hs ?ht; (case x => assumption); (case n => omega); (case F => k_asm); (case N => k_asm); (case hs => with_unfolding_all rfl); (case ht => intro _; with_unfolding_all rfl); intro h' t' k' F' N'))
local macro_rules | `(tactic| walk_at "subscriptTail Name Slice str ref") => `(tactic| (with_reducible refine' told_init (s := ⟨_, _, _, _, _⟩) ?tk ?x ?n ?F ?N ?_ ?hs ?ht; (case tk => exact Nat.succ_pos _); (case x => omega); (case n => omega); (case F => k_asm); (case N => k_asm); (case hs => with_unfolding_all rfl); (case ht => intro _; with_unfolding_all rfl); intro h' t' k' hk' F' N'))
local macro_rules | `(tactic| walk_at "call ref") => `(tactic| (k_dflt (first
  | (refine' parse_use ?k1 ?k2 ?k3 ?k4 ?k5 ?kK ?n ?kd ?ku ?_; (case n => omega))
  | (refine' quote_use ?k1 ?k2 ?k3 ?k4 ?k5 ?kK ?n ?n1 ?kd ?ku ?_; (case n => omega); (case n1 => omega))); (case k1 => k_asm); (case k2 => k_asm); (case k3 => k_asm); (case k4 => k_asm); (case k5 => k_asm); (case kK => first | exact rfl | assumption); (case kd => ktr_room); (case ku => ktr_units); intro t9 h9 tk9 F9 N9; (try k_sweep)))
theorem eq_str_false {prog : Program} {w : World} {A : Around} {E : Value → Shared → Prop} {s : Shared} {x y : Str} {t u : Tok} {Q : Value → Shared → Prop} (hxy : (x == y) = false) (h : Q (.bool false) s) : wpAny (model prog w) A (compareOp .Eq (.str x t) (.str y u)) Q E s :=
  PyProof.Rows.eq_str (by rw [hxy]; exact h)
local macro_rules | `(tactic| walk_at "compareOp Eq str str") => `(tactic| (with_reducible refine' eq_str_false ?x ?_; (case x => assumption)))
theorem last_other {n : Nat} (hp : n % 2 = 1) : ∃ y, Txt.slice (told n) (some (-1)) none = y ∧ (y == Str.ofString "x") = false := by
  by_cases h : n / 2 = 0
  · exact ⟨_, last_one hp h, by decide +kernel⟩
  · exact ⟨_, last_odd hp h, by decide +kernel⟩
theorem step_ret {h₀ h' : Heap} {L L' : Addr} {m : Str → Option Value} {news news' : List (Addr × Obj)} {s : Shared} {Q : Value → Shared → Prop} {x x' y y' : Str} {D : Addr} {t u : Tok} {c : Nat} {tk' : Nat}
    (hret : ∀ D t1 t2 c h' tk', Fr h₀ L h' m → News h₀ L h' ((D, pairObj x y t1 t2 c) :: news) → AllLt D news → Q (.ref D) { s with heap := h', toks := tk' })
    (F : Fr h₀ L h' m) (N : News h₀ L h' news') (M : News h₀ L h' news) (hn : (D, pairObj x' y' t u c) ∈ news') (hl : AllLt L' news) (hL : L' < D) (e1 : x' = x) (e2 : y' = y) : Q (.ref D) { s with heap := h', toks := tk' } := by
  subst e1 e2
  exact hret D t u c h' tk' F (fun p hp => (List.mem_cons.mp hp).elim (fun e => e ▸ N _ hn) (M p)) (allLt_trans hl hL)
local macro_rules | `(tactic| walk_at "newTuple") => `(tactic| (k_dflt (refine' newTuple_L ?F ?N ?_ ?z; (case F => k_asm); (case N => k_asm); (case z => (simp only [List.length_cons, List.length_nil, sizeLine_eq]; decide))); intro D' h' F' N' l1 lL; (try k_lt l1); (try k_sweep)))
theorem step_tells {w p loose mean mg mb} : StepTells w p loose mean mg mb := by
  unfold StepTells
  w_top off
  k_fill
  intro dp un gd cn cs a ccd cl outer A₀ base h₀ L m news s n tk i j ti tj Q E B F X N T hk hn hi hj hd hu hret
  have hn5 : n * i.toNat ≤ 5000 := by rcases hi with rfl | rfl | rfl <;> simp <;> omega
  refine wpAny_call ?_
  k_dflt (refine' enter0 [(Str.ofString "row", Value.str (dots n) tk), (Str.ofString "factor", Value.int i ti), (Str.ofString "more", Value.int j tj)] ?k1 ?k2 ?k3 ?k4 ?k5 ?kA ?kF ?kK ?k6 ?k7 ?k8 ?k9 ?kB ?_ ?c2 ?c3 ?c4 ?c5; (case kA => exact rfl); (case kF => exact rfl); (case kK => assumption); (case k1 => k_asm); (case k2 => k_asm); (case k3 => k_asm); (case k4 => k_asm); (case k5 => k_asm); (case k6 => k_is); (case k7 => k_is); (case k8 => ktr_room); (case k9 => exact BindsTo.of_eq rfl); (case c5 => decide); (case kB => exact locs rfl); (case c2 => exact rfl); (case c3 => exact rfl); (case c4 => exact rfl); k_whole; intro g' L' h' FG' F' N' B' X' T' hLn; (try dsimp only); (try k_lift B'); (try k_fold))
  by_cases hp : n % 2 = 0
  · have h1 := last_even hp
    k_steps
    all_goals (rename News _ _ _ _ => kM'; revert kM'; rename News _ _ _ _ => kN'; intro kM'; refine' step_ret hret ?kF kN' kM' ?kn hLn ?kl ?e1 ?e2; (case kF => k_asm); (case kn => exact .head _); (case kl => assumption); (case e1 => rw [stepN, if_pos hp]); (case e2 => rw [stepC, if_pos hp]))
  · obtain ⟨y, h1, h2⟩ := last_other (n := n) (by omega)
    have hpar : (n * i.toNat) % 2 = 1 := by rcases hi with rfl | rfl | rfl <;> simp <;> omega
    rcases hj with rfl | rfl | rfl
    all_goals k_steps
    all_goals k_steps
    all_goals (rename News _ _ _ _ => kM'; revert kM'; rename News _ _ _ _ => kN'; intro kM'; refine' step_ret hret ?kF kN' kM' ?kn hLn ?kl ?e1 ?e2; (case kF => k_asm); (case kn => exact .head _); (case kl => assumption); (case e1 => rw [stepN, if_neg hp]; rfl); (case e2 => rw [stepC, if_neg hp]))
end Mine
end
section -- C4
open PySem PySem.W PyProof.Rows PySem.Spec PySem.Calls
set_option maxRecDepth 100000
set_option maxHeartbeats 2000000
namespace Mine
section
variable {w : World} {p : Program} {loose : List Str} {mean : ExcName → Option Value} {mg mb : Str → Option Value} {dp un : Nat} {gd : Option (List Code)} {cn : Str} {cs : Scope} {a : Addr} {ccd : Value} {cl : List (Str × Addr)} {outer : List Env} {A₀ : Around} {base h₀ : Heap} {L : Addr} {m : Str → Option Value} {news : List (Addr × Obj)} {s : Shared} {n : Nat} {i j : Int} {tk ti tj : Tok} {Q E : Value → Shared → Prop}
theorem step_use (B : Below A₀ base outer h₀) (F : Fr h₀ L s.heap m) (X : (hd.heap_39 w.params).In h₀) (N : News h₀ L s.heap news) (T : Top p loose mean mg mb h₀) (hk : cs.kind = .function) (hn : n ≤ 1000) (hi : i = 1 ∨ i = 3 ∨ i = 5) (hj : j = 1 ∨ j = 3 ∨ j = 5) (hd : dp + 2 < recursionLimit) (hu : un + 16 < cLine)
    (hret : ∀ D t1 t2 c h' tk', Fr h₀ L h' m → News h₀ L h' ((D, pairObj (dots (stepN n i.toNat j.toNat)) (stepC n) t1 t2 c) :: news) → AllLt D news → Q (.ref D) { s with heap := h', toks := tk' }) :
    wpAny (model PySem.Challenge.rw_sr0020_01.row.prog w) (ktrTop dp un gd cn cs L a ccd cl outer) (call (.ref 114) [.str (dots n) tk, .int i ti, .int j tj]) Q E s :=
  step_tells _ _ _ _ _ _ _ _ _ _ _ _ _ _ _ _ _ _ _ _ _ _ _ _ B F X N T hk hn hi hj hd hu hret
end
def wordN (n a b : Nat) : Str := Str.ofString "" ++ stepC n ++ stepC (stepN n a b) ++ stepC (stepN (stepN n a b) a b)
def endN (n a b : Nat) : Nat := stepN (stepN (stepN n a b) a b) a b
theorem stepC_len (n : Nat) : (stepC n).length = 1 := by unfold stepC; split <;> decide +kernel
theorem add_letter {prog : Program} {w : World} {A : Around} {E : Value → Shared → Prop} {s : Shared} {x : Str} {n : Nat} {t u : Tok} {Q : Value → Shared → Prop} {k : Nat} (hx : x.length ≤ k) (hk : k ≤ 10)
    (h : ∀ t' tk, (x ++ stepC n).length ≤ k + 1 → Q (.str (x ++ stepC n) t') { s with toks := tk }) : wpAny (model prog w) A (binaryOp .Add (.str x t) (.str (stepC n) u)) Q E s :=
  SB.add (fun t' k => h t' k (by rw [Str.length_append, stepC_len]; omega)) (by rw [stepC_len, sizeLine_eq]; omega)
theorem nil_len : (Str.ofString "").length ≤ 0 := by decide +kernel
theorem stepN_le {n a b B : Nat} (h : n ≤ B) (ha : a ≤ 5) (hb : b ≤ 5) : stepN n a b ≤ (5 * B + 5) / 2 := by
  unfold stepN
  split
  · omega
  · have : n * a ≤ B * 5 := Nat.mul_le_mul h ha
    omega
def WalkTells (w : World) (p : Program) (loose : List Str) (mean : ExcName → Option Value) (mg mb : Str → Option Value) : Prop :=
  ∀ (dp un : Nat) (gd : Option (List Code)) (cn : Str) (cs : Scope) (a : Addr) (ccd : Value) (cl : List (Str × Addr)) (outer : List Env) (A₀ : Around) (base h₀ : Heap) (L : Addr) (m : Str → Option Value) (news : List (Addr × Obj)) (s : Shared) (n i j : Int) (tk ti tj : Tok)
    (Q E : Value → Shared → Prop),
    Below A₀ base outer h₀ → Fr h₀ L s.heap m → (hd.heap_39 w.params).In h₀ → News h₀ L s.heap news → Top p loose mean mg mb h₀ → cs.kind = .function → 0 ≤ n ∧ n ≤ 60 → (i = 1 ∨ i = 3 ∨ i = 5) → (j = 1 ∨ j = 3 ∨ j = 5) → dp + 3 < recursionLimit → un + 24 < cLine →
    (∀ D t1 t2 c h' tk', Fr h₀ L h' m → News h₀ L h' ((D, pairObj (wordN n.toNat i.toNat j.toNat) (dots (endN n.toNat i.toNat j.toNat)) t1 t2 c) :: news) → AllLt D news → Q (.ref D) { s with heap := h', toks := tk' }) →
    wpAny (model PySem.Challenge.rw_sr0020_01.row.prog w) (ktrTop dp un gd cn cs L a ccd cl outer) (call (.ref 121) [.int n tk, .int i ti, .int j tj]) Q E s
local macro_rules | `(tactic| walk_at "binaryOp Mult str int") => `(tactic| (with_reducible refine' mul_rule1 ?n ?u ?_; (case n => omega); (case u => omega); intro t' k'))
local macro_rules | `(tactic| walk_at "binaryOp Add str str") => `(tactic| (with_reducible refine' add_letter ?n ?k ?_; (case n => first | assumption | exact nil_len); (case k => decide); intro t' k' hl'))
local macro_rules | `(tactic| walk_at "newTuple") => `(tactic| (k_dflt (refine' newTuple_L ?F ?N ?_ ?z; (case F => k_asm); (case N => k_asm); (case z => (simp only [List.length_cons, List.length_nil, sizeLine_eq]; decide))); intro D' h' F' N' l1 lL; (try k_lt l1); (try k_sweep)))
local macro_rules | `(tactic| walk_at "call ref") => `(tactic| (k_dflt (
  (refine' step_use ?k1 ?k2 ?k3 ?k4 ?k5 ?kK ?n ?i ?j ?kd ?ku ?_; (case n => first | assumption | omega); (case i => assumption); (case j => assumption)); (case k1 => k_asm); (case k2 => k_asm); (case k3 => k_asm); (case k4 => k_asm); (case k5 => k_asm); (case kK => first | exact rfl | assumption); (case kd => ktr_room); (case ku => ktr_units); intro D9 t9 u9 c9 h9 tk9 F9 N9 l1; (try k_lt l1); (try k_sweep))))
theorem walk_tells {w p loose mean mg mb} : WalkTells w p loose mean mg mb := by
  unfold WalkTells
  w_top off
  k_fill
  intro dp un gd cn cs a ccd cl outer A₀ base h₀ L m news s n i j tk ti tj Q E B F X N T hk hn hi hj hd hu hret
  have hn0 : n.toNat ≤ 1000 := by omega
  have hi5 : i.toNat ≤ 5 := by omega
  have hj5 : j.toNat ≤ 5 := by omega
  have b1 := stepN_le (n := n.toNat) (B := 60) (by omega) hi5 hj5
  have b2 := stepN_le (B := 152) (Nat.le_trans b1 (by decide)) hi5 hj5
  have hn1 : stepN n.toNat i.toNat j.toNat ≤ 1000 := Nat.le_trans b1 (by decide)
  have hn2 : stepN (stepN n.toNat i.toNat j.toNat) i.toNat j.toNat ≤ 1000 := Nat.le_trans b2 (by decide)
  clear b1 b2
  refine wpAny_call ?_
  k_dflt (refine' enter0 [(Str.ofString "count", Value.int n tk), (Str.ofString "factor", Value.int i ti), (Str.ofString "more", Value.int j tj)] ?k1 ?k2 ?k3 ?k4 ?k5 ?kA ?kF ?kK ?k6 ?k7 ?k8 ?k9 ?kB ?_ ?c2 ?c3 ?c4 ?c5; (case kA => exact rfl); (case kF => exact rfl); (case kK => assumption); (case k1 => k_asm); (case k2 => k_asm); (case k3 => k_asm); (case k4 => k_asm); (case k5 => k_asm); (case k6 => k_is); (case k7 => k_is); (case k8 => ktr_room); (case k9 => exact BindsTo.of_eq rfl); (case c5 => decide); (case kB => exact locs rfl); (case c2 => exact rfl); (case c3 => exact rfl); (case c4 => exact rfl); k_whole; intro g' L' h' FG' F' N' B' X' T' hLn; (try dsimp only); (try k_lift B'); (try k_fold))
  k_steps
  all_goals (rename News _ _ _ _ => kM'; revert kM'; rename News _ _ _ _ => kN'; intro kM'; refine' step_ret hret ?kF kN' kM' ?kn hLn ?kl ?e1 ?e2; (case kF => k_asm); (case kn => exact .head _); (case kl => assumption); (case e1 => rfl); (case e2 => rfl))
end Mine
end
section -- E1
open PySem PySem.W PyProof.Rows PySem.Spec PySem.Calls
set_option maxRecDepth 100000
set_option maxHeartbeats 1000000
namespace Mine
section
variable {prog : Program} {w : World} {A A₀ : Around} {s : Shared} {K : Frag} {L : Addr} {h₀ base : Heap} {m mg mb : Str → Option Value} {hid : List (Addr × Obj)} {p : Program} {loose : List Str} {mean : ExcName → Option Value}
theorem hideAll_nil (h : Heap) : hideAll h [] = h := rfl
theorem enterG {env : Env} {outer : List Env} {R : Result → Shared → Prop} {name qual : Str} {params : Arguments} {body : List Stmt} {scope : Scope} {dV kV doc pm cdv ct oc : Value} {an od : Option Addr} {osl : Array (Option Value)} {f : Addr} {args : Args} (binds : List (Str × Value))
    (B : Below A₀ base outer h₀) (F : Fr h₀ L s.heap m) (X₀ : K.In h₀) (N : News h₀ L s.heap hid) (T : Top p loose mean mg mb h₀) (hA : A.frames = some (env :: outer)) (hf : env.frame = some L) (hke : env.scope.kind = .function)
    (ho : K.lookup f = some ⟨oc, od, .func (fnOf name qual params body scope dV kV doc pm an cdv ct), osl⟩) (hcd : codeIn K cdv qual = true) (hroom : A.depth < recursionLimit)
    (hbind : BindsTo s (fnOf name qual params body scope dV kV doc pm an cdv ct) args binds) (hloc : ∀ y ∈ binds, scope.names.lookup y.1 = some .local)
    (h : ∀ g L' h₁, Fr h₀ L g m → Fr g L' h₁ (fun y => binds.reverse.lookup y) → News g L' h₁ hid → Below A base (env :: outer) g → K.In g → Top p loose mean mg mb g →
      (∀ b o, s.heap.get? b = some o → b < L') → (∀ b o, s.heap.get? b = some o → b ∉ hid.map (·.1) → g.get? b = some o) →
      wpAny (model prog w) (A.deeper (envOf qual scope L' f cdv)) (execs body (envOf qual scope L' f cdv))
        (fun fl s' => LeaveK h₀ L m g (fun r s' => (∀ b o, s.heap.get? b = some o → b ∉ hid.map (·.1) → s'.heap.get? b = some o) → R r s') (match fl with | .ret v => v | _ => .none) s')
        (fun e s' => wpAny (model prog w) (A.deeper (envOf qual scope L' f cdv)) (leaving (envOf qual scope L' f cdv) e) (fun _ s'' => R (.error e) s'') (fun e' s'' => R (.error e') s'') s')
        { s with heap := h₁, toks := s.toks + binds.length })
    (hco : scope.isCoroutine = false) (hgen : scope.isGenerator = false) (hk : scope.kind = .function)
    (hcell : ∀ x ∈ scope.names, x.2 ≠ .cell) : codeAny (model prog w) A (.call (.ref f) args) R s := by
  have X := X₀.keeps F.keep
  obtain ⟨FG, BG, st, lv⟩ := groundX (R := R) B F N hA hf hke
  refine codeAny_call_def (fd := fnOf name qual params body scope dV kV doc pm an cdv ct) (body := body) (binds := binds) hroom (X _ _ ho) rfl (T.nolimit.keeps F.keep) (codeRec_of X hcd) rfl hbind hcell hloc (fun h₁ hns hk₁ => ?_) hco hgen hk
  refine wpAny_mono (h _ s.heap.objs.size h₁ FG ⟨hns, fun b o e => hk₁ b o (of_hideAll _ e), Nat.le_of_eq (hideAll_size _ _)⟩
    (fun p hp => ⟨hk₁ _ _ (N p hp).1, Nat.ne_of_lt (Heap.lt_size (N p hp).1), hideAll_none _ (List.mem_map_of_mem hp)⟩) BG (X₀.keeps st) (T.keeps st) (fun b o e => Heap.lt_size e) (fun b o e hb => hideAll_get _ e hb)) (fun fl s' hl => ?_) fun _ _ y => y
  obtain ⟨L', m', news', F', N', k⟩ := hl
  exact lv _ _ ⟨L', m', news', F', N', fun kF kN => k kF kN fun b o e hb => F'.keep _ _ (hideAll_get _ e hb)⟩
end
-- the lambda «one: one[0]»
abbrev lamParams (p1 : Pos) : Arguments := { posonlyargs := [], args := [{ arg := Str.ofString "one", annotation := none, pos := p1 }], vararg := none, kwonlyargs := [], kw_defaults := [], kwarg := none, defaults := [] }
abbrev lamBody (p2 p3 p4 : Pos) : PySem.Expr := .Subscript (.Name (Str.ofString "one") p2) (.Constant (.int 0) 0 p3) p4
abbrev lamScope : Scope := { kind := .function, names := [(Str.ofString "one", .local)], isGenerator := false, isCoroutine := false }
abbrev lamObj (qual : Str) (p1 p2 p3 p4 : Pos) (pm : Value) (c' : Addr) (ctv : Value) : Obj := kla_obj (Str.ofString "<lambda>") qual (lamParams p1) (lamBody p2 p3 p4) lamScope [] pm c' ctv
def LamAt (h : Heap) (f : Addr) : Prop := ∃ qual p1 p2 p3 p4 pm c' ctv oc vs t, h.get? f = some (lamObj qual p1 p2 p3 p4 pm c' ctv) ∧ h.get? c' = some oc ∧ oc.data = .fields vs ∧ vs[1]? = some (.str qual t)
theorem LamAt.keeps {h h' : Heap} {f : Addr} (x : LamAt h f) (k : ∀ b o, h.get? b = some o → h'.get? b = some o) : LamAt h' f := by
  obtain ⟨qual, p1, p2, p3, p4, pm, c', ctv, oc, vs, t, e1, e2, e3, e4⟩ := x
  exact ⟨qual, p1, p2, p3, p4, pm, c', ctv, oc, vs, t, k _ _ e1, k _ _ e2, e3, e4⟩
theorem LamAt.fnAt {h : Heap} {f : Addr} (x : LamAt h f) : FnAt f h := by
  obtain ⟨qual, p1, p2, p3, p4, pm, c', ctv, oc, vs, t, e1, e2, e3, e4⟩ := x
  exact ⟨_, _, _, _, e1⟩
theorem LamAt.of_news {h₀ h : Heap} {L f c' : Addr} {news : List (Addr × Obj)} {qual : Str} {p1 p2 p3 p4 : Pos} {pm ctv : Value} {oc : Obj} {vs : Array Value} {t : Tok} (N : News h₀ L h news)
    (h1 : (f, lamObj qual p1 p2 p3 p4 pm c' ctv) ∈ news) (h2 : (c', oc) ∈ news) (h3 : oc.data = .fields vs) (h4 : vs[1]? = some (.str qual t)) : LamAt h f :=
  ⟨qual, p1, p2, p3, p4, pm, c', ctv, oc, vs, t, (N _ h1).1, (N _ h2).1, h3, h4⟩
section
variable {prog : Program} {w : World} {A : Around} {E : Value → Shared → Prop} {s : Shared} {L : Addr} {h₀ : Heap} {m mg mb : Str → Option Value} {p : Program} {loose : List Str} {mean : ExcName → Option Value} {f T : Addr} {items : List Value} {v : Value} {Q : Value → Shared → Prop}
theorem lam_call (F : Fr h₀ L s.heap m) (Tp : Top p loose mean mg mb h₀) (hf : LamAt s.heap f) (hT : IsTup s.heap T items.toArray) (h0 : items[0]? = some v) (hroom : A.depth < recursionLimit)
    (h : ∀ h' tk', Fr h₀ L h' m → (∀ b o, s.heap.get? b = some o → h'.get? b = some o) → Q v { s with heap := h', toks := tk' }) :
    wpAny (model prog w) A (call (.ref f) [.ref T]) Q E s := by
  obtain ⟨qual, p1, p2, p3, p4, pm, c', ctv, oc, vs, t, e1, e2, e3, e4⟩ := hf
  refine wpAny_call ?_
  refine kla_callFunE hroom e1 rfl rfl rfl rfl ⟨c', oc, vs, t, rfl, e2, e3, e4⟩ ?_
  have hb : bindArgs (kla_fn (Str.ofString "<lambda>") qual (lamParams p1) (lamBody p2 p3 p4) lamScope [] pm (.ref c') ctv) ⟨[.ref T], []⟩ = pure [(Str.ofString "one", .ref T)] := rfl
  rw [hb]
  refine wpAny_pure (wpAny_newFunctionEnv (scope := lamScope) (by decide) (locs rfl) (fun h₁ hns hsb => ⟨((Tp.nolimit).keeps F.keep).fresh _ hsb, ?_⟩) rfl)
  have hk₁ : ∀ b o, s.heap.get? b = some o → h₁.get? b = some o := fun b o e => hsb.extBut b o (Nat.ne_of_lt (Heap.lt_size e)) (Heap.get?_push_of_some _ e)
  show codeAny _ _ (.expr (lamBody p2 p3 p4) (envX qual lamScope s.heap.objs.size f (.ref c') [])) _ _
  refine kla_codeExpr ?_
  have F1 : Fr s.heap s.heap.objs.size h₁ (fun y => ([(Str.ofString "one", Value.ref T)] : List (Str × Value)).reverse.lookup y) := ⟨hns, hk₁, Nat.le_refl _⟩
  have F2 : ∀ {tk : Nat}, Fr h₀ L h₁ m := fun {_} => ⟨F.ns.keeps hk₁, fun b o e => hk₁ b o (F.keep b o e), F.above⟩
  refine Subscript_ ?_
  refine nameX_L F1 rfl ?_ rfl rfl
  refine wpAny_Constant_int ?_
  refine item_tupleT (l := items) (j := 0) (hT.keeps hk₁) (by decide) (by decide) ?_ h0 ?_ ?_
  · have : 0 < items.length := by rcases items with _ | ⟨a, r⟩; cases h0; simp
    unfold seqIndex?
    simp [this]
  · exact h _ _ (F2 (tk := 0)) hk₁
  · with_unfolding_all rfl
end
end Mine
end
section -- C5
open PySem PySem.W PyProof.Rows PySem.Spec PySem.Calls
set_option maxRecDepth 100000
set_option maxHeartbeats 2000000
namespace Mine
abbrev Ents := List (Addr × Str)
def EntsAt (h : Heap) (es : Ents) : Prop := ∀ e ∈ es, ∃ (items : List Value) (t : Tok), IsTup h e.1 items.toArray ∧ items[0]? = some (.str e.2 t)
theorem EntsAt.keeps {h h' : Heap} {es : Ents} (x : EntsAt h es) (k : ∀ b o, h.get? b = some o → h'.get? b = some o) : EntsAt h' es := fun e he =>
  let ⟨items, t, a, b⟩ := x e he; ⟨items, t, a.keeps k, b⟩
def refs (es : Ents) : List Value := es.map fun e => .ref e.1
theorem refs_len (es : Ents) : (refs es).length = es.length := by simp [refs]
def bisF (p : Nat → Bool) : Nat → Nat → Nat → Nat
  | 0, lo, _ => lo
  | k + 1, lo, hi => if lo < hi then (if p ((lo + hi) / 2) = true then bisF p k ((lo + hi) / 2 + 1) hi else bisF p k lo ((lo + hi) / 2)) else lo
def keyAt (es : Ents) (i : Nat) : Str := (es.getD i (0, Str.empty)).2
def addrAt (es : Ents) (i : Nat) : Addr := (es.getD i (0, Str.empty)).1
def pL (es : Ents) (x : Str) (i : Nat) : Bool := decide ((keyAt es i).cps.toList < x.cps.toList)
def pR (es : Ents) (x : Str) (i : Nat) : Bool := !decide (x.cps.toList < (keyAt es i).cps.toList)
def bisL (es : Ents) (x : Str) : Nat := bisF (pL es x) (es.length + 1) 0 es.length
def bisR (es : Ents) (x : Str) : Nat := bisF (pR es x) (es.length + 1) 0 es.length
theorem bisF_ge {p : Nat → Bool} {lo hi : Nat} (h : ¬ lo < hi) : ∀ k, bisF p k lo hi = lo
  | 0 => rfl
  | k + 1 => by unfold bisF; rw [if_neg h]
theorem bisF_le {p : Nat → Bool} : ∀ (k lo hi n : Nat), lo ≤ n → hi ≤ n → bisF p k lo hi ≤ n
  | 0, lo, hi, n, h, _ => h
  | k + 1, lo, hi, n, h, h2 => by
    unfold bisF
    split
    · split
      · exact bisF_le k _ _ n (by omega) h2
      · exact bisF_le k _ _ n h (by omega)
    · exact h
def bvars (m mm : Str → Option Value) (lo hi : Nat) (tl th : Tok) : Str → Option Value := fun y =>
  if y = Str.ofString "lo" then some (.int lo tl) else if y = Str.ofString "hi" then some (.int hi th) else if y = Str.ofString "mid" then mm y else m y
def other (z : Str) : Prop := z ≠ Str.ofString "lo" ∧ z ≠ Str.ofString "hi" ∧ z ≠ Str.ofString "mid"
def BisPost (p : Nat → Bool) (h₀ : Heap) (L : Addr) (s : Shared) (m : Str → Option Value) (lo hi : Nat) (Q : Flow → Shared → Prop) (f : Flow) (s₃ : Shared) : Prop :=
  match f with
  | .next | .cont => ∃ h' tk m₂ ilo ihi tl' th', s₃ = { s with heap := h', toks := tk } ∧ Fr h₀ L h' m₂ ∧ lo < hi ∧ m₂ (Str.ofString "lo") = some (.int ilo tl') ∧ m₂ (Str.ofString "hi") = some (.int ihi th') ∧ (∀ z, other z → m₂ z = m z) ∧
      ((p ((lo + hi) / 2) = true ∧ ilo = (((lo + hi) / 2 + 1 : Nat) : Int) ∧ ihi = ((hi : Nat) : Int)) ∨ (p ((lo + hi) / 2) = false ∧ ilo = ((lo : Nat) : Int) ∧ ihi = (((lo + hi) / 2 : Nat) : Int)))
  | .brk => Q .next s₃
  | .ret v => Q (.ret v) s₃
section
variable {prog : Program} {w : World} {A : Around} {E : Value → Shared → Prop} {s : Shared} {env : Env} {h₀ : Heap} {L : Addr}
def PMark (_p : Nat → Bool) : Prop := True
theorem nilOf {h : Heap} {m : Str → Option Value} (_F : Fr h₀ L h m) : News h₀ L h [] := News.nil
theorem bis_while {Q : Flow → Shared → Prop} {test : PySem.Expr} {body : List Stmt} {pos : Pos} {m : Str → Option Value} {p : Nat → Bool} (_hm : PMark p) {n : Nat} {tl th : Tok}
    (F : Fr h₀ L s.heap m) (h1 : m (Str.ofString "lo") = some (.int 0 tl)) (h2 : m (Str.ofString "hi") = some (.int ((n : Nat) : Int) th))
    (turn : ∀ mm h₁ tk₁ lo hi tl th, Fr h₀ L h₁ (bvars m mm lo hi tl th) → lo ≤ hi → hi ≤ n → (¬ lo < hi → lo = bisF p (n + 1) 0 n) →
      wpAny (model prog w) A (isTrue test env (eval test env)) (fun b s₂ =>
        if b = true then wpAny (model prog w) A (execs body env) (BisPost p h₀ L s m lo hi Q) E s₂ else Q .next s₂) E { s with heap := h₁, toks := tk₁ })
    (hE : PassesOwn (model prog w) A env E) :
    wpAny (model prog w) A (exec (.While test body [] pos) env) Q E s := by
  refine While_inv2 (news := []) (fun μ m₁ nx => nx = [] ∧ ∃ lo hi k tl th, μ = hi - lo ∧ hi - lo ≤ k ∧ lo ≤ hi ∧ hi ≤ n ∧ bisF p k lo hi = bisF p (n + 1) 0 n ∧ m₁ (Str.ofString "lo") = some (.int ((lo : Nat) : Int) tl) ∧ m₁ (Str.ofString "hi") = some (.int ((hi : Nat) : Int) th) ∧ (∀ z, other z → m₁ z = m z)) (n₀ := n) F News.nil
    ⟨rfl, 0, n, n + 1, tl, th, by omega, by omega, by omega, by omega, rfl, h1, h2, fun _ _ => rfl⟩ ?_ hE
  rintro μ m₁ nx h₁ tk₁ F₁ N₁ ⟨rfl, lo, hi, k, tl', th', hμ, hk, hlh, hn, hres, e1, e2, e3⟩
  have em : bvars m m₁ lo hi tl' th' = m₁ := by
    funext y
    unfold bvars
    split
    · rename_i h; rw [h]; exact e1.symm
    split
    · rename_i h; rw [h]; exact e2.symm
    split
    · rfl
    rename_i a b c
    exact (e3 y ⟨a, b, c⟩).symm
  refine wpAny_mono (turn m₁ h₁ tk₁ lo hi tl' th' (by rw [em]; exact F₁) hlh hn (fun h => by rw [← hres, bisF_ge h])) (fun b s₂ hb => ?_) fun _ _ h => h
  cases b with
  | false => exact hb
  | true =>
    simp only [if_true] at hb ⊢
    refine wpAny_mono hb (fun f s₃ hf => ?_) fun _ _ h => h
    have fin : (∃ h' tk m₂ ilo ihi tl' th', s₃ = { s with heap := h', toks := tk } ∧ Fr h₀ L h' m₂ ∧ lo < hi ∧ m₂ (Str.ofString "lo") = some (.int ilo tl') ∧ m₂ (Str.ofString "hi") = some (.int ihi th') ∧ (∀ z, other z → m₂ z = m z) ∧
      ((p ((lo + hi) / 2) = true ∧ ilo = (((lo + hi) / 2 + 1 : Nat) : Int) ∧ ihi = ((hi : Nat) : Int)) ∨ (p ((lo + hi) / 2) = false ∧ ilo = ((lo : Nat) : Int) ∧ ihi = (((lo + hi) / 2 : Nat) : Int)))) →
        ∃ h' tk m₂ news₂ n', s₃ = { s with heap := h', toks := tk } ∧ Fr h₀ L h' m₂ ∧ News h₀ L h' news₂ ∧ n' < μ ∧ (news₂ = [] ∧ ∃ lo hi k tl th, n' = hi - lo ∧ hi - lo ≤ k ∧ lo ≤ hi ∧ hi ≤ n ∧ bisF p k lo hi = bisF p (n + 1) 0 n ∧ m₂ (Str.ofString "lo") = some (.int ((lo : Nat) : Int) tl) ∧ m₂ (Str.ofString "hi") = some (.int ((hi : Nat) : Int) th) ∧ (∀ z, other z → m₂ z = m z)) := by
      rintro ⟨h', tk, m₂, ilo, ihi, tl2, th2, rfl, F2, hlt, f1, f2, f3, hc⟩
      obtain ⟨k', rfl⟩ : ∃ k', k = k' + 1 := ⟨k - 1, by omega⟩
      unfold bisF at hres
      rw [if_pos hlt] at hres
      rcases hc with ⟨hp, rfl, rfl⟩ | ⟨hp, rfl, rfl⟩
      · rw [if_pos hp] at hres
        exact ⟨h', tk, m₂, [], _, rfl, F2, News.nil, by omega, rfl, _, _, k', tl2, th2, rfl, by omega, by omega, hn, hres, f1, f2, f3⟩
      · rw [if_neg (by rw [hp]; exact Bool.false_ne_true)] at hres
        exact ⟨h', tk, m₂, [], _, rfl, F2, News.nil, by omega, rfl, _, _, k', tl2, th2, rfl, by omega, by omega, by omega, hres, f1, f2, f3⟩
    cases f with
    | next => exact fin hf
    | cont => exact fin hf
    | brk => exact hf
    | ret v => exact hf
theorem list_item {value slice : PySem.Expr} {g : Heap} {l : Addr} {vs : List Value} {i : Int} {k : Nat} {u : Tok} {v : Value} {m : Str → Option Value} {Q : Value → Shared → Prop} (hl : g.IsList l vs.toArray) (F : Fr g L s.heap m) (hi : i = (k : Int)) (hk : vs.length ≤ 100000) (hx : vs[k]? = some v) (h : Q v s)
    (hs : subscripted slice false (.ref l) (.int i u) = operate [.ref l, .int i u] (getItem (.ref l) (.int i u))) :
    wpAny (model prog w) A (subscriptTail value slice (.ref l) (.int i u)) Q E s := by
  have hL : s.heap.IsList l vs.toArray := hl.at fun o e => F.keep l o e
  have hlt : k < vs.length := (List.getElem?_eq_some_iff.mp hx).1
  exact tail_any hL.typeIs slot_list_getitem.lookup (wpAny_getItem_list hL (by omega) (by omega) (by rw [hi]; simpa using hx) h) hs
theorem list_len {g : Heap} {l : Addr} {vs : List Value} {m : Str → Option Value} {Q : Value → Shared → Prop} (hl : g.IsList l vs.toArray) (F : Fr g L s.heap m) (hk : vs.length ≤ 100000) (h : ∀ t k, Q (.int (vs.length : Nat) t) { s with toks := k }) :
    wpAny (model prog w) A (call (.builtin "len") [.ref l]) Q E s :=
  call_len_list (hl.at fun o e => F.keep l o e) (by simp; omega) (by simpa using h _ _)
theorem lt_is {x y : Str} {t u : Tok} {b : Bool} {Q : Value → Shared → Prop} (hb : decide (x.cps.toList < y.cps.toList) = b) (h : Q (.bool b) s) : wpAny (model prog w) A (compareOp .Lt (.str x t) (.str y u)) Q E s :=
  PySem.P.lt_str (by rw [hb]; exact h)
end
end Mine
end
section -- C6
open PySem PySem.W PyProof.Rows PySem.Spec PySem.Calls
set_option maxRecDepth 100000
set_option maxHeartbeats 2000000
namespace Mine
/-- what a pure call leaves: a value, every object of the caller kept -/
abbrev Kept (h h' : Heap) : Prop := ∀ b o, h.get? b = some o → h'.get? b = some o
def BisTells (w : World) (p : Program) (loose : List Str) (mean : ExcName → Option Value) (mg mb : Str → Option Value) (fa : Addr) (args : Value → Value → Tok → List Value) (res : Ents → Str → Nat) : Prop :=
  ∀ (dp un : Nat) (gd : Option (List Code)) (cn : Str) (cs : Scope) (a : Addr) (ccd : Value) (cl : List (Str × Addr)) (outer : List Env) (A₀ : Around) (base h₀ : Heap) (L : Addr) (m : Str → Option Value) (s : Shared) (sh f : Addr) (es : Ents) (x : Str) (tk tl : Tok)
    (Q E : Value → Shared → Prop),
    Below A₀ base outer h₀ → Fr h₀ L s.heap m → (hd.heap_39 w.params).In h₀ → Top p loose mean mg mb h₀ → cs.kind = .function → s.heap.IsList sh (refs es).toArray → EntsAt s.heap es → LamAt s.heap f → es.length ≤ 1000 → dp + 2 < recursionLimit → un + 16 < cLine →
    (∀ t h' tk', Fr h₀ L h' m → Kept s.heap h' → Q (.int (res es x : Nat) t) { s with heap := h', toks := tk' }) →
    wpAny (model PySem.Challenge.rw_sr0020_01.row.prog w) (ktrTop dp un gd cn cs L a ccd cl outer) (call (.ref fa) (args (.ref sh) (.str x tk) tl) [(Str.ofString "key", .ref f)]) Q E s
theorem addrAt_get {es : Ents} {k : Nat} (h : k < es.length) : (refs es)[k]? = some (.ref (addrAt es k)) := by
  simp [refs, addrAt, List.getD, h]
theorem ent_at {h : Heap} {es : Ents} {k : Nat} (H : EntsAt h es) (hk : k < es.length) : ∃ (items : List Value) (t : Tok), IsTup h (addrAt es k) items.toArray ∧ items[0]? = some (.str (keyAt es k) t) := by
  have := H (es[k]) (List.getElem_mem hk)
  simpa [addrAt, keyAt, List.getD, hk] using this
theorem mid_eq (lo hi : Nat) : Int.fdiv ((lo : Int) + (hi : Int)) 2 = (((lo + hi) / 2 : Nat) : Int) := by
  rw [Int.fdiv_eq_ediv_of_nonneg _ (by decide)]; omega
local macro_rules | `(tactic| walk_at "call builtin:len") => `(tactic| (k_dflt (refine' list_len ?l ?F ?k ?_; (case l => assumption); (case F => k_asm); (case k => rw [refs_len]; omega)); intro t' k'))
local macro_rules | `(tactic| walk_at "callWith ref") => `(tactic| (k_dflt (refine' callWith_F ?k1 ?_; (case k1 => exact LamAt.fnAt (LamAt.keeps (by assumption) (Fr.keep (by k_asm)))))))
local macro_rules | `(tactic| walk_at "And") => `(tactic| ((with_reducible show FnAt _ _ ∧ _); refine ⟨LamAt.fnAt (LamAt.keeps (by assumption) (Fr.keep (by k_asm))), ?_⟩; try dsimp only [List.nil_append, List.cons_append]))
local macro_rules | `(tactic| walk_at "subscriptTail Name Name ref int") => `(tactic| (k_dflt (refine' list_item ?l ?F ?i ?k ?x ?_ ?hs; (case l => assumption); (case F => k_asm); (case x => assumption); (case i => assumption); (case k => rw [refs_len]; omega); (case hs => with_unfolding_all rfl))))
local macro_rules | `(tactic| walk_at "compareOp Lt str str") => `(tactic| (with_reducible refine' lt_is ?x ?_; (case x => assumption)))
local macro_rules | `(tactic| walk_at "BisPost brk") => `(tactic| (dsimp only [BisPost]))
local macro_rules | `(tactic| walk_at "call ref") => `(tactic| (k_dflt (refine' lam_call ?F ?T ?f ?tup ?v ?room ?_; (case F => k_asm); (case T => k_asm); (case f => exact LamAt.keeps (by assumption) (Fr.keep (by k_asm))); (case tup => exact IsTup.keeps (by assumption) (Fr.keep (by k_asm))); (case v => assumption); (case room => ktr_room)); intro h' tk' F' K'; have N' := nilOf F'; clear K'))
theorem bis_next {m m₂ : Str → Option Value} {p : Nat → Bool} {h₀ : Heap} {L : Addr} {s : Shared} {lo hi : Nat} {Q : Flow → Shared → Prop} {h' : Heap} {tk : Nat} {ilo ihi : Int} {tl' th' : Tok}
    (F : Fr h₀ L h' m₂) (hlt : lo < hi) (h1 : m₂ (Str.ofString "lo") = some (.int ilo tl')) (h2 : m₂ (Str.ofString "hi") = some (.int ihi th')) (h3 : ∀ z, other z → m₂ z = m z)
    (hc : (p ((lo + hi) / 2) = true ∧ ilo = (((lo + hi) / 2 + 1 : Nat) : Int) ∧ ihi = ((hi : Nat) : Int)) ∨ (p ((lo + hi) / 2) = false ∧ ilo = ((lo : Nat) : Int) ∧ ihi = (((lo + hi) / 2 : Nat) : Int))) :
    BisPost p h₀ L s m lo hi Q .next { s with heap := h', toks := tk } := ⟨h', tk, m₂, ilo, ihi, tl', th', rfl, F, hlt, h1, h2, h3, hc⟩
local macro_rules | `(tactic| walk_at "BisPost next") => `(tactic| (refine' bis_next ?F ?lt ?h1 ?h2 ?h3 ?hc; (case F => k_asm); (case lt => assumption); (case h1 => with_unfolding_all rfl); (case h2 => with_unfolding_all rfl); (case h3 => (intro z hz; obtain ⟨z1, z2, z3⟩ := hz; simp only [bvars, if_neg z1, if_neg z2, if_neg z3])); (case hc => first | exact .inl ⟨by assumption, by rw [mid_eq]; omega, rfl⟩ | exact .inr ⟨by assumption, rfl, by rw [mid_eq]⟩)))
theorem pL_cases {es : Ents} {x : Str} (_h : PMark (pL es x)) (k : Nat) : (pL es x k = true ∧ decide ((keyAt es k).cps.toList < x.cps.toList) = true) ∨ (pL es x k = false ∧ decide ((keyAt es k).cps.toList < x.cps.toList) = false) := by
  cases h : pL es x k
  · exact .inr ⟨rfl, h⟩
  · exact .inl ⟨rfl, h⟩
theorem bis_facts {h : Heap} {es : Ents} {lo hi : Nat} (H : EntsAt h es) (hlt : lo < hi) (hhi : hi ≤ (refs es).length) :
    Int.fdiv ((lo : Int) + (hi : Int)) 2 = (((lo + hi) / 2 : Nat) : Int) ∧ (refs es)[(lo + hi) / 2]? = some (.ref (addrAt es ((lo + hi) / 2))) ∧ ∃ (items : List Value) (t : Tok), IsTup h (addrAt es ((lo + hi) / 2)) items.toArray ∧ items[0]? = some (.str (keyAt es ((lo + hi) / 2)) t) := by
  rw [refs_len] at hhi
  exact ⟨mid_eq lo hi, addrAt_get (by omega), ent_at H (by omega)⟩
local macro_rules | `(tactic| walk_at "exec While Compare cons nil") => `(tactic| (with_unfolding_all refine' bis_while ?p ?F ?h1 ?h2 ?_ ?hE; (case p => assumption); (case F => k_asm); (case h1 => with_unfolding_all rfl); (case h2 => with_unfolding_all rfl); (case hE => passes_own); intro mm h₁ tk₁ lo hi tl th F' hlh hhn hstop; have N' := nilOf F'; (try k_sweep); rcases Nat.lt_or_ge lo hi with hlt | hge; (obtain ⟨f1, f2, items, t, f3, f4⟩ := bis_facts (by assumption) hlt hhn); (rcases pL_cases (by assumption) ((lo + hi) / 2) with ⟨hp, hq⟩ | ⟨hp, hq⟩)))
theorem bisL_of {es : Ents} {x : Str} {lo hi : Nat} (h : ¬ lo < hi → lo = bisF (pL es x) ((refs es).length + 1) 0 (refs es).length) (hge : lo ≥ hi) : lo = bisL es x := by
  rw [h (by omega), bisL, refs_len]
theorem bis_ret {h₀ h' : Heap} {L : Addr} {m : Str → Option Value} {s : Shared} {Q : Value → Shared → Prop} {k lo : Nat} {tl : Tok} {tk' : Nat}
    (hret : ∀ t h' tk', Fr h₀ L h' m → Kept s.heap h' → Q (.int (k : Nat) t) { s with heap := h', toks := tk' })
    (F : Fr h₀ L h' m) (hk : ∀ b o, s.heap.get? b = some o → b ∉ ([] : List (Addr × Obj)).map (·.1) → h'.get? b = some o) (e : lo = k) : Q (.int (lo : Nat) tl) { s with heap := h', toks := tk' } := by
  subst e
  exact hret tl h' tk' F fun b o e => hk b o e List.not_mem_nil
theorem bis_left1 {w p loose mean mg mb} : BisTells w p loose mean mg mb 58 (fun l x _ => [l, x]) bisL := by
  unfold BisTells
  w_top off
  k_fill
  intro dp un gd cn cs a ccd cl outer A₀ base h₀ L m s sh f es x tk tl Q E B F X T hk hsh hes hlam hn hd hu hret
  refine wpAny_call ?_
  k_dflt (refine' enterG [(Str.ofString "a", Value.ref sh), (Str.ofString "x", Value.str x tk), (Str.ofString "lo", Value.int 0 311), (Str.ofString "hi", Value.none), (Str.ofString "key", Value.ref f)] ?k1 ?k2 ?k3 (News.nil) ?k5 ?kA ?kF ?kK ?k6 ?k7 ?k8 ?k9 ?kB ?_ ?c2 ?c3 ?c4 ?c5; (case kA => exact rfl); (case kF => exact rfl); (case kK => assumption); (case k1 => k_asm); (case k2 => k_asm); (case k3 => k_asm); (case k5 => k_asm); (case k6 => k_is); (case k7 => k_is); (case k8 => ktr_room); (case k9 => (refine' kp_binds ?kx ?ke; (case kx => k_in); (case ke => exact fun _ => rfl))); (case c5 => decide); (case kB => exact locs rfl); (case c2 => exact rfl); (case c3 => exact rfl); (case c4 => exact rfl); k_whole; intro g' L' h' FG' F' N' B' X' T' hlt hall; (try dsimp only); (try k_lift B'); (try k_fold))
  have hall' : Kept s.heap g' := fun b o e => hall b o e (List.not_mem_nil)
  replace hsh : g'.IsList sh (refs es).toArray := hsh.at fun o e => hall' _ o e
  replace hes := hes.keeps hall'
  replace hlam := hlam.keeps hall'
  clear hall hlt
  have hmk : PMark (pL es x) := True.intro
  k_steps
  all_goals (refine' bis_ret hret ?F ?k ?e; (case F => k_asm); (case k => assumption); (case e => exact bisL_of (by assumption) (by assumption)))
theorem bis_left2 {w p loose mean mg mb} : BisTells w p loose mean mg mb 58 (fun l x t => [l, x, .int 0 t, .none]) bisL := by
  unfold BisTells
  w_top off
  k_fill
  intro dp un gd cn cs a ccd cl outer A₀ base h₀ L m s sh f es x tk tl Q E B F X T hk hsh hes hlam hn hd hu hret
  refine wpAny_call ?_
  k_dflt (refine' enterG [(Str.ofString "a", Value.ref sh), (Str.ofString "x", Value.str x tk), (Str.ofString "lo", Value.int 0 tl), (Str.ofString "hi", Value.none), (Str.ofString "key", Value.ref f)] ?k1 ?k2 ?k3 (News.nil) ?k5 ?kA ?kF ?kK ?k6 ?k7 ?k8 ?k9 ?kB ?_ ?c2 ?c3 ?c4 ?c5; (case kA => exact rfl); (case kF => exact rfl); (case kK => assumption); (case k1 => k_asm); (case k2 => k_asm); (case k3 => k_asm); (case k5 => k_asm); (case k6 => k_is); (case k7 => k_is); (case k8 => ktr_room); (case k9 => (refine' kp_binds ?kx ?ke; (case kx => k_in); (case ke => exact fun _ => rfl))); (case c5 => decide); (case kB => exact locs rfl); (case c2 => exact rfl); (case c3 => exact rfl); (case c4 => exact rfl); k_whole; intro g' L' h' FG' F' N' B' X' T' hlt hall; (try dsimp only); (try k_lift B'); (try k_fold))
  have hall' : Kept s.heap g' := fun b o e => hall b o e (List.not_mem_nil)
  replace hsh : g'.IsList sh (refs es).toArray := hsh.at fun o e => hall' _ o e
  replace hes := hes.keeps hall'
  replace hlam := hlam.keeps hall'
  clear hall hlt
  have hmk : PMark (pL es x) := True.intro
  k_steps
  all_goals (refine' bis_ret hret ?F ?k ?e; (case F => k_asm); (case k => assumption); (case e => exact bisL_of (by assumption) (by assumption)))
theorem pR_cases {es : Ents} {x : Str} (_h : PMark (pR es x)) (k : Nat) : (pR es x k = true ∧ decide (x.cps.toList < (keyAt es k).cps.toList) = false) ∨ (pR es x k = false ∧ decide (x.cps.toList < (keyAt es k).cps.toList) = true) := by
  unfold pR
  cases decide (x.cps.toList < (keyAt es k).cps.toList)
  · exact .inl ⟨rfl, rfl⟩
  · exact .inr ⟨rfl, rfl⟩
theorem bisR_of {es : Ents} {x : Str} {lo hi : Nat} (h : ¬ lo < hi → lo = bisF (pR es x) ((refs es).length + 1) 0 (refs es).length) (hge : lo ≥ hi) : lo = bisR es x := by
  rw [h (by omega), bisR, refs_len]
local macro_rules | `(tactic| walk_at "exec While Compare cons nil") => `(tactic| (with_unfolding_all refine' bis_while ?p ?F ?h1 ?h2 ?_ ?hE; (case p => assumption); (case F => k_asm); (case h1 => with_unfolding_all rfl); (case h2 => with_unfolding_all rfl); (case hE => passes_own); intro mm h₁ tk₁ lo hi tl th F' hlh hhn hstop; have N' := nilOf F'; (try k_sweep); rcases Nat.lt_or_ge lo hi with hlt | hge; (obtain ⟨f1, f2, items, t, f3, f4⟩ := bis_facts (by assumption) hlt hhn); (rcases pR_cases (by assumption) ((lo + hi) / 2) with ⟨hp, hq⟩ | ⟨hp, hq⟩)))
theorem bis_right1 {w p loose mean mg mb} : BisTells w p loose mean mg mb 40 (fun l x _ => [l, x]) bisR := by
  unfold BisTells
  w_top off
  k_fill
  intro dp un gd cn cs a ccd cl outer A₀ base h₀ L m s sh f es x tk tl Q E B F X T hk hsh hes hlam hn hd hu hret
  refine wpAny_call ?_
  k_dflt (refine' enterG [(Str.ofString "a", Value.ref sh), (Str.ofString "x", Value.str x tk), (Str.ofString "lo", Value.int 0 284), (Str.ofString "hi", Value.none), (Str.ofString "key", Value.ref f)] ?k1 ?k2 ?k3 (News.nil) ?k5 ?kA ?kF ?kK ?k6 ?k7 ?k8 ?k9 ?kB ?_ ?c2 ?c3 ?c4 ?c5; (case kA => exact rfl); (case kF => exact rfl); (case kK => assumption); (case k1 => k_asm); (case k2 => k_asm); (case k3 => k_asm); (case k5 => k_asm); (case k6 => k_is); (case k7 => k_is); (case k8 => ktr_room); (case k9 => (refine' kp_binds ?kx ?ke; (case kx => k_in); (case ke => exact fun _ => rfl))); (case c5 => decide); (case kB => exact locs rfl); (case c2 => exact rfl); (case c3 => exact rfl); (case c4 => exact rfl); k_whole; intro g' L' h' FG' F' N' B' X' T' hlt hall; (try dsimp only); (try k_lift B'); (try k_fold))
  have hall' : Kept s.heap g' := fun b o e => hall b o e (List.not_mem_nil)
  replace hsh : g'.IsList sh (refs es).toArray := hsh.at fun o e => hall' _ o e
  replace hes := hes.keeps hall'
  replace hlam := hlam.keeps hall'
  clear hall hlt
  have hmk : PMark (pR es x) := True.intro
  k_steps
  all_goals (refine' bis_ret hret ?F ?k ?e; (case F => k_asm); (case k => assumption); (case e => exact bisR_of (by assumption) (by assumption)))
end Mine
end
section -- C7
open PySem PySem.W PyProof.Rows PySem.Spec PySem.Calls
set_option maxRecDepth 100000
set_option maxHeartbeats 2000000
namespace Mine
def insE (es : Ents) (k : Nat) (e : Addr × Str) : Ents := es.take k ++ e :: es.drop k
theorem ins_refs {es : Ents} {k : Nat} {T : Addr} {x : Str} {items : List Value} {t : Tok} (_h0 : items[0]? = some (.str x t)) (hk : k ≤ es.length) : kl_ins (refs es).toArray.toList (k : Int) (.ref T) = refs (insE es k (T, x)) := by
  unfold kl_ins
  have e : (if (k : Int) < 0 then ((k : Int) + ((refs es).toArray.toList.length : Nat)).toNat else min (k : Int).toNat (refs es).toArray.toList.length) = k := by
    rw [if_neg (by omega)]
    simp [refs_len]; omega
  rw [e]
  simp [refs, insE]
theorem bisL_le (es : Ents) (x : Str) : bisL es x ≤ es.length := bisF_le _ _ _ _ (Nat.zero_le _) (Nat.le_refl _)
theorem bis_fits {es : Ents} (x : Str) (h : es.length ≤ 1000) : Builtin.List.listFitsIndex ((bisL es x : Nat) : Int) = true := by
  have := bisL_le es x
  unfold Builtin.List.listFitsIndex
  simp
  omega
theorem news_kept {h₀ h h' : Heap} {L : Addr} {news : List (Addr × Obj)} (N : News h₀ L h news) (k : Kept h h') : News h₀ L h' news := fun p hp => ⟨k _ _ (N p hp).1, (N p hp).2⟩
section
variable {w : World} {p : Program} {loose : List Str} {mean : ExcName → Option Value} {mg mb : Str → Option Value} {dp un : Nat} {gd : Option (List Code)} {cn : Str} {cs : Scope} {a : Addr} {ccd : Value} {cl : List (Str × Addr)} {outer : List Env} {A A₀ : Around} {base h₀ : Heap} {L : Addr} {m : Str → Option Value} {news : List (Addr × Obj)} {s : Shared} {sh f T : Addr} {es : Ents} {x : Str} {tk tl : Tok} {c : Nat} {items : List Value} {v : Value} {Q E : Value → Shared → Prop} {prog : Program}
theorem lam_use (F : Fr h₀ L s.heap m) (N : News h₀ L s.heap news) (Tp : Top p loose mean mg mb h₀) (hf : LamAt s.heap f) (hT : IsTup s.heap T items.toArray) (h0 : items[0]? = some v) (hroom : A.depth < recursionLimit)
    (h : ∀ h' tk', Fr h₀ L h' m → News h₀ L h' news → Q v { s with heap := h', toks := tk' }) :
    wpAny (model prog w) A (call (.ref f) [.ref T]) Q E s := lam_call F Tp hf hT h0 hroom fun h' tk' F' K' => h h' tk' F' (news_kept N K')
theorem bis_use {fa : Addr} {args : Value → Value → Tok → List Value} {res : Ents → Str → Nat} (C : BisTells w p loose mean mg mb fa args res) (B : Below A₀ base outer h₀) (F : Fr h₀ L s.heap m) (X : (hd.heap_39 w.params).In h₀) (N : News h₀ L s.heap news) (Tp : Top p loose mean mg mb h₀) (hk : cs.kind = .function)
    (hsh : (sh, listOf (refs es).toArray c) ∈ news) (hes : EntsAt s.heap es) (hf : LamAt s.heap f) (hn : es.length ≤ 1000) (hd : dp + 2 < recursionLimit) (hu : un + 16 < cLine)
    (h : ∀ t h' tk', Fr h₀ L h' m → News h₀ L h' news → Q (.int (res es x : Nat) t) { s with heap := h', toks := tk' }) :
    wpAny (model PySem.Challenge.rw_sr0020_01.row.prog w) (ktrTop dp un gd cn cs L a ccd cl outer) (call (.ref fa) (args (.ref sh) (.str x tk) tl) [(Str.ofString "key", .ref f)]) Q E s :=
  C _ _ _ _ _ _ _ _ _ _ _ _ _ _ _ _ _ _ _ _ _ _ _ B F X Tp hk ⟨_, (N _ hsh).1, rfl, _, rfl⟩ hes hf hn hd hu fun t h' tk' F' K' => h t h' tk' F' (news_kept N K')
end
def InsTells (w : World) (p : Program) (loose : List Str) (mean : ExcName → Option Value) (mg mb : Str → Option Value) : Prop :=
  ∀ (dp un : Nat) (gd : Option (List Code)) (cn : Str) (cs : Scope) (a : Addr) (ccd : Value) (cl : List (Str × Addr)) (outer : List Env) (A₀ : Around) (base h₀ : Heap) (L : Addr) (m : Str → Option Value) (s : Shared) (sh f T : Addr) (es : Ents) (x : Str) (c : Nat) (items : List Value) (tx : Tok)
    (Q E : Value → Shared → Prop),
    Below A₀ base outer h₀ → Fr h₀ L s.heap m → (hd.heap_39 w.params).In h₀ → News h₀ L s.heap [(sh, listOf (refs es).toArray c)] → Top p loose mean mg mb h₀ → cs.kind = .function → EntsAt s.heap es → LamAt s.heap f → IsTup s.heap T items.toArray → items[0]? = some (.str x tx) → es.length ≤ 1000 → dp + 3 < recursionLimit → un + 24 < cLine →
    (∀ h' tk', Fr h₀ L h' m → News h₀ L h' [(sh, listOf (refs (insE es (bisL es x) (T, x))).toArray (c + 1))] → (∀ b o, s.heap.get? b = some o → b ≠ sh → h'.get? b = some o) → Q .none { s with heap := h', toks := tk' }) →
    wpAny (model PySem.Challenge.rw_sr0020_01.row.prog w) (ktrTop dp un gd cn cs L a ccd cl outer) (call (.ref 49) [.ref sh, .ref T] [(Str.ofString "key", .ref f)]) Q E s
theorem tup_but {h g : Heap} {T sh : Addr} {items : Array Value} {its : Array Value} {c : Nat} (x : IsTup h T items) (hs : h.get? sh = some (listOf its c)) (k : ∀ b o, h.get? b = some o → b ∉ [(sh, listOf its c)].map (·.1) → g.get? b = some o) : IsTup g T items := by
  obtain ⟨o, ho, hc, n, hd⟩ := x
  refine ⟨o, k _ _ ho fun hm => ?_, hc, n, hd⟩
  have e : T = sh := by simpa using hm
  rw [e, hs] at ho
  cases ho
  injection hc with hc
  exact absurd hc (by decide)
theorem ents_but {h g : Heap} {es : Ents} {sh : Addr} {its : Array Value} {c : Nat} (x : EntsAt h es) (hs : h.get? sh = some (listOf its c)) (k : ∀ b o, h.get? b = some o → b ∉ [(sh, listOf its c)].map (·.1) → g.get? b = some o) : EntsAt g es := fun e he =>
  let ⟨items, t, a, b⟩ := x e he; ⟨items, t, tup_but a hs k, b⟩
theorem lam_but {h g : Heap} {f sh : Addr} {its : Array Value} {c : Nat} (x : LamAt h f) (hs : h.get? sh = some (listOf its c)) (k : ∀ b o, h.get? b = some o → b ∉ [(sh, listOf its c)].map (·.1) → g.get? b = some o) : LamAt g f := by
  obtain ⟨qual, p1, p2, p3, p4, pm, c', ctv, oc, vs, t, e1, e2, e3, e4⟩ := x
  refine ⟨qual, p1, p2, p3, p4, pm, c', ctv, oc, vs, t, k _ _ e1 fun hm => ?_, k _ _ e2 fun hm => ?_, e3, e4⟩
  · have e : f = sh := by simpa using hm
    rw [e, hs] at e1
    injection e1 with e1
    have q := congrArg Obj.cls e1
    injection q with q
    exact absurd q (by decide)
  · have e : c' = sh := by simpa using hm
    rw [e, hs] at e2
    cases e2
    cases e3
local macro_rules | `(tactic| walk_at "callWith ref") => `(tactic| (k_dflt (refine' callWith_F ?k1 ?_; (case k1 => exact LamAt.fnAt (LamAt.keeps (by assumption) (Fr.keep (by k_asm)))))))
local macro_rules | `(tactic| walk_at "And") => `(tactic| ((with_reducible show FnAt _ _ ∧ _); refine ⟨LamAt.fnAt (LamAt.keeps (by assumption) (Fr.keep (by k_asm))), ?_⟩; try dsimp only [List.nil_append, List.cons_append]))
local macro_rules | `(tactic| walk_at "call ref") => `(tactic| (k_dflt (refine' lam_use ?F ?N ?T ?f ?tup ?v ?room ?_; (case F => k_asm); (case N => k_asm); (case T => k_asm); (case f => exact LamAt.keeps (by assumption) (Fr.keep (by k_asm))); (case tup => exact IsTup.keeps (by assumption) (Fr.keep (by k_asm))); (case v => assumption); (case room => ktr_room)); intro h' tk' F' N'; (try k_sweep)))
local macro_rules | `(tactic| walk_at "call ref") => `(tactic| (k_dflt (refine' bis_use bis_left2 ?k1 ?F ?X ?N ?T ?kK ?m ?es ?f ?n ?kd ?ku ?_; (case k1 => k_asm); (case F => k_asm); (case X => k_asm); (case N => k_asm); (case T => k_asm); (case kK => first | exact rfl | assumption); (case m => exact .head _); (case es => exact EntsAt.keeps (by assumption) (Fr.keep (by k_asm))); (case f => exact LamAt.keeps (by assumption) (Fr.keep (by k_asm))); (case n => assumption); (case kd => ktr_room); (case ku => ktr_units)); intro t' h' tk' F' N'; (try k_sweep)))
local macro_rules | `(tactic| walk_at "call builtin:list.insert") => `(tactic| (k_dflt (refine' kl_insert ?F ?N ?f ?e ?U ?z ?_; (case F => k_asm); (case N => k_asm); (case U => exact Upd.head (fun _ h => nomatch h)); (case e => exact ins_refs (by assumption) (bisL_le _ _)); (case f => exact bis_fits _ (by assumption)); (case z => (simp only [refs_len, sizeLine_eq]; omega))); intro h' F' N'; (try k_sweep)))
theorem ins_tells {w p loose mean mg mb} : InsTells w p loose mean mg mb := by
  unfold InsTells
  w_top off
  k_fill
  intro dp un gd cn cs a ccd cl outer A₀ base h₀ L m s sh f T es x c items tx Q E B F X N Tp hk hes hlam hT h0 hn hd hu hret
  refine wpAny_call ?_
  k_dflt (refine' enterG [(Str.ofString "a", Value.ref sh), (Str.ofString "x", Value.ref T), (Str.ofString "lo", Value.int 0 298), (Str.ofString "hi", Value.none), (Str.ofString "key", Value.ref f)] ?k1 ?k2 ?k3 N ?k5 ?kA ?kF ?kK ?k6 ?k7 ?k8 ?k9 ?kB ?_ ?c2 ?c3 ?c4 ?c5; (case kA => exact rfl); (case kF => exact rfl); (case kK => assumption); (case k1 => k_asm); (case k2 => k_asm); (case k3 => k_asm); (case k5 => k_asm); (case k6 => k_is); (case k7 => k_is); (case k8 => ktr_room); (case k9 => (refine' kp_binds ?kx ?ke; (case kx => k_in); (case ke => exact fun _ => rfl))); (case c5 => decide); (case kB => exact locs rfl); (case c2 => exact rfl); (case c3 => exact rfl); (case c4 => exact rfl); k_whole; intro g' L' h' FG' F' N' B' X' T' hlt hall; (try dsimp only); (try k_lift B'); (try k_fold))
  have hsh := (N _ (.head _)).1
  replace hes := ents_but hes hsh hall
  replace hlam := lam_but hlam hsh hall
  replace hT := tup_but hT hsh hall
  clear hall hlt
  k_steps
  all_goals (refine' hret _ _ ?F ?N ?k; (case F => k_asm); (case N => k_asm); (case k => (rename (∀ b o, _ → b ∉ _ → _) => hk9; intro b o e1 e2; exact hk9 b o e1 (by simpa using e2))))
end Mine
end
section -- C8
open PySem PySem.W PyProof.Rows PySem.Spec PySem.Calls
set_option maxRecDepth 100000
set_option maxHeartbeats 2000000
namespace Mine
def words : List Str := [Str.ofString "eee", Str.ofString "eeo", Str.ofString "eoe", Str.ofString "eoo", Str.ofString "oee", Str.ofString "oeo", Str.ofString "ooe", Str.ofString "ooo"]
def wtF (x : Str) (i : Int) : Int := (List.range 3).foldl (fun acc pl => if x.cps.getD pl 0 = 111 then acc + 2 ^ pl * i ^ ((x.cps.toList.drop (pl + 1)).count 111) else acc) 0
def WeightTells (w : World) (p : Program) (loose : List Str) (mean : ExcName → Option Value) (mg mb : Str → Option Value) : Prop :=
  ∀ (dp un : Nat) (gd : Option (List Code)) (cn : Str) (cs : Scope) (a : Addr) (ccd : Value) (cl : List (Str × Addr)) (outer : List Env) (A₀ : Around) (base h₀ : Heap) (L : Addr) (m : Str → Option Value) (news : List (Addr × Obj)) (s : Shared) (x : Str) (i : Int) (tk ti : Tok)
    (Q E : Value → Shared → Prop),
    Below A₀ base outer h₀ → Fr h₀ L s.heap m → (hd.heap_39 w.params).In h₀ → News h₀ L s.heap news → Top p loose mean mg mb h₀ → cs.kind = .function → x ∈ words → (i = 1 ∨ i = 3 ∨ i = 5) → dp + 1 < recursionLimit → un + 8 < cLine →
    (∀ t h' tk', Fr h₀ L h' m → News h₀ L h' news → Q (.int (wtF x i) t) { s with heap := h', toks := tk' }) →
    wpAny (model PySem.Challenge.rw_sr0020_01.row.prog w) (ktrTop dp un gd cn cs L a ccd cl outer) (call (.ref 128) [.str x tk, .int i ti]) Q E s
local macro_rules | `(tactic| walk_at "subscriptTail Name Name str int") => `(tactic| (k_dflt (first | (refine' item_is (y := Str.ofString "o") ?x ?_ ?hs ?ht; (case x => (unfold ItemIs; decide +kernel))) | (refine' item_is (y := Str.ofString "e") ?x ?_ ?hs ?ht; (case x => (unfold ItemIs; decide +kernel)))); (case hs => with_unfolding_all rfl); (case ht => intro _; with_unfolding_all rfl)))
theorem weight_ret {h₀ h' : Heap} {L : Addr} {m : Str → Option Value} {news : List (Addr × Obj)} {s : Shared} {Q : Value → Shared → Prop} {x y : Int} {t : Tok} {tk' : Nat} (hret : ∀ (t : Tok) (h' : Heap) (tk' : Nat), Fr h₀ L h' m → News h₀ L h' news → Q (.int x t) { s with heap := h', toks := tk' })
    (F : Fr h₀ L h' m) (N : News h₀ L h' news) (e : y = x) : Q (.int y t) { s with heap := h', toks := tk' } := by
  subst e
  exact hret t h' tk' F N
theorem weight_tells {w p loose mean mg mb} : WeightTells w p loose mean mg mb := by
  unfold WeightTells
  w_top off
  k_fill
  intro dp un gd cn cs a ccd cl outer A₀ base h₀ L m news s x i tk ti Q E B F X N T hk hx hi hd hu hret
  refine wpAny_call ?_
  k_dflt (refine' enter0 [(Str.ofString "word", Value.str x tk), (Str.ofString "factor", Value.int i ti)] ?k1 ?k2 ?k3 ?k4 ?k5 ?kA ?kF ?kK ?k6 ?k7 ?k8 ?k9 ?kB ?_ ?c2 ?c3 ?c4 ?c5; (case kA => exact rfl); (case kF => exact rfl); (case kK => assumption); (case k1 => k_asm); (case k2 => k_asm); (case k3 => k_asm); (case k4 => k_asm); (case k5 => k_asm); (case k6 => k_is); (case k7 => k_is); (case k8 => ktr_room); (case k9 => exact BindsTo.of_eq rfl); (case c5 => decide); (case kB => exact locs rfl); (case c2 => exact rfl); (case c3 => exact rfl); (case c4 => exact rfl); k_whole; intro g' L' h' FG' F' N' B' X' T' hLn; (try dsimp only); (try k_lift B'); (try k_fold))
  simp only [words, List.mem_cons, List.not_mem_nil, or_false] at hx
  rcases hx with rfl | rfl | rfl | rfl | rfl | rfl | rfl | rfl
  all_goals k_steps
  all_goals (rename News _ _ _ _ => kM'; refine' weight_ret hret ?F kM' ?e; (case F => k_asm); (case e => (rcases hi with rfl | rfl | rfl <;> decide +kernel)))
end Mine
end
section -- P1
open PySem PySem.W PyProof.Rows PySem.Spec PySem.Calls
set_option maxRecDepth 100000
set_option maxHeartbeats 2000000
namespace Mine
def wKey (ws : List Str) (i : Nat) : Str := ws.getD i Str.empty
def bisWL (ws : List Str) (x : Str) : Nat := bisF (fun i => decide ((wKey ws i).cps.toList < x.cps.toList)) (ws.length + 1) 0 ws.length
def bisWR (ws : List Str) (x : Str) : Nat := bisF (fun i => !decide (x.cps.toList < (wKey ws i).cps.toList)) (ws.length + 1) 0 ws.length
theorem keyAt_map (es : Ents) (i : Nat) : keyAt es i = wKey (es.map (·.2)) i := by
  unfold keyAt wKey
  rw [List.getD_eq_getElem?_getD, List.getD_eq_getElem?_getD, List.getElem?_map]
  cases es[i]? <;> rfl
theorem bisL_map (es : Ents) (x : Str) : bisL es x = bisWL (es.map (·.2)) x := by
  unfold bisL bisWL
  have e : pL es x = fun i => decide ((wKey (es.map (·.2)) i).cps.toList < x.cps.toList) := by
    funext i; unfold pL; rw [keyAt_map]
  rw [e, List.length_map]
theorem bisR_map (es : Ents) (x : Str) : bisR es x = bisWR (es.map (·.2)) x := by
  unfold bisR bisWR
  have e : pR es x = fun i => !decide (x.cps.toList < (wKey (es.map (·.2)) i).cps.toList) := by
    funext i; unfold pR; rw [keyAt_map]
  rw [e, List.length_map]
def insW (ws : List Str) (x : Str) : List Str := ws.take (bisWL ws x) ++ x :: ws.drop (bisWL ws x)
theorem insE_map (es : Ents) (T : Addr) (x : Str) : (insE es (bisL es x) (T, x)).map (·.2) = insW (es.map (·.2)) x := by
  unfold insE insW
  rw [bisL_map]
  simp [List.map_take, List.map_drop]
def wordsN (a b : Nat) : Nat → List Str
  | 0 => []
  | i + 1 => insW (wordsN a b i) (wordN i a b)
def Four (i j : Int) : Prop := (i = 3 ∧ j = 1) ∨ (i = 3 ∧ j = 5) ∨ (i = 5 ∧ j = 1) ∨ (i = 1 ∧ j = 3)
theorem Four.i {i j : Int} (h : Four i j) : i = 1 ∨ i = 3 ∨ i = 5 := by unfold Four at h; omega
theorem Four.j {i j : Int} (h : Four i j) : j = 1 ∨ j = 3 ∨ j = 5 := by unfold Four at h; omega
theorem words_sorted {i j : Int} (h : Four i j) : wordsN i.toNat j.toNat 8 = words := by
  rcases h with ⟨rfl, rfl⟩ | ⟨rfl, rfl⟩ | ⟨rfl, rfl⟩ | ⟨rfl, rfl⟩ <;> decide +kernel
def cntO (x : Str) : Nat := x.cps.toList.count 111
theorem all_below {P : Nat → Prop} [DecidablePred P] {k : Nat} (h : (List.range k).all (fun n => decide (P n)) = true) : ∀ n < k, P n := fun n hn => by
  have := List.all_eq_true.mp h n (List.mem_range.mpr hn)
  exact of_decide_eq_true this
theorem word_mem {i j : Int} (h : Four i j) : ∀ n < 8, wordN n i.toNat j.toNat ∈ words := by
  rcases h with ⟨rfl, rfl⟩ | ⟨rfl, rfl⟩ | ⟨rfl, rfl⟩ | ⟨rfl, rfl⟩ <;> exact all_below (by decide +kernel)
theorem word_mod {i j : Int} (h : Four i j) : ∀ n < 48, wordN n i.toNat j.toNat = wordN (n % 8) i.toNat j.toNat := by
  rcases h with ⟨rfl, rfl⟩ | ⟨rfl, rfl⟩ | ⟨rfl, rfl⟩ | ⟨rfl, rfl⟩ <;> exact all_below (by decide +kernel)
theorem end_mod {i j : Int} (h : Four i j) : ∀ n < 48, endN n i.toNat j.toNat = endN (n % 8) i.toNat j.toNat + i.toNat ^ cntO (wordN n i.toNat j.toNat) * (n / 8) := by
  rcases h with ⟨rfl, rfl⟩ | ⟨rfl, rfl⟩ | ⟨rfl, rfl⟩ | ⟨rfl, rfl⟩ <;> exact all_below (by decide +kernel)
theorem row_number {i j : Int} (h : Four i j) : ∀ n : Nat, n < 8 → (n : Int) = ((-(j * wtF (wordN n i.toNat j.toNat) i)) * i ^ cntO (wordN n i.toNat j.toNat)).fmod 8 := by
  rcases h with ⟨rfl, rfl⟩ | ⟨rfl, rfl⟩ | ⟨rfl, rfl⟩ | ⟨rfl, rfl⟩ <;> exact all_below (by decide +kernel)
theorem row_end {i j : Int} (h : Four i j) : ∀ n : Nat, n < 8 → (endN n i.toNat j.toNat : Int) = ((i ^ cntO (wordN n i.toNat j.toNat)) * n + j * wtF (wordN n i.toNat j.toNat) i).fdiv 8 := by
  rcases h with ⟨rfl, rfl⟩ | ⟨rfl, rfl⟩ | ⟨rfl, rfl⟩ | ⟨rfl, rfl⟩ <;> exact all_below (by decide +kernel)
theorem word_find : ∀ x ∈ words, bisWR words x = bisWL words x + 1 ∧ bisWL words x < 8 ∧ wKey words (bisWL words x) = x := by decide +kernel
theorem word_inj {i j : Int} (h : Four i j) : ∀ n < 8, ∀ k < 8, wordN n i.toNat j.toNat = wordN k i.toNat j.toNat → n = k := by
  rcases h with ⟨rfl, rfl⟩ | ⟨rfl, rfl⟩ | ⟨rfl, rfl⟩ | ⟨rfl, rfl⟩ <;> exact all_below (by decide +kernel)
end Mine
end
section -- C9
open PySem PySem.W PyProof.Rows PySem.Spec PySem.Calls
set_option maxRecDepth 100000
set_option maxHeartbeats 2000000
namespace Mine
inductive TailM (P : Addr) (rest : List (Addr × Obj)) : List (Addr × Obj) → (List (Addr × Obj) → List (Addr × Obj)) → Prop
  | nil : TailM P rest rest (fun r => r)
  | cons {x l g} : x.1 ≠ P → TailM P rest l g → TailM P rest (x :: l) (fun r => x :: g r)
inductive Shp (P : Addr) (o : Obj) (rest : List (Addr × Obj)) : List (Addr × Obj) → (Obj → List (Addr × Obj) → List (Addr × Obj)) → Prop
  | head {l g} : TailM P rest l g → Shp P o rest ((P, o) :: l) (fun o' r => (P, o') :: g r)
  | tail {x l g} : x.1 ≠ P → Shp P o rest l g → Shp P o rest (x :: l) (fun o' r => x :: g o' r)
theorem TailM.split {P : Addr} {rest l : List (Addr × Obj)} {g : List (Addr × Obj) → List (Addr × Obj)} (h : TailM P rest l g) : ∃ mid, l = mid ++ rest ∧ (∀ r, g r = mid ++ r) ∧ (∀ p ∈ mid, p.1 ≠ P) := by
  induction h with
  | nil => exact ⟨[], rfl, fun _ => rfl, fun _ h => nomatch h⟩
  | cons hx _ ih =>
    obtain ⟨mid, rfl, e, f⟩ := ih
    refine ⟨_ :: mid, rfl, fun r => congrArg (List.cons _) (e r), fun p hp => ?_⟩
    rcases List.mem_cons.mp hp with rfl | hp
    · exact hx
    · exact f p hp
theorem Shp.split {P : Addr} {o : Obj} {rest l : List (Addr × Obj)} {g : Obj → List (Addr × Obj) → List (Addr × Obj)} (h : Shp P o rest l g) : ∃ pre mid, l = pre ++ (P, o) :: (mid ++ rest) ∧ (∀ o' r, g o' r = pre ++ (P, o') :: (mid ++ r)) ∧ (∀ p ∈ pre, p.1 ≠ P) ∧ (∀ p ∈ mid, p.1 ≠ P) := by
  induction h with
  | head t =>
    obtain ⟨mid, rfl, e, f⟩ := t.split
    exact ⟨[], mid, rfl, fun o' r => congrArg (List.cons _) (e r), (fun _ h => nomatch h), f⟩
  | tail hx _ ih =>
    obtain ⟨pre, mid, rfl, e, f, f2⟩ := ih
    refine ⟨_ :: pre, mid, rfl, fun o' r => congrArg (List.cons _) (e o' r), fun p hp => ?_, f2⟩
    rcases List.mem_cons.mp hp with rfl | hp
    · exact hx
    · exact f p hp
theorem updF_of {P : Addr} {o : Obj} : ∀ {pre post : List (Addr × Obj)}, (∀ p ∈ pre, p.1 ≠ P) → (∀ p ∈ post, p.1 ≠ P) → UpdF P o (pre ++ (P, o) :: post) (fun o' => pre ++ (P, o') :: post)
  | [], _, _, h => .head h
  | _ :: _, _, h, h2 => .tail (h _ (.head _)) (updF_of (fun p hp => h p (.tail _ hp)) h2)
def CodeOk (qual : Str) (rest : List (Addr × Obj)) (v : Value) : Prop := ∃ c oc vs t, v = .ref c ∧ (c, oc) ∈ rest ∧ oc.data = .fields vs ∧ vs[1]? = some (.str qual t)
def TabOk (qual : Str) (ps : Array Value) (rest : List (Addr × Obj)) : Prop := TriplesOk ps.toList ∧ ∀ pos v, codeAmong pos ps.toList = some v → CodeOk qual rest v
theorem CodeOk.mono {qual : Str} {r r' : List (Addr × Obj)} {v : Value} (h : ∀ p ∈ r, p ∈ r') (x : CodeOk qual r v) : CodeOk qual r' v :=
  let ⟨c, oc, vs, t, a, b, d⟩ := x; ⟨c, oc, vs, t, a, h _ b, d⟩
theorem TabOk.mono {qual : Str} {ps : Array Value} {r r' : List (Addr × Obj)} (h : ∀ p ∈ r, p ∈ r') (x : TabOk qual ps r) : TabOk qual ps r' := ⟨x.1, fun pos v e => (x.2 pos v e).mono h⟩
theorem TabOk.nil {qual : Str} {r : List (Addr × Obj)} : TabOk qual #[] r := ⟨trivial, fun _ _ e => nomatch e⟩
theorem codeAmong_or {pos : Pos} {a b : Int} {c v : Value} (l : List Value) (h : TriplesOk l) (hn : codeAmong pos (l ++ [rawInt a, rawInt b, c]) = some v) : codeAmong pos l = some v ∨ v = c := by
  fun_induction TriplesOk l with
  | case1 =>
    simp only [List.nil_append, rawInt, codeAmong] at hn
    split at hn
    · exact .inr (Option.some.inj hn).symm
    · cases hn
  | case2 a' t b' u x rest ih =>
    simp only [List.cons_append, codeAmong] at hn ⊢
    split at hn
    · rename_i hc; rw [if_pos hc]; exact .inl hn
    · rename_i hc; rw [if_neg hc]; exact ih h hn
  | case3 l h1 h2 => exact h.elim
section
variable {prog : Program} {w : World} {M : Model} {A : Around} {E : Value → Shared → Prop} {s : Shared} {h₀ : Heap} {L a c P : Addr} {m mg mb : Str → Option Value} {cn : Str} {cs : Scope} {ccd : Value} {cl : List (Str × Addr)} {news rest : List (Addr × Obj)} {g : Obj → List (Addr × Obj) → List (Addr × Obj)}
  {p : Program} {loose : List Str} {mean : ExcName → Option Value} {qual : Str} {ps : Array Value} {pos : Pos} {firstLine : Nat} {p1 p2 p3 p4 : Pos}
theorem lam_make {Q : Value → Shared → Prop} (F : Fr h₀ L s.heap m) (N : News h₀ L s.heap news) (T : Top p loose mean mg mb h₀) (C : CodeHd h₀ c P) (hcd : ccd = .ref c) (U : Shp P (tabObj ps) rest news g) (hr : ∀ p ∈ rest, p.1 ≠ P) (hok : TabOk qual ps rest)
    (h : ∀ f ps' ex h' tk, Fr h₀ L h' m → News h₀ L h' (g (tabObj ps') (ex ++ rest)) → TabOk qual ps' (ex ++ rest) → LamAt h' f → (∀ q ∈ ex, ∀ p ∈ news, p.1 < q.1) → Q (.ref f) { s with heap := h', toks := tk }) :
    wpAny M A (makeFunction "<lambda>" qual (lamParams p1) (.expr (lamBody p2 p3 p4)) lamScope (envX cn cs L a ccd cl) [] [] [] pos firstLine) Q E s := by
  obtain ⟨pre, mid, rfl, hg, f1, f2⟩ := U.split
  have f3 : ∀ p ∈ mid ++ rest, p.1 ≠ P := fun p hp => (List.mem_append.mp hp).elim (f2 p) (hr p)
  cases hc : codeAmong pos ps.toList with
  | none =>
    refine kla_nest F N T C hcd (updF_of f1 f3) hok.1 hc (clos := []) rfl fun f c' oc vs t ctv h' tk F' N' e1 e2 l1 l2 => ?_
    refine h f (ps ++ #[rawInt pos.line, rawInt pos.col, .ref c']) [(c', oc)] h' tk F' (fun p hp => N' p ?_) ⟨?_, fun pos' v e => ?_⟩ (LamAt.of_news N' (.head _) (.tail _ (.head _)) e1 e2) ?_
    · rw [hg] at hp
      simp only [List.mem_append, List.mem_cons, List.cons_append, List.nil_append] at hp ⊢
      rcases hp with hp | hp | hp | hp | hp
      · exact .inr (.inr (.inl hp))
      · exact .inr (.inr (.inr (.inl hp)))
      · exact .inr (.inr (.inr (.inr (.inl hp))))
      · exact .inr (.inl hp)
      · exact .inr (.inr (.inr (.inr (.inr hp))))
    · rw [Array.toList_append]; exact TriplesOk_snoc _ _ _ _ hok.1
    · rw [Array.toList_append] at e
      rcases codeAmong_or _ hok.1 e with e | rfl
      · exact (hok.2 _ _ e).mono fun p hp => List.mem_append_right _ hp
      · exact ⟨c', oc, vs, t, rfl, .head _, e1, e2⟩
    · intro q hq p hp
      rw [List.mem_singleton.mp hq]
      exact l1 p hp
  | some v =>
    obtain ⟨c', oc, vs, t, rfl, e0, e1, e2⟩ := hok.2 _ _ hc
    refine kla_hit F N T C hcd (List.mem_append_right _ (.head _)) hok.1 hc (clos := []) rfl fun f ctv h' tk F' N' l1 => ?_
    refine h f ps [] h' tk F' (fun p hp => N' p ?_) hok (LamAt.of_news N' (.head _) (.tail _ (List.mem_append_right _ (.tail _ (List.mem_append_right _ e0)))) e1 e2) (fun _ h => nomatch h)
    rw [hg] at hp
    exact .tail _ hp
end
section
variable {w : World} {p : Program} {loose : List Str} {mean : ExcName → Option Value} {mg mb : Str → Option Value} {dp un : Nat} {gd : Option (List Code)} {cn : Str} {cs : Scope} {a : Addr} {ccd : Value} {cl : List (Str × Addr)} {outer : List Env} {A₀ : Around} {base h₀ : Heap} {L : Addr} {m : Str → Option Value} {news rest : List (Addr × Obj)} {s : Shared} {sh f T : Addr} {es : Ents} {x : Str} {c : Nat} {items : List Value} {tx : Tok} {Q E : Value → Shared → Prop} {g : Obj → List (Addr × Obj) → List (Addr × Obj)}
theorem ins_use (B : Below A₀ base outer h₀) (F : Fr h₀ L s.heap m) (X : (hd.heap_39 w.params).In h₀) (N : News h₀ L s.heap news) (Tp : Top p loose mean mg mb h₀) (hk : cs.kind = .function)
    (U : Shp sh (listOf (refs es).toArray c) rest news g) (hr : ∀ p ∈ rest, p.1 ≠ sh) (hes : EntsAt s.heap es) (hf : LamAt s.heap f) (hT : IsTup s.heap T items.toArray) (h0 : items[0]? = some (.str x tx)) (hn : es.length ≤ 1000) (hd : dp + 3 < recursionLimit) (hu : un + 24 < cLine)
    (h : ∀ h' tk', Fr h₀ L h' m → News h₀ L h' (g (listOf (refs (insE es (bisL es x) (T, x))).toArray (c + 1)) rest) → Q .none { s with heap := h', toks := tk' }) :
    wpAny (model PySem.Challenge.rw_sr0020_01.row.prog w) (ktrTop dp un gd cn cs L a ccd cl outer) (call (.ref 49) [.ref sh, .ref T] [(Str.ofString "key", .ref f)]) Q E s := by
  obtain ⟨pre, mid, rfl, hg, f1, f2⟩ := U.split
  refine ins_tells _ _ _ _ _ _ _ _ _ _ _ _ _ _ _ sh f T es x c items tx _ _ B F X (fun p hp => N p ?_) Tp hk hes hf hT h0 hn hd hu fun h' tk' F' N' K' => h h' tk' F' fun p hp => ?_
  · rw [List.mem_singleton.mp hp]
    exact List.mem_append_right _ (.head _)
  · rw [hg] at hp
    have old : ∀ p : Addr × Obj, p ∈ pre ++ (sh, listOf (refs es).toArray c) :: (mid ++ rest) → p.1 ≠ sh → h'.get? p.1 = some p.2 ∧ p.1 ≠ L ∧ h₀.get? p.1 = none := fun p hp hne => ⟨K' _ _ (N p hp).1 hne, (N p hp).2⟩
    rcases List.mem_append.mp hp with hp | hp
    · exact old p (List.mem_append_left _ hp) (f1 p hp)
    · rcases List.mem_cons.mp hp with rfl | hp
      · exact N' _ (.head _)
      · rcases List.mem_append.mp hp with hq | hq
        · exact old p (List.mem_append_right _ (.tail _ hp)) (f2 p hq)
        · exact old p (List.mem_append_right _ (.tail _ hp)) (hr p hq)
end
abbrev rowObj (x : Str) (n k : Nat) (t1 t2 t3 : Tok) : Obj := { cls := .type "tuple", data := .seq #[.str x t1, .int (0 + (n : Int)) t2, .str (dots k) t3] }
def RowIn (i j : Int) (rest : List (Addr × Obj)) (e : Addr × Str) : Prop := ∃ n t1 t2 t3, n < 8 ∧ e.2 = wordN n i.toNat j.toNat ∧ (e.1, rowObj e.2 n (endN n i.toNat j.toNat) t1 t2 t3) ∈ rest
theorem RowIn.mono {i j : Int} {r r' : List (Addr × Obj)} {e : Addr × Str} (h : ∀ p ∈ r, p ∈ r') (x : RowIn i j r e) : RowIn i j r' e :=
  let ⟨n, t1, t2, t3, a, b, c⟩ := x; ⟨n, t1, t2, t3, a, b, h _ c⟩
theorem ents_of {i j : Int} {h₀ h : Heap} {L : Addr} {news rest : List (Addr × Obj)} {es : Ents} (N : News h₀ L h news) (hsub : ∀ p ∈ rest, p ∈ news) (hes : ∀ e ∈ es, RowIn i j rest e) : EntsAt h es := fun e he => by
  obtain ⟨n, t1, t2, t3, a, b, c⟩ := hes e he
  exact ⟨[.str e.2 t1, .int (0 + (n : Int)) t2, .str (dots (endN n i.toNat j.toNat)) t3], t1, ⟨_, (N _ (hsub _ c)).1, rfl, _, rfl⟩, rfl⟩
def lvars (m mm : Str → Option Value) : Str → Option Value := fun y =>
  if y = Str.ofString "row" then mm y else if y = Str.ofString "word" then mm y else if y = Str.ofString "count" then mm y else m y
def ShF (i j : Int) (qual : Str) (sh : Addr) (dr : Addr × Obj) (k : Nat) (ps : Array Value) (es : Ents) (rest : List (Addr × Obj)) : Prop :=
  TabOk qual ps rest ∧ (∀ e ∈ es, RowIn i j rest e) ∧ es.map (·.2) = wordsN i.toNat j.toNat k ∧ (∀ p ∈ rest, p.1 ≠ 130) ∧ (∀ p ∈ rest, p.1 ≠ sh) ∧ dr ∈ rest
def ShInv (i j : Int) (qual : Str) (sh : Addr) (dr : Addr × Obj) (I : Addr) (m₀ : Str → Option Value) (k : Nat) (m : Str → Option Value) (news : List (Addr × Obj)) : Prop :=
  ∃ ps es rest, news = (130, tabObj ps) :: (sh, listOf (refs es).toArray k) :: rest ∧ ShF i j qual sh dr k ps es rest ∧ (∀ p ∈ rest, p.1 ≠ I) ∧ m = lvars m₀ m
theorem lvars_eq {m₀ m : Str → Option Value} (h : ∀ z, z ≠ Str.ofString "row" → z ≠ Str.ofString "word" → z ≠ Str.ofString "count" → m z = m₀ z) : m = lvars m₀ m := by
  funext y
  unfold lvars
  split
  · rfl
  split
  · rfl
  split
  · rfl
  rename_i a b c
  exact h y a b c
section
variable {prog : Program} {w : World} {A : Around} {E : Value → Shared → Prop} {s : Shared} {env : Env} {h₀ : Heap} {x : Str} {body : List Stmt} {Q : Flow → Shared → Prop}
theorem unr_mono {L I : Addr} {it : Obj} {s₁ s₂ : Shared} {r r' : (Str → Option Value) → List (Addr × Obj) → Prop} {f : Flow} (hr : ∀ m n, (∀ p ∈ n, p.1 ≠ I) → r m n → r' m n) (h : UnrPost h₀ L s₁ I it r Q f s₂) : UnrPost h₀ L s₁ I it r' Q f s₂ := by
  cases f with
  | ret v => exact h
  | brk => exact h
  | next => obtain ⟨a, b, c, d, e, f, g, i, j⟩ := h; exact ⟨a, b, c, d, e, f, g, i, hr _ _ i j⟩
  | cont => obtain ⟨a, b, c, d, e, f, g, i, j⟩ := h; exact ⟨a, b, c, d, e, f, g, i, hr _ _ i j⟩
theorem shelf_rest {i j : Int} {qual : Str} {sh I : Addr} {dr : Addr × Obj} {m₀ : Str → Option Value}
    (turn : ∀ (k : Nat) mm ps es rest t h tk, k < 8 → ShF i j qual sh dr k ps es rest → (∀ p ∈ rest, p.1 ≠ I) → Fr h₀ env.locals h (fun y => if y = x then some (.int (0 + (k : Int)) t) else lvars m₀ mm y) →
      News h₀ env.locals h ((I, itR (0 + ((k + 1 : Nat) : Int)) ((8 : Nat) - ((k + 1 : Nat) : Int))) :: (130, tabObj ps) :: (sh, listOf (refs es).toArray k) :: rest) →
      wpAny (model prog w) A (execs body env) (UnrPost h₀ env.locals { s with heap := h, toks := tk } I (itR (0 + ((k + 1 : Nat) : Int)) ((8 : Nat) - ((k + 1 : Nat) : Int))) (ShInv i j qual sh dr I m₀ (k + 1)) Q) E { s with heap := h, toks := tk })
    (done : ∀ mm ps es rest h tk, ShF i j qual sh dr 8 ps es rest → Fr h₀ env.locals h (lvars m₀ mm) → News h₀ env.locals h ((130, tabObj ps) :: (sh, listOf (refs es).toArray 8) :: rest) → Q .next { s with heap := h, toks := tk }) :
    ∀ k i' m news, k + i' = 8 → ShInv i j qual sh dr I m₀ i' m news → RangeRest prog w A E h₀ env x body Q s I 0 8 k i' m news
  | 0, i', m, news, hk, hi => by
    obtain rfl : i' = 8 := by omega
    obtain ⟨ps, es, rest, rfl, hs, _, hm⟩ := hi
    exact RangeRest.zero fun h tk F N => done m ps es rest h tk hs (by rw [← hm]; exact F) N
  | k + 1, i', m, news, hk, hi => by
    obtain ⟨ps, es, rest, rfl, hs, ho, hm⟩ := hi
    refine RangeRest.succ fun t h tk F N => ?_
    have F' : Fr h₀ env.locals h (fun y => if y = x then some (.int (0 + (i' : Int)) t) else lvars m₀ m y) := by rw [← hm]; exact F
    exact wpAny_mono (turn i' m ps es rest t h tk (by omega) hs ho F' N) (fun f s₂ hp => unr_mono (fun m' n' _ hi' => shelf_rest turn done k (i' + 1) m' n' (by omega) hi') hp) fun _ _ e => e
end
end Mine
end
section -- C10
open PySem PySem.W PyProof.Rows PySem.Spec PySem.Calls
set_option maxRecDepth 100000
set_option maxHeartbeats 2000000
namespace Mine
section
variable {prog : Program} {w : World} {A : Around} {E : Value → Shared → Prop} {s : Shared} {h₀ : Heap} {L : Addr} {m : Str → Option Value} {news : List (Addr × Obj)} {Q : Value → Shared → Prop}
abbrev tupObj (vs : Array Value) : Obj := { cls := .type "tuple", data := .seq vs }
theorem four_use {value slice : PySem.Expr} {D D1 D2 D3 D4 d : Addr} {ys : List Value} {x : Int} {u t1 t2 t3 t4 t5 t6 t7 t8 : Tok} (_F : Fr h₀ L s.heap m) (N : News h₀ L s.heap news)
    (hT : (D, tupObj #[.ref D1, .ref D2, .ref D3, .ref D4]) ∈ news) (h1 : (D1, tupObj #[.int 3 t1, .int 1 t2]) ∈ news) (h2 : (D2, tupObj #[.int 3 t3, .int 5 t4]) ∈ news) (h3 : (D3, tupObj #[.int 5 t5, .int 1 t6]) ∈ news) (h4 : (D4, tupObj #[.int 1 t7, .int 3 t8]) ∈ news)
    (hP : (130, tabObj #[]) ∈ news) (hd : (d, LCg.lst ys) ∈ news)
    (h : ∀ T i j ti tj, Four i j → News h₀ L s.heap [(T, tupObj #[.int i ti, .int j tj]), (130, tabObj #[]), (d, LCg.lst ys)] → Q (.ref T) s)
    (hs' : subscripted slice false (.ref D) (.int (x.fmod 4) u) = operate [.ref D, .int (x.fmod 4) u] (getItem (.ref D) (.int (x.fmod 4) u))) :
    wpAny (model prog w) A (subscriptTail value slice (.ref D) (.int (x.fmod 4) u)) Q E s := by
  have tup := News.isTup (items := #[.ref D1, .ref D2, .ref D3, .ref D4]) N hT
  have give : ∀ T i j ti tj, Four i j → (T, tupObj #[.int i ti, .int j tj]) ∈ news → Q (.ref T) s := fun T i j ti tj f hm => h T i j ti tj f fun p hp => by
    simp only [List.mem_cons, List.not_mem_nil, or_false] at hp
    rcases hp with rfl | rfl | rfl
    · exact N _ hm
    · exact N _ hP
    · exact N _ hd
  have hx : x.fmod 4 = 0 ∨ x.fmod 4 = 1 ∨ x.fmod 4 = 2 ∨ x.fmod 4 = 3 := by
    rw [Int.fmod_eq_emod_of_nonneg x (by decide)]; omega
  rcases hx with e | e | e | e
  · refine item_tupleT (l := [.ref D1, .ref D2, .ref D3, .ref D4]) (j := 0) tup (by rw [e]; decide) (by rw [e]; decide) (by rw [e]; rfl) rfl (give _ _ _ _ _ (.inl ⟨rfl, rfl⟩) h1) hs'
  · refine item_tupleT (l := [.ref D1, .ref D2, .ref D3, .ref D4]) (j := 1) tup (by rw [e]; decide) (by rw [e]; decide) (by rw [e]; rfl) rfl (give _ _ _ _ _ (.inr (.inl ⟨rfl, rfl⟩)) h2) hs'
  · refine item_tupleT (l := [.ref D1, .ref D2, .ref D3, .ref D4]) (j := 2) tup (by rw [e]; decide) (by rw [e]; decide) (by rw [e]; rfl) rfl (give _ _ _ _ _ (.inr (.inr (.inl ⟨rfl, rfl⟩))) h3) hs'
  · refine item_tupleT (l := [.ref D1, .ref D2, .ref D3, .ref D4]) (j := 3) tup (by rw [e]; decide) (by rw [e]; decide) (by rw [e]; rfl) rfl (give _ _ _ _ _ (.inr (.inr (.inr ⟨rfl, rfl⟩))) h4) hs'
theorem shelf_start {h : Heap} {sh T d : Addr} {t : Obj} {ys : List Value} (N : News h₀ L h [(sh, listOf #[] 0), (T, t), (130, tabObj #[]), (d, LCg.lst ys)]) : News h₀ L h [(130, tabObj #[]), (sh, listOf (refs []).toArray 0), (d, LCg.lst ys)] := fun p hp => by
  simp only [List.mem_cons, List.not_mem_nil, or_false] at hp
  rcases hp with rfl | rfl | rfl
  · exact N _ (.tail _ (.tail _ (.head _)))
  · exact N _ (.head _)
  · exact N _ (.tail _ (.tail _ (.tail _ (.head _))))
theorem shelf_end {i j : Int} {qual : Str} {sh I T D : Addr} {dr : Addr × Obj} {m₀ m' : Str → Option Value} {it po o1 o2 o3 o4 o5 : Obj} {k : Nat} {ps ps' : Array Value} {es : Ents} {ex rest : List (Addr × Obj)} {s₁ : Shared} {h' : Heap} {tk : Nat} {t1 t2 t3 : Tok}
    (F : Fr h₀ L h' m') (N : News h₀ L h' ((T, rowObj (wordN k i.toNat j.toNat) k (endN k i.toNat j.toNat) t1 t2 t3) :: (D, po) :: (I, it) :: (130, tabObj ps') :: (sh, listOf (refs (insE es (bisL es (wordN k i.toNat j.toNat)) (T, wordN k i.toNat j.toNat))).toArray (k + 1)) :: (ex ++ rest)))
    (hk : k < 8) (hs : ShF i j qual sh dr k ps es rest) (hI : ∀ p ∈ rest, p.1 ≠ I) (hok : TabOk qual ps' (ex ++ rest)) (hex : ∀ q ∈ ex, ∀ p ∈ ((T, o1) :: (D, o2) :: (I, o3) :: (130, o4) :: (sh, o5) :: rest), p.1 < q.1)
    (hT : 130 < T ∧ sh < T ∧ I < T) (hI2 : 130 < I ∧ sh < I) (hm : m' = lvars m₀ m') : UnrEnd h₀ L s₁ I it (ShInv i j qual sh dr I m₀ (k + 1)) { s₁ with heap := h', toks := tk } := by
  obtain ⟨a1, a2, a3, a4, a5, a6⟩ := hs
  have sub : ∀ p ∈ rest, p ∈ (T, rowObj (wordN k i.toNat j.toNat) k (endN k i.toNat j.toNat) t1 t2 t3) :: (ex ++ rest) := fun p hp => .tail _ (List.mem_append_right _ hp)
  have ne : ∀ b : Addr, (b < T) → (∀ q ∈ ex, b < q.1) → (∀ p ∈ rest, p.1 ≠ b) → ∀ p ∈ (T, rowObj (wordN k i.toNat j.toNat) k (endN k i.toNat j.toNat) t1 t2 t3) :: (ex ++ rest), p.1 ≠ b := fun b b1 b2 b3 p hp => by
    rcases List.mem_cons.mp hp with rfl | hp
    · exact Nat.ne_of_gt b1
    · rcases List.mem_append.mp hp with hp | hp
      · exact Nat.ne_of_gt (b2 p hp)
      · exact b3 p hp
  have hexI : ∀ q ∈ ex, I < q.1 := fun q hq => hex q hq _ (.tail _ (.tail _ (.head _)))
  have hexP : ∀ q ∈ ex, 130 < q.1 := fun q hq => hex q hq _ (.tail _ (.tail _ (.tail _ (.head _))))
  have hexS : ∀ q ∈ ex, sh < q.1 := fun q hq => hex q hq _ (.tail _ (.tail _ (.tail _ (.tail _ (.head _)))))
  refine UnrEnd.intro F N ((130, tabObj ps') :: (sh, listOf (refs (insE es (bisL es (wordN k i.toNat j.toNat)) (T, wordN k i.toNat j.toNat))).toArray (k + 1)) :: (T, rowObj (wordN k i.toNat j.toNat) k (endN k i.toNat j.toNat) t1 t2 t3) :: (ex ++ rest)) ?_ ?_
    ⟨ps', insE es (bisL es (wordN k i.toNat j.toNat)) (T, wordN k i.toNat j.toNat), (T, rowObj (wordN k i.toNat j.toNat) k (endN k i.toNat j.toNat) t1 t2 t3) :: (ex ++ rest), rfl, ⟨hok.mono fun p hp => .tail _ hp, ?_, ?_, ne 130 hT.1 hexP a4, ne sh hT.2.1 hexS a5, sub _ a6⟩, ne I hT.2.2 hexI hI, hm⟩
  · intro p hp
    simp only [List.mem_cons] at hp ⊢
    rcases hp with hp | hp | hp | hp | hp
    · exact .inr (.inr (.inl hp))
    · exact .inr (.inr (.inr (.inl hp)))
    · exact .inr (.inr (.inr (.inr (.inl hp))))
    · exact .inl hp
    · exact .inr (.inr (.inr (.inr (.inr hp))))
  · intro p hp
    rcases List.mem_cons.mp hp with rfl | hp
    · exact Nat.ne_of_lt hI2.1
    · rcases List.mem_cons.mp hp with rfl | hp
      · exact Nat.ne_of_lt hI2.2
      · exact ne I hT.2.2 hexI hI p hp
  · intro e he
    have he' : e = (T, wordN k i.toNat j.toNat) ∨ e ∈ es := by
      unfold insE at he
      rcases List.mem_append.mp he with he | he
      · exact .inr (List.mem_of_mem_take he)
      · rcases List.mem_cons.mp he with he | he
        · exact .inl he
        · exact .inr (List.mem_of_mem_drop he)
    rcases he' with rfl | he'
    · exact ⟨k, t1, t2, t3, hk, rfl, .head _⟩
    · exact (a2 e he').mono sub
  · rw [insE_map, a3]; rfl
end
section
variable {w : World} {p : Program} {loose : List Str} {mean : ExcName → Option Value} {mg mb : Str → Option Value} {dp un : Nat} {gd : Option (List Code)} {cn : Str} {cs : Scope} {a : Addr} {ccd : Value} {cl : List (Str × Addr)} {outer : List Env} {A₀ : Around} {base h₀ : Heap} {L : Addr} {m : Str → Option Value} {news : List (Addr × Obj)} {s : Shared} {n i j : Int} {k : Nat} {tk ti tj : Tok} {Q E : Value → Shared → Prop}
theorem walk_use (B : Below A₀ base outer h₀) (F : Fr h₀ L s.heap m) (X : (hd.heap_39 w.params).In h₀) (N : News h₀ L s.heap news) (T : Top p loose mean mg mb h₀) (hk : cs.kind = .function) (hn : n = (k : Int)) (hn2 : k ≤ 60) (hij : Four i j) (hd : dp + 3 < recursionLimit) (hu : un + 24 < cLine)
    (hret : ∀ D t1 t2 c h' tk', Fr h₀ L h' m → News h₀ L h' ((D, pairObj (wordN k i.toNat j.toNat) (dots (endN k i.toNat j.toNat)) t1 t2 c) :: news) → AllLt D news → Q (.ref D) { s with heap := h', toks := tk' }) :
    wpAny (model PySem.Challenge.rw_sr0020_01.row.prog w) (ktrTop dp un gd cn cs L a ccd cl outer) (call (.ref 121) [.int n tk, .int i ti, .int j tj]) Q E s := by
  subst hn
  exact walk_tells _ _ _ _ _ _ _ _ _ _ _ _ _ _ _ _ _ _ _ _ _ _ _ _ B F X N T hk (by omega) hij.i hij.j hd hu hret
def WtIs (x : Str) (i wt : Int) : Prop := wt = wtF x i
theorem weight_use {x : Str} (B : Below A₀ base outer h₀) (F : Fr h₀ L s.heap m) (X : (hd.heap_39 w.params).In h₀) (N : News h₀ L s.heap news) (T : Top p loose mean mg mb h₀) (hk : cs.kind = .function) (hx : x ∈ words) (hij : Four i j) (hd : dp + 1 < recursionLimit) (hu : un + 8 < cLine)
    (hret : ∀ wt t h' tk', WtIs x i wt → Fr h₀ L h' m → News h₀ L h' news → Q (.int wt t) { s with heap := h', toks := tk' }) :
    wpAny (model PySem.Challenge.rw_sr0020_01.row.prog w) (ktrTop dp un gd cn cs L a ccd cl outer) (call (.ref 128) [.str x tk, .int i ti]) Q E s :=
  weight_tells _ _ _ _ _ _ _ _ _ _ _ _ _ _ _ _ _ _ _ _ _ _ B F X N T hk hx hij.i hd hu (fun t h' tk' => hret _ t h' tk' rfl)
end
end Mine
end
section -- C11
open PySem PySem.W PyProof.Rows PySem.Spec PySem.Calls
set_option maxRecDepth 100000
set_option maxHeartbeats 2000000
namespace Mine
theorem wordsN_len (a b : Nat) : ∀ k, (wordsN a b k).length = k
  | 0 => rfl
  | k + 1 => by
    have := wordsN_len a b k
    show (insW _ _).length = _
    unfold insW
    simp only [List.length_append, List.length_cons, List.length_take, List.length_drop, this]
    omega
theorem shf_len {i j : Int} {qual : Str} {sh : Addr} {dr : Addr × Obj} {k : Nat} {ps : Array Value} {es : Ents} {rest : List (Addr × Obj)} (h : ShF i j qual sh dr k ps es rest) : es.length = k := by
  have e := congrArg List.length h.2.2.1
  rw [List.length_map, wordsN_len] at e
  exact e
section
variable {prog : Program} {w : World} {A : Around} {E : Value → Shared → Prop} {s : Shared} {env : Env} {h₀ : Heap} {x : Str} {body : List Stmt} {Q : Flow → Shared → Prop}
theorem shelf_go {i j : Int} (_hij : Four i j) {sh I d : Addr} {ys : List Value} {m₀ : Str → Option Value} (l1 : d < I) (_l4 : 130 < sh) (l5 : d < sh) (l6 : 130 ≠ d) (_l7 : 130 < I) (_l8 : sh < I)
    (turn : ∀ (k : Nat) mm ps es rest t h tk, k < 8 → ShF i j (env.qual ++ "<lambda>") sh (d, LCg.lst ys) k ps es rest → (∀ p ∈ rest, p.1 ≠ I) → Fr h₀ env.locals h (fun y => if y = x then some (.int (0 + (k : Int)) t) else lvars m₀ mm y) →
      News h₀ env.locals h ((I, itR (0 + ((k + 1 : Nat) : Int)) ((8 : Nat) - ((k + 1 : Nat) : Int))) :: (130, tabObj ps) :: (sh, listOf (refs es).toArray k) :: rest) →
      wpAny (model prog w) A (execs body env) (UnrPost h₀ env.locals { s with heap := h, toks := tk } I (itR (0 + ((k + 1 : Nat) : Int)) ((8 : Nat) - ((k + 1 : Nat) : Int))) (ShInv i j (env.qual ++ "<lambda>") sh (d, LCg.lst ys) I m₀ (k + 1)) Q) E { s with heap := h, toks := tk })
    (done : ∀ mm ps es rest h tk, ShF i j (env.qual ++ "<lambda>") sh (d, LCg.lst ys) 8 ps es rest → Fr h₀ env.locals h (lvars m₀ mm) → News h₀ env.locals h ((130, tabObj ps) :: (sh, listOf (refs es).toArray 8) :: rest) → Q .next { s with heap := h, toks := tk }) :
    RangeRest prog w A E h₀ env x body Q s I 0 8 8 0 m₀ [(130, tabObj #[]), (sh, listOf (refs []).toArray 0), (d, LCg.lst ys)] :=
  shelf_rest (dr := (d, LCg.lst ys)) turn done 8 0 m₀ _ rfl ⟨#[], [], [(d, LCg.lst ys)], rfl, ⟨TabOk.nil, (fun _ h => nomatch h), rfl, fun p hp => by rw [List.mem_singleton.mp hp]; exact l6.symm, fun p hp => by rw [List.mem_singleton.mp hp]; exact Nat.ne_of_lt l5, .head _⟩,
    fun p hp => by rw [List.mem_singleton.mp hp]; exact Nat.ne_of_lt l1, lvars_eq fun _ _ _ _ => rfl⟩
theorem lvars_back {m₀ mm : Str → Option Value} {v1 v2 v3 : Option Value} :
    (fun y => if y = Str.ofString "row" then v1 else if y = Str.ofString "word" then v2 else if y = Str.ofString "count" then v3 else lvars m₀ mm y) = lvars m₀ (fun y => if y = Str.ofString "row" then v1 else if y = Str.ofString "word" then v2 else if y = Str.ofString "count" then v3 else lvars m₀ mm y) :=
  lvars_eq fun z h1 h2 h3 => by
    unfold lvars
    rw [if_neg h1, if_neg h2, if_neg h3, if_neg h1, if_neg h2, if_neg h3]
end
section
variable {w : World} {p : Program} {loose : List Str} {mean : ExcName → Option Value} {mg mb : Str → Option Value} {dp un : Nat} {gd : Option (List Code)} {cn : Str} {cs : Scope} {a : Addr} {ccd : Value} {cl : List (Str × Addr)} {outer : List Env} {A₀ : Around} {base h₀ : Heap} {L : Addr} {m : Str → Option Value} {ex rest : List (Addr × Obj)} {s : Shared} {i j : Int} {k : Nat} {qual : Str} {f T D I sh : Addr} {dr : Addr × Obj} {po it o1 o2 o3 o4 o5 : Obj} {ps ps' : Array Value} {es : Ents} {t1 t2 t3 : Tok} {Q E : Value → Shared → Prop}
theorem ins_use2 (B : Below A₀ base outer h₀) (F : Fr h₀ L s.heap m) (X : (hd.heap_39 w.params).In h₀)
    (N : News h₀ L s.heap ((T, rowObj (wordN k i.toNat j.toNat) k (endN k i.toNat j.toNat) t1 t2 t3) :: (D, po) :: (I, it) :: (130, tabObj ps') :: (sh, listOf (refs es).toArray k) :: (ex ++ rest))) (Tp : Top p loose mean mg mb h₀) (hk : cs.kind = .function)
    (hs : ShF i j qual sh dr k ps es rest) (hex : ∀ q ∈ ex, ∀ p ∈ ((T, o1) :: (D, o2) :: (I, o3) :: (130, o4) :: (sh, o5) :: rest), p.1 < q.1) (hf : LamAt s.heap f)
    (l1 : sh < T) (l2 : sh < D) (l3 : sh < I) (l4 : 130 < sh) (h8 : k < 8) (hd : dp + 3 < recursionLimit) (hu : un + 24 < cLine)
    (h : ∀ h' tk', Fr h₀ L h' m → News h₀ L h' ((T, rowObj (wordN k i.toNat j.toNat) k (endN k i.toNat j.toNat) t1 t2 t3) :: (D, po) :: (I, it) :: (130, tabObj ps') :: (sh, listOf (refs (insE es (bisL es (wordN k i.toNat j.toNat)) (T, wordN k i.toNat j.toNat))).toArray (k + 1)) :: (ex ++ rest)) → Q .none { s with heap := h', toks := tk' }) :
    wpAny (model PySem.Challenge.rw_sr0020_01.row.prog w) (ktrTop dp un gd cn cs L a ccd cl outer) (call (.ref 49) [.ref sh, .ref T] [(Str.ofString "key", .ref f)]) Q E s := by
  have hl := shf_len hs
  obtain ⟨a1, a2, a3, a4, a5, a6⟩ := hs
  refine ins_use (items := [.str (wordN k i.toNat j.toNat) t1, .int (0 + (k : Int)) t2, .str (dots (endN k i.toNat j.toNat)) t3]) (x := wordN k i.toNat j.toNat) (tx := t1) (rest := ex ++ rest) B F X N Tp hk
    (.tail (Nat.ne_of_gt l1) (.tail (Nat.ne_of_gt l2) (.tail (Nat.ne_of_gt l3) (.tail (Nat.ne_of_lt l4) (.head .nil))))) (fun p hp => ?_)
    (ents_of N (fun p hp => .tail _ (.tail _ (.tail _ (.tail _ (.tail _ (List.mem_append_right _ hp)))))) a2) hf ⟨_, (N _ (.head _)).1, rfl, _, rfl⟩ rfl (by omega) hd hu h
  rcases List.mem_append.mp hp with hp | hp
  · exact Nat.ne_of_gt (hex p hp _ (.tail _ (.tail _ (.tail _ (.tail _ (.head _))))))
  · exact a5 p hp
theorem lam_make1 {prog : Program} {A : Around} {p1 p2 p3 p4 pos : Pos} {firstLine : Nat} {Q : Value → Shared → Prop} {ro : Obj} (F : Fr h₀ L s.heap m) (Tp : Top p loose mean mg mb h₀) (C : CodeHd h₀ 132 130) (hcd : ccd = .ref 132) (hs : ShF i j qual sh dr k ps es rest)
    (N : News h₀ L s.heap ((T, ro) :: (D, po) :: (I, it) :: (130, tabObj ps) :: (sh, listOf (refs es).toArray k) :: rest))
    (l1 : 130 < T) (l2 : 130 < D) (l3 : 130 < I) (l4 : 130 < sh)
    (h : ∀ f ps' ex h' tk, Fr h₀ L h' m → News h₀ L h' ((T, ro) :: (D, po) :: (I, it) :: (130, tabObj ps') :: (sh, listOf (refs es).toArray k) :: (ex ++ rest)) → TabOk qual ps' (ex ++ rest) → LamAt h' f →
      (∀ q ∈ ex, ∀ p ∈ ((T, ro) :: (D, po) :: (I, it) :: (130, tabObj ps) :: (sh, listOf (refs es).toArray k) :: rest), p.1 < q.1) → Q (.ref f) { s with heap := h', toks := tk }) :
    wpAny (model prog w) A (makeFunction "<lambda>" qual (lamParams p1) (.expr (lamBody p2 p3 p4)) lamScope (envX cn cs L a ccd cl) [] [] [] pos firstLine) Q E s :=
  lam_make F N Tp C hcd (.tail (Nat.ne_of_gt l1) (.tail (Nat.ne_of_gt l2) (.tail (Nat.ne_of_gt l3) (.head (.cons (Nat.ne_of_gt l4) .nil))))) hs.2.2.2.1 hs.1 h
end
end Mine
end
section -- C12
open PySem PySem.W PyProof.Rows PySem.Spec PySem.Calls
set_option maxRecDepth 100000
set_option maxHeartbeats 2000000
namespace Mine
theorem map_cons {x : Str} {r : List Str} {es : Ents} (h : es.map (·.2) = x :: r) : ∃ A es', es = (A, x) :: es' ∧ es'.map (·.2) = r := by
  cases es with
  | nil => cases h
  | cons e es' =>
    obtain ⟨A, y⟩ := e
    simp only [List.map_cons, List.cons.injEq] at h
    exact ⟨A, es', by rw [h.1], h.2⟩
theorem map_nil {es : Ents} (h : es.map (·.2) = []) : es = [] := by
  cases es with
  | nil => rfl
  | cons e es' => cases h
section
variable {h₀ h : Heap} {L sh d : Addr} {i j : Int} {qual : Str} {ps : Array Value} {es : Ents} {rest : List (Addr × Obj)} {ys : List Value}
theorem shelf_split {P : Prop} (hij : Four i j) (N : News h₀ L h ((130, tabObj ps) :: (sh, listOf (refs es).toArray 8) :: rest)) (hs : ShF i j qual sh (d, LCg.lst ys) 8 ps es rest)
    (H : ∀ (A0 A1 A2 A3 A4 A5 A6 A7 : Addr) (n0 n1 n2 n3 n4 n5 n6 n7 : Nat) (a0 b0 c0 a1 b1 c1 a2 b2 c2 a3 b3 c3 a4 b4 c4 a5 b5 c5 a6 b6 c6 a7 b7 c7 : Tok), es = [(A0, Str.ofString "eee"), (A1, Str.ofString "eeo"), (A2, Str.ofString "eoe"), (A3, Str.ofString "eoo"), (A4, Str.ofString "oee"), (A5, Str.ofString "oeo"), (A6, Str.ofString "ooe"), (A7, Str.ofString "ooo")] → (n0 < 8 ∧ Str.ofString "eee" = wordN n0 i.toNat j.toNat) → (n1 < 8 ∧ Str.ofString "eeo" = wordN n1 i.toNat j.toNat) → (n2 < 8 ∧ Str.ofString "eoe" = wordN n2 i.toNat j.toNat) → (n3 < 8 ∧ Str.ofString "eoo" = wordN n3 i.toNat j.toNat) → (n4 < 8 ∧ Str.ofString "oee" = wordN n4 i.toNat j.toNat) → (n5 < 8 ∧ Str.ofString "oeo" = wordN n5 i.toNat j.toNat) → (n6 < 8 ∧ Str.ofString "ooe" = wordN n6 i.toNat j.toNat) → (n7 < 8 ∧ Str.ofString "ooo" = wordN n7 i.toNat j.toNat) → @Ne Nat 130 A0 → @Ne Nat 130 A1 → @Ne Nat 130 A2 → @Ne Nat 130 A3 → @Ne Nat 130 A4 → @Ne Nat 130 A5 → @Ne Nat 130 A6 → @Ne Nat 130 A7 →
      News h₀ L h ((130, tabObj ps) :: (sh, listOf #[.ref A0, .ref A1, .ref A2, .ref A3, .ref A4, .ref A5, .ref A6, .ref A7] 8) :: (d, LCg.lst ys) :: (A0, rowObj (Str.ofString "eee") n0 (endN n0 i.toNat j.toNat) a0 b0 c0) :: (A1, rowObj (Str.ofString "eeo") n1 (endN n1 i.toNat j.toNat) a1 b1 c1) :: (A2, rowObj (Str.ofString "eoe") n2 (endN n2 i.toNat j.toNat) a2 b2 c2) :: (A3, rowObj (Str.ofString "eoo") n3 (endN n3 i.toNat j.toNat) a3 b3 c3) :: (A4, rowObj (Str.ofString "oee") n4 (endN n4 i.toNat j.toNat) a4 b4 c4) :: (A5, rowObj (Str.ofString "oeo") n5 (endN n5 i.toNat j.toNat) a5 b5 c5) :: (A6, rowObj (Str.ofString "ooe") n6 (endN n6 i.toNat j.toNat) a6 b6 c6) :: (A7, rowObj (Str.ofString "ooo") n7 (endN n7 i.toNat j.toNat) a7 b7 c7) :: rest) → P) : P := by
  have e := hs.2.2.1
  rw [words_sorted hij] at e
  unfold words at e
  obtain ⟨A0, es0, rfl, e1⟩ := map_cons e
  obtain ⟨A1, es1, rfl, e2⟩ := map_cons e1
  obtain ⟨A2, es2, rfl, e3⟩ := map_cons e2
  obtain ⟨A3, es3, rfl, e4⟩ := map_cons e3
  obtain ⟨A4, es4, rfl, e5⟩ := map_cons e4
  obtain ⟨A5, es5, rfl, e6⟩ := map_cons e5
  obtain ⟨A6, es6, rfl, e7⟩ := map_cons e6
  obtain ⟨A7, es7, rfl, e8⟩ := map_cons e7
  obtain rfl := map_nil e8
  obtain ⟨n0, a0, b0, c0, f0, g0, m0⟩ := hs.2.1 _ (.head _)
  obtain ⟨n1, a1, b1, c1, f1, g1, m1⟩ := hs.2.1 _ (.tail _ (.head _))
  obtain ⟨n2, a2, b2, c2, f2, g2, m2⟩ := hs.2.1 _ (.tail _ (.tail _ (.head _)))
  obtain ⟨n3, a3, b3, c3, f3, g3, m3⟩ := hs.2.1 _ (.tail _ (.tail _ (.tail _ (.head _))))
  obtain ⟨n4, a4, b4, c4, f4, g4, m4⟩ := hs.2.1 _ (.tail _ (.tail _ (.tail _ (.tail _ (.head _)))))
  obtain ⟨n5, a5, b5, c5, f5, g5, m5⟩ := hs.2.1 _ (.tail _ (.tail _ (.tail _ (.tail _ (.tail _ (.head _))))))
  obtain ⟨n6, a6, b6, c6, f6, g6, m6⟩ := hs.2.1 _ (.tail _ (.tail _ (.tail _ (.tail _ (.tail _ (.tail _ (.head _)))))))
  obtain ⟨n7, a7, b7, c7, f7, g7, m7⟩ := hs.2.1 _ (.tail _ (.tail _ (.tail _ (.tail _ (.tail _ (.tail _ (.tail _ (.head _))))))))
  have ne : ∀ p ∈ rest, @Ne Nat 130 p.1 := fun p hp => (hs.2.2.2.1 p hp).symm
  refine H _ _ _ _ _ _ _ _ n0 n1 n2 n3 n4 n5 n6 n7 a0 b0 c0 a1 b1 c1 a2 b2 c2 a3 b3 c3 a4 b4 c4 a5 b5 c5 a6 b6 c6 a7 b7 c7 rfl ⟨f0, g0⟩ ⟨f1, g1⟩ ⟨f2, g2⟩ ⟨f3, g3⟩ ⟨f4, g4⟩ ⟨f5, g5⟩ ⟨f6, g6⟩ ⟨f7, g7⟩ (ne _ m0) (ne _ m1) (ne _ m2) (ne _ m3) (ne _ m4) (ne _ m5) (ne _ m6) (ne _ m7) ?_
  intro p hp
  have old : ∀ p ∈ rest, h.get? p.1 = some p.2 ∧ p.1 ≠ L ∧ h₀.get? p.1 = none := fun p hp => N p (.tail _ (.tail _ hp))
  rcases List.mem_cons.mp hp with rfl | hp
  · exact N _ (.head _)
  rcases List.mem_cons.mp hp with rfl | hp
  · exact N _ (.tail _ (.head _))
  rcases List.mem_cons.mp hp with rfl | hp
  · exact old _ hs.2.2.2.2.2
  rcases List.mem_cons.mp hp with rfl | hp
  · exact old _ m0
  rcases List.mem_cons.mp hp with rfl | hp
  · exact old _ m1
  rcases List.mem_cons.mp hp with rfl | hp
  · exact old _ m2
  rcases List.mem_cons.mp hp with rfl | hp
  · exact old _ m3
  rcases List.mem_cons.mp hp with rfl | hp
  · exact old _ m4
  rcases List.mem_cons.mp hp with rfl | hp
  · exact old _ m5
  rcases List.mem_cons.mp hp with rfl | hp
  · exact old _ m6
  rcases List.mem_cons.mp hp with rfl | hp
  · exact old _ m7
  exact old _ hp
theorem compEnd_same {m : Str → Option Value} {s₁ : Shared} {I C D : Addr} {oI oC oD : Obj} {S : List (Addr × Obj) → Prop} {r : Value → List (Addr × Obj) → Prop} {y : Value} {h' : Heap} {tk : Nat} {news' : List (Addr × Obj)}
    (F : Fr h₀ L h' m) (N : News h₀ L h' ((I, oI) :: (C, oC) :: (D, oD) :: news')) (off : LCg.Off3 I C D news') (hS : S news') (hr : r y news') : LCg.CompEnd h₀ L m s₁ I oI C oC D oD S r y { s₁ with heap := h', toks := tk } :=
  LCg.CompEnd.intro F N news' (fun _ h => h) off hS hr
end
end Mine
end
section -- N1
open PySem PySem.W PyProof.Rows PySem.Spec PySem.Calls
set_option maxRecDepth 100000
set_option maxHeartbeats 2000000
namespace Mine
def Strs : List Value → List Str → Prop
  | [], [] => True
  | .str x _ :: vs, y :: ys => x = y ∧ Strs vs ys
  | _, _ => False
theorem Strs.append : ∀ {a : List Value} {l : List Str} {b : List Value} {l' : List Str}, Strs a l → Strs b l' → Strs (a ++ b) (l ++ l')
  | [], [], _, _, _, h => h
  | .str _ _ :: a, _ :: l, _, _, h1, h => ⟨h1.1, Strs.append h1.2 h⟩
def Eff (but : Addr → Prop) (C D : Addr) (vars : List Str) (s : Shared) (m : Str → Option Value) (ys : List Value) (l : List Str) (s' : Shared) : Prop :=
  ∃ h' tk' m' zs, s' = { s with heap := h', toks := tk' } ∧ h'.Ns C m' ∧ (∀ z ∈ vars, m' z = m z) ∧ h'.get? D = some (LCg.lst (ys ++ zs)) ∧ Strs zs l ∧ (∀ b o, s.heap.get? b = some o → ¬ but b → h'.get? b = some o)
section
variable {prog : Program} {w : World} {A : Around} {R : Result → Shared → Prop} {s : Shared} {env : Env}
theorem start_eff {elt : PySem.Expr} {gens : List Comprehension} {scope : Scope} {pos : Pos} {d : Nat} {target iter : PySem.Expr} {ifs : List PySem.Expr} {it acc : Value} (hc : gens[d]? = some ⟨target, iter, ifs, 0⟩)
    (h0 : codeAny (model prog w) A (.compLoop (.ListComp elt gens scope pos) d it acc env) R s)
    (h : wpAny (model prog w) A (pyIter it) (fun it' s' => codeAny (model prog w) A (.compLoop (.ListComp elt gens scope pos) d it' acc env) R s')
      (notedBy (model prog w) A env fun x s' => R (.error x) s') s) :
    codeAny (model prog w) A (.compStart (.ListComp elt gens scope pos) d it acc env) R s := by
  refine codeAny_of_tree ?_
  show wpAny _ _ ((compStart (.ListComp elt gens scope pos) d it acc env).onRaise (fun x => do noteFrame x env; standAt theWindowsPlace)) _ _ s
  refine wpAny_notedAt ?_
  unfold compStart
  have hc' : (clausesOf (.ListComp elt gens scope pos))[d]? = some ⟨target, iter, ifs, 0⟩ := hc
  rw [hc']
  show wpAny _ _ (ask >>= _) _ _ s
  refine wpAny_bind (wpAny_askSetting (wpAny_ite ?_))
  split
  · first
      | exact wpAny_bind (wpAny_pure (wpAny_pure (And.intro rfl h0)))
      | exact wpAny_pure (And.intro rfl h0)
  · first
      | exact wpAny_bind (wpAny_rule (wpAny_bind (wpAny_standAt (wpAny_bind (wpAny_mono h (fun it' s' h' => wpAny_pure (And.intro rfl h')) fun _ _ x => x)))))
      | (refine wpAny_bind (wpAny_rule ?_); show wpAny _ _ (standAt iter.pos >>= _) _ _ s; exact wpAny_bind (wpAny_standAt (wpAny_bind (wpAny_mono h (fun it' s' h' => wpAny_pure (And.intro rfl h')) fun _ _ x => x))))
theorem loop_eff {elt : PySem.Expr} {gens : List Comprehension} {scope : Scope} {pos q px : Pos} {d n : Nat} {xd x : Str} {I C D : Addr} {turnCode : Sem Unit} {St : Nat → Heap → Prop} {m : Str → Option Value} {ys : List Value} {vars : List Str} (out : Nat → List Str)
    (hT : compTurn (.ListComp elt gens scope pos) d (.ref I) (.ref D) env = (standAt q >>= fun _ => pyNext (.ref I) >>= fun r => match r with
      | none => pure (.done .next)
      | some v => letOwnedTupleGo (.Name xd px) (.ref I) v >>= fun _ => assign (.Name xd px) env v >>= fun _ => turnCode >>= fun _ => again (.compLoop (.ListComp elt gens scope pos) d (.ref I) (.ref D) env)))
    (W : Walks prog w A I [I] [I] n (SignAt x) St) (hx : env.kindOf xd = some .local) (hp : (env.scope.kind == .class || (env.scope.kind == .module && env.locals != env.globals)) = false) (hC : env.locals = C)
    (hst : St 0 s.heap) (hn : s.heap.Ns C m) (hD : s.heap.get? D = some (LCg.lst ys)) (hIC : I ≠ C) (hID : I ≠ D) (hCD : C ≠ D) (hxv : xd ∉ vars)
    (turn : ∀ i v s₁ m₁ ys₁ (E' : Value → Shared → Prop), i < n → SignAt x i v → s₁.heap.Ns C m₁ → m₁ xd = some v → (∀ z ∈ vars, m₁ z = m z) → s₁.heap.get? D = some (LCg.lst ys₁) → (∃ zs, ys₁ = ys ++ zs ∧ Strs zs ((List.range i).flatMap out)) →
      wpAny (model prog w) A turnCode (Eff (fun b => b = C ∨ b = D) C D (xd :: vars) s₁ m₁ ys₁ (out i) |> fun F _ s' => F s') E' s₁)
    (hR : ∀ s', Eff (fun b => b = C ∨ b = D ∨ b = I) C D vars s m ys ((List.range n).flatMap out) s' → R (.ok .next) s') :
    codeAny (model prog w) A (.compLoop (.ListComp elt gens scope pos) d (.ref I) (.ref D) env) R s := by
  subst hC
  refine codeAny_loop rfl (fun k s' => ∃ i, i ≤ n ∧ k = n + 1 - i ∧ ∃ h' tk m' zs, s' = { s with heap := h', toks := tk } ∧ St i h' ∧ h'.Ns env.locals m' ∧ (∀ z ∈ vars, m' z = m z) ∧ h'.get? D = some (LCg.lst (ys ++ zs)) ∧ Strs zs ((List.range i).flatMap out) ∧
    (∀ b o, s.heap.get? b = some o → ¬ (b = env.locals ∨ b = D ∨ b = I) → h'.get? b = some o)) (fun k s' hI => ?_) (n + 1) ⟨0, Nat.zero_le _, rfl, s.heap, s.toks, m, [], rfl, hst, hn, fun _ _ => rfl, by rw [List.append_nil]; exact hD, trivial, fun _ _ e _ => e⟩
  show wpAny _ A ((compTurn (.ListComp elt gens scope pos) d (.ref I) (.ref D) env).onRaise (fun x => do noteFrame x env; theTreesLotGoes x)) _ _ s'
  refine wpAny_noted ?_
  rw [hT]
  obtain ⟨i, hi, rfl, h', tk, m', zs, rfl, hst', hn', hv', hD', hz', hk'⟩ := hI
  refine wpAny_bind (wpAny_standAt (wpAny_bind ?_))
  by_cases hlt : i < n
  · refine W.item i _ _ _ hlt hst' fun v h₂ tk₂ hPv hst₂ hk₂ => ?_
    refine wpAny_bind (wpAny_of_eq (show letOwnedTupleGo (.Name xd px) (.ref I) v = pure () from rfl) ?_)
    have kp : ∀ b o, b ≠ I → h'.get? b = some o → h₂.get? b = some o := fun b o hb e => hk₂ b o (by simpa using hb) e
    refine wpAny_bind (wpAny_assign_Name (wpAny_storeName_local hx (hn'.at' fun o e => kp _ o hIC.symm e) (fun h₃ hn₃ hs₃ => ?_) hp))
    have hD₃ : h₃.get? D = some (LCg.lst (ys ++ zs)) := hs₃.extBut _ _ hCD.symm (kp _ _ hID.symm hD')
    refine wpAny_bind (wpAny_mono (turn i v _ _ (ys ++ zs) _ hlt hPv hn₃ (by simp) (fun z hz => ?_) hD₃ ⟨zs, rfl, hz'⟩) (fun _ s₄ h₄ => ?_) fun _ _ e => e)
    · have : z ≠ xd := fun q => hxv (q ▸ hz)
      simp only [if_neg this]
      exact hv' z hz
    · obtain ⟨h₅, tk₅, m₅, zs₅, rfl, hn₅, hv₅, hD₅, hz₅, hk₅⟩ := h₄
      have k3 : ∀ b o, h₂.get? b = some o → b ≠ env.locals → b ≠ D → h₅.get? b = some o := fun b o e b1 b2 => hk₅ b o (hs₃.extBut _ _ b1 e) (fun q => q.elim b1 b2)
      have hst₅ : St (i + 1) h₅ := W.frame _ _ _ hst₂ fun b hb o e => by
        have : b = I := by simpa using hb
        subst this
        exact k3 _ o e hIC hID
      refine wpAny_pure ⟨rfl, n + 1 - (i + 1), by omega, i + 1, hlt, rfl, h₅, tk₅, m₅, zs ++ zs₅, rfl, hst₅, hn₅, fun z hz => ?_, by rw [← List.append_assoc]; exact hD₅, ?_, fun b o e hb => ?_⟩
      · rw [hv₅ z (.tail _ hz)]
        have : z ≠ xd := fun q => hxv (q ▸ hz)
        simp only [if_neg this]
        exact hv' z hz
      · rw [List.range_succ, List.flatMap_append]
        exact hz'.append (by simpa using hz₅)
      · have b1 : b ≠ env.locals := fun q => hb (.inl q)
        have b2 : b ≠ D := fun q => hb (.inr (.inl q))
        have b3 : b ≠ I := fun q => hb (.inr (.inr q))
        exact k3 _ _ (kp _ _ b3 (hk' b o e hb)) b1 b2
  · obtain rfl : i = n := by omega
    refine W.done _ _ _ hst' fun h₂ tk₂ hk₂ => wpAny_pure (hR _ ?_)
    have kp : ∀ b o, b ≠ I → h'.get? b = some o → h₂.get? b = some o := fun b o hb e => hk₂ b o (by simpa using hb) e
    exact ⟨h₂, tk₂, m', zs, rfl, hn'.at' fun o e => kp _ o hIC.symm e, hv', kp _ _ hID.symm hD', hz', fun b o e hb => kp _ _ (fun q => hb (.inr (.inr q))) (hk' b o e hb)⟩
end
end Mine
end
section -- N2
open PySem PySem.W PyProof.Rows PySem.Spec PySem.Calls
set_option maxRecDepth 100000
set_option maxHeartbeats 2000000
namespace Mine
abbrev EO : Str := Str.ofString "eo"
def sg (i : Nat) : Str := ⟨#[EO.cps.getD i 0]⟩
theorem sign_sg {i : Nat} {v : Value} (h : SignAt EO i v) : ∃ u, v = .str (sg i) u := by
  obtain ⟨c, u, h1, h2⟩ := h
  refine ⟨u, ?_⟩
  rw [h2]
  unfold sg
  rw [show EO.cps.getD i 0 = c from by rw [Array.getD_eq_getD_getElem?, h1]; rfl]
theorem Strs.len : ∀ {a : List Value} {l : List Str}, Strs a l → a.length = l.length
  | [], [], _ => rfl
  | .str _ _ :: _, _ :: _, h => congrArg (· + 1) (Strs.len h.2)
def out1 (i j : Nat) : List Str := (List.range 2).flatMap fun k => [sg i ++ sg j ++ sg k]
def out0 (i : Nat) : List Str := (List.range 2).flatMap (out1 i)
abbrev elt3 (x0 x1 x2 : Str) (a b c d e : Pos) : PySem.Expr := .BinOp (.BinOp (.Name x0 a) .Add (.Name x1 b) c) .Add (.Name x2 d) e
section
variable {prog : Program} {w : World} {A : Around} {E : Value → Shared → Prop} {s : Shared} {env : Env} {scope : Scope} {cl : List (Str × Addr)} {C D : Addr} {m : Str → Option Value} {ys : List Value} {x0 x1 x2 : Str} {pa pb pc pd pe : Pos}
theorem emit_eff {vars : List Str} {a b c : Str} {ta tb tc : Tok} (hn : s.heap.Ns C m) (hD : s.heap.get? D = some (LCg.lst ys)) (hCD : C ≠ D) (h0 : m x0 = some (.str a ta)) (h1 : m x1 = some (.str b tb)) (h2 : m x2 = some (.str c tc))
    (hk : (compEnvC scope cl C env).scope.kind = .function) (l0 : (compEnvC scope cl C env).kindOf x0 = some .local) (l1 : (compEnvC scope cl C env).kindOf x1 = some .local) (l2 : (compEnvC scope cl C env).kindOf x2 = some .local)
    (d0 : (x0 == ("__debug__" : Str)) = false) (d1 : (x1 == ("__debug__" : Str)) = false) (d2 : (x2 == ("__debug__" : Str)) = false)
    (za : a.length = 1) (zb : b.length = 1) (zc : c.length = 1) (hy : ys.length ≤ 100) :
    wpAny (model prog w) A (eval (elt3 x0 x1 x2 pa pb pc pd pe) (compEnvC scope cl C env) >>= fun x => call (.builtin "list.append") [.ref D, x] >>= fun _ => pure ()) (fun (_ : Unit) s' => Eff (fun b => b = C ∨ b = D) C D vars s m ys [a ++ b ++ c] s') E s := by
  have zab : (a ++ b).length = 2 := by
    show (a.cps ++ b.cps).size = 2
    rw [Array.size_append]
    have e1 : a.cps.size = 1 := za
    have e2 : b.cps.size = 1 := zb
    omega
  refine wpAny_bind (wpAny_BinOp (wpAny_BinOp (ldVarK hn h0 (ldVarK hn h1 (add_str (fun t' k' => ldVarK (s := { s with toks := k' }) hn h2 (add_str (fun t2 k2 => wpAny_bind ?_) (by rw [zab, zc, sizeLine_eq]; omega)) hk l2 d2) (by rw [za, zb, sizeLine_eq]; omega)) hk l1 d1) hk l0 d0)))
  refine append_at (s := { s with toks := k2 }) hD (fun h' hs' hD' => wpAny_pure ⟨h', k2, m, [.str (a ++ b ++ c) t2], rfl, hn.sameBut hs' hCD, fun _ _ => rfl, ?_, ⟨rfl, trivial⟩, fun b o e hb => hs'.extBut _ _ (fun q => hb (.inr q)) e⟩) (by rw [List.size_toArray, sizeLine_eq]; omega)
  rw [hD', ← LCg.lst_snoc]
def loopR (M : Model) (A : Around) (env : Env) (Q : Unit → Shared → Prop) (E : Value → Shared → Prop) (r : Result) (s' : Shared) : Prop :=
  match r with | .ok _ => Q () s' | .error e => cameBackBy M A env E e s'
theorem into_eff {elt : PySem.Expr} {gens : List Comprehension} {pos q' q : Pos} {d k : Nat} {target : PySem.Expr} {acc : Value} {cenv : Env} {Q : Unit → Shared → Prop} (hc : gens[d]? = some ⟨target, .Constant (.str EO) k q, [], 0⟩) (hh : A.handled = none)
    (h : ∀ (o : Obj) (St : Nat → Heap → Prop), Walks prog w A s.heap.objs.size [s.heap.objs.size] [s.heap.objs.size] 2 (SignAt EO) St → St 0 (s.heap.push o) →
      codeAny (model prog w) (A.mark none) (.compLoop (.ListComp elt gens scope pos) d (.ref s.heap.objs.size) acc cenv) (loopR (model prog w) A cenv Q E) { s with heap := s.heap.push o, toks := s.toks + 1 }) :
    wpAny (model prog w) A (eval (.Constant (.str EO) k q) cenv >>= fun x => standAt q' >>= fun _ => foldedSetIterable (.Constant (.str EO) k q) cenv x >>= fun x => holding [x] (pyIter x) >>= fun it => runOwn (.compStart (.ListComp elt gens scope pos) d it acc cenv) cenv >>= fun _ => (pure () : Sem Unit)) Q E s := by
  refine wpAny_bind (wpAny_Constant_str (wpAny_bind (wpAny_standAt (wpAny_bind (wpAny_of_eq (show foldedSetIterable (.Constant (.str EO) k q) cenv _ = pure _ from rfl) ?_)))))
  refine wpAny_bind (wpAny_holding (wpAny_pyIter_str fun o St W st => ?_))
  have hm : (A.mark none).handled = none := hh
  have lp := h o St (W A hh) st
  refine wpAny_bind (wpAny_runOwn (codeAny_mono (start_eff (R := loopR (model prog w) A cenv Q E) hc lp ((W _ hm).self 0 _ _ _ st lp)) fun r s' hr => ?_))
  cases r with
  | ok f => exact wpAny_pure hr
  | error e => exact hr
end
end Mine
end
section -- N3
open PySem PySem.W PyProof.Rows PySem.Spec PySem.Calls
set_option maxRecDepth 100000
set_option maxHeartbeats 2000000
namespace Mine
abbrev gens3 (x0 x1 x2 : Str) (p0 p1 p2 q0 q1 q2 : Pos) (k0 k1 k2 : Nat) : List Comprehension :=
  [⟨.Name x0 p0, .Constant (.str EO) k0 q0, [], 0⟩, ⟨.Name x1 p1, .Constant (.str EO) k1 q1, [], 0⟩, ⟨.Name x2 p2, .Constant (.str EO) k2 q2, [], 0⟩]
theorem Eff.unpush {C D : Addr} {vars : List Str} {s s' : Shared} {o : Obj} {tk : Nat} {m : Str → Option Value} {ys : List Value} {l : List Str} (h : Eff (fun b => b = C ∨ b = D ∨ b = s.heap.objs.size) C D vars { s with heap := s.heap.push o, toks := tk } m ys l s') : Eff (fun b => b = C ∨ b = D) C D vars s m ys l s' := by
  obtain ⟨h', tk', m', zs, e1, e2, e3, e4, e5, e6⟩ := h
  refine ⟨h', tk', m', zs, e1, e2, e3, e4, e5, fun b o e hb => e6 b o (Heap.get?_push_of_some _ e) fun q => ?_⟩
  rcases q with q | q | q
  · exact hb (.inl q)
  · exact hb (.inr q)
  · exact Nat.ne_of_lt (Heap.lt_size e) q
structure Shape3 (scope : Scope) (x0 x1 x2 : Str) : Prop where
  kind : scope.kind = .function
  n0 : scope.names.lookup x0 = some .local
  n1 : scope.names.lookup x1 = some .local
  n2 : scope.names.lookup x2 = some .local
  d0 : (x0 == ("__debug__" : Str)) = false
  d1 : (x1 == ("__debug__" : Str)) = false
  d2 : (x2 == ("__debug__" : Str)) = false
  e01 : x1 ≠ x0
  e02 : x2 ≠ x0
  e12 : x2 ≠ x1
section
variable {prog : Program} {w : World} {A : Around} {R : Result → Shared → Prop} {E : Value → Shared → Prop} {s : Shared} {env : Env} {scope : Scope} {cl : List (Str × Addr)} {C D I : Addr} {m : Str → Option Value} {ys : List Value} {x0 x1 x2 : Str} {pa pb pc pd pe p0 p1 p2 q0 q1 q2 pos : Pos} {k0 k1 k2 : Nat} {St : Nat → Heap → Prop}
theorem kindC (hk : scope.kind = .function) : (compEnvC scope cl C env).scope.kind = .function := by simp [compEnvC, relabel, hk]
theorem classC (hk : scope.kind = .function) : ((compEnvC scope cl C env).scope.kind == .class || ((compEnvC scope cl C env).scope.kind == .module && (compEnvC scope cl C env).locals != (compEnvC scope cl C env).globals)) = false := by rw [kindC hk]; rfl
theorem sg_len (i : Nat) : (sg i).length = 1 := rfl
theorem lvl2 (H : Shape3 scope x0 x1 x2) {i j : Nat} {t0 t1 : Tok} (W : Walks prog w A I [I] [I] 2 (SignAt EO) St) (hst : St 0 s.heap) (hn : s.heap.Ns C m) (hD : s.heap.get? D = some (LCg.lst ys)) (hIC : I ≠ C) (hID : I ≠ D) (hCD : C ≠ D)
    (v0 : m x0 = some (.str (sg i) t0)) (v1 : m x1 = some (.str (sg j) t1)) (hy : ys.length ≤ 60)
    (hR : ∀ s', Eff (fun b => b = C ∨ b = D ∨ b = I) C D [x1, x0] s m ys (out1 i j) s' → R (.ok .next) s') :
    codeAny (model prog w) A (.compLoop (.ListComp (elt3 x0 x1 x2 pa pb pc pd pe) (gens3 x0 x1 x2 p0 p1 p2 q0 q1 q2 k0 k1 k2) scope pos) 2 (.ref I) (.ref D) (compEnvC scope cl C env)) R s := by
  refine loop_eff (fun k => [sg i ++ sg j ++ sg k]) (px := p2) (q := q2) (xd := x2) (vars := [x1, x0]) (turnCode := eval (elt3 x0 x1 x2 pa pb pc pd pe) (compEnvC scope cl C env) >>= fun x => call (.builtin "list.append") [.ref D, x] >>= fun _ => pure ()) rfl W (lookup_relabel_local H.n2) (classC H.kind) rfl hst hn hD hIC hID hCD
    (by simp [H.e02, H.e12]) (fun k v s₁ m₁ ys₁ E' hk hv hn₁ hv₁ hvars hD₁ hys => ?_) hR
  obtain ⟨u, rfl⟩ := sign_sg hv
  obtain ⟨zs, rfl, hz⟩ := hys
  have hzl := hz.len
  have hzb : zs.length ≤ 2 := by
    rw [hzl]
    obtain rfl | rfl : k = 0 ∨ k = 1 := by omega
    · exact Nat.zero_le _
    · exact Nat.le_succ _
  exact emit_eff hn₁ hD₁ hCD ((hvars x0 (.tail _ (.head _))).trans v0) ((hvars x1 (.head _)).trans v1) hv₁ (kindC H.kind) (lookup_relabel_local H.n0) (lookup_relabel_local H.n1) (lookup_relabel_local H.n2) H.d0 H.d1 H.d2 (sg_len _) (sg_len _) (sg_len _)
    (by rw [List.length_append]; omega)
theorem lvl1 (H : Shape3 scope x0 x1 x2) {i : Nat} {t0 : Tok} (hh : A.handled = none) (W : Walks prog w A I [I] [I] 2 (SignAt EO) St) (hst : St 0 s.heap) (hn : s.heap.Ns C m) (hD : s.heap.get? D = some (LCg.lst ys)) (hIC : I ≠ C) (hID : I ≠ D) (hCD : C ≠ D)
    (v0 : m x0 = some (.str (sg i) t0)) (hy : ys.length ≤ 40)
    (hR : ∀ s', Eff (fun b => b = C ∨ b = D ∨ b = I) C D [x0] s m ys (out0 i) s' → R (.ok .next) s') :
    codeAny (model prog w) A (.compLoop (.ListComp (elt3 x0 x1 x2 pa pb pc pd pe) (gens3 x0 x1 x2 p0 p1 p2 q0 q1 q2 k0 k1 k2) scope pos) 1 (.ref I) (.ref D) (compEnvC scope cl C env)) R s := by
  refine loop_eff (out1 i) (px := p1) (q := q1) (xd := x1) (vars := [x0]) (turnCode := eval (.Constant (.str EO) k2 q2) (compEnvC scope cl C env) >>= fun x => standAt q2 >>= fun _ => foldedSetIterable (.Constant (.str EO) k2 q2) (compEnvC scope cl C env) x >>= fun x => holding [x] (pyIter x) >>= fun it => runOwn (.compStart (.ListComp (elt3 x0 x1 x2 pa pb pc pd pe) (gens3 x0 x1 x2 p0 p1 p2 q0 q1 q2 k0 k1 k2) scope pos) 2 it (.ref D) (compEnvC scope cl C env)) (compEnvC scope cl C env) >>= fun _ => (pure () : Sem Unit))
    (by simp only [bind_assoc, pure_bind]; rfl) W (lookup_relabel_local H.n1) (classC H.kind) rfl hst hn hD hIC hID hCD (by simp [H.e01]) (fun j v s₁ m₁ ys₁ E' hk hv hn₁ hv₁ hvars hD₁ hys => ?_) hR
  obtain ⟨u, rfl⟩ := sign_sg hv
  obtain ⟨zs, rfl, hz⟩ := hys
  have hzl := hz.len
  have hzb : zs.length ≤ 2 := by
    rw [hzl]
    obtain rfl | rfl : j = 0 ∨ j = 1 := by omega
    · exact Nat.zero_le _
    · exact Nat.le_refl _
  refine into_eff rfl hh fun o St' W' st' => ?_
  refine lvl2 H W' st' (hn₁.push o) (Heap.get?_push_of_some _ hD₁) (Nat.ne_of_gt hn₁.lt) (Nat.ne_of_gt (Heap.lt_size hD₁)) hCD ((hvars x0 (.head _)).trans v0) hv₁ (by rw [List.length_append]; omega) fun s' he => ?_
  exact he.unpush
theorem lvl0 (H : Shape3 scope x0 x1 x2) (hh : A.handled = none) (W : Walks prog w A I [I] [I] 2 (SignAt EO) St) (hst : St 0 s.heap) (hn : s.heap.Ns C m) (hD : s.heap.get? D = some (LCg.lst [])) (hIC : I ≠ C) (hID : I ≠ D) (hCD : C ≠ D)
    (hR : ∀ s', Eff (fun b => b = C ∨ b = D ∨ b = I) C D [] s m [] ((List.range 2).flatMap out0) s' → R (.ok .next) s') :
    codeAny (model prog w) A (.compLoop (.ListComp (elt3 x0 x1 x2 pa pb pc pd pe) (gens3 x0 x1 x2 p0 p1 p2 q0 q1 q2 k0 k1 k2) scope pos) 0 (.ref I) (.ref D) (compEnvC scope cl C env)) R s := by
  refine loop_eff out0 (px := p0) (q := q0) (xd := x0) (vars := []) (turnCode := eval (.Constant (.str EO) k1 q1) (compEnvC scope cl C env) >>= fun x => standAt q1 >>= fun _ => foldedSetIterable (.Constant (.str EO) k1 q1) (compEnvC scope cl C env) x >>= fun x => holding [x] (pyIter x) >>= fun it => runOwn (.compStart (.ListComp (elt3 x0 x1 x2 pa pb pc pd pe) (gens3 x0 x1 x2 p0 p1 p2 q0 q1 q2 k0 k1 k2) scope pos) 1 it (.ref D) (compEnvC scope cl C env)) (compEnvC scope cl C env) >>= fun _ => (pure () : Sem Unit))
    (by simp only [bind_assoc, pure_bind]; rfl) W (lookup_relabel_local H.n0) (classC H.kind) rfl hst hn hD hIC hID hCD (by simp) (fun i v s₁ m₁ ys₁ E' hk hv hn₁ hv₁ hvars hD₁ hys => ?_) hR
  obtain ⟨u, rfl⟩ := sign_sg hv
  obtain ⟨zs, e0, hz⟩ := hys
  have hzl := hz.len
  have hzb : ys₁.length ≤ 4 := by
    rw [e0, List.nil_append, hzl]
    obtain rfl | rfl : i = 0 ∨ i = 1 := by omega
    · exact Nat.zero_le _
    · exact Nat.le_refl _
  refine into_eff rfl hh fun o St' W' st' => ?_
  refine lvl1 H hh W' st' (hn₁.push o) (Heap.get?_push_of_some _ hD₁) (Nat.ne_of_gt hn₁.lt) (Nat.ne_of_gt (Heap.lt_size hD₁)) hCD hv₁ (by omega) fun s' he => ?_
  exact he.unpush
theorem comp3 {h₀ : Heap} {L : Addr} {mf : Str → Option Value} {news : List (Addr × Obj)} {Q : Value → Shared → Prop} (F : Fr h₀ L s.heap mf) (N : News h₀ L s.heap news) (hh : A.handled = none) (H : Shape3 scope x0 x1 x2)
    (hclos : closureFor scope env = pure cl) (hcell : ∀ y ∈ scope.names, y.2 ≠ .cell) (hnames : ∀ y ∈ scope.names, y.2 = .local → scope.names.lookup y.1 = some .local)
    (h : ∀ D zs h' tk, Fr h₀ L h' mf → News h₀ L h' ((D, LCg.lst zs) :: news) → AllLt D news → Strs zs ((List.range 2).flatMap out0) → Q (.ref D) { s with heap := h', toks := tk }) :
    wpAny (model prog w) A (eval (.ListComp (elt3 x0 x1 x2 pa pb pc pd pe) (gens3 x0 x1 x2 p0 p1 p2 q0 q1 q2 k0 k1 k2) scope pos) env) Q E s := by
  rw [eval_ListComp]
  refine wpAny_comprehension_free (use := none) rfl (fun _ => rfl) hclos H.kind hnames ?_
  show wpAny _ A (eval (.Constant (.str EO) k0 q0) env) _ _ s
  refine wpAny_Constant_str (wpAny_pyIter_str fun oI St W st => ?_)
  refine wpAny_newObj_type (wpAny_newFunctionEnv hcell (by intro y hy; simp at hy) (fun h₁ hns₁ hsb₁ => ?_) H.kind)
  dsimp only at hns₁ hsb₁ ⊢
  generalize hH1 : s.heap.push oI = H1 at hns₁ hsb₁ st ⊢
  generalize hH2 : H1.push { cls := .type "list", dict := none, data := .seq ([] : List Value).toArray } = H2 at hns₁ hsb₁ ⊢
  have z1 : H1.objs.size = s.heap.objs.size + 1 := by rw [← hH1, Heap.size_push]
  have z2 : H2.objs.size = s.heap.objs.size + 2 := by rw [← hH2, Heap.size_push, z1]
  have k1' : ∀ b o, H1.get? b = some o → h₁.get? b = some o := fun b o e => hsb₁.extBut b o (Nat.ne_of_lt (Nat.lt_of_lt_of_le (Heap.lt_size e) (by rw [z1, z2]; exact Nat.le_succ _))) (Heap.get?_push_of_some _ (hH2 ▸ Heap.get?_push_of_some _ e))
  have k0' : ∀ b o, s.heap.get? b = some o → h₁.get? b = some o := fun b o e => k1' b o (hH1 ▸ Heap.get?_push_of_some _ e)
  have hD : h₁.get? H1.objs.size = some (LCg.lst []) := hsb₁.extBut _ _ (Nat.ne_of_lt (by rw [z1, z2]; exact Nat.lt_succ_self _)) (Heap.get?_push_of_some _ (hH2 ▸ Heap.get?_push_size _ rfl))
  have W' := W A hh
  have st₁ : St 0 h₁ := W'.frame _ _ _ st fun b hb o e => k1' b o e
  have hCD : H2.objs.size ≠ H1.objs.size := by rw [z1, z2]; exact Nat.succ_ne_self _
  have hIC : s.heap.objs.size ≠ H2.objs.size := by rw [z2]; exact Nat.ne_of_lt (Nat.lt_succ_of_lt (Nat.lt_succ_self _))
  have hID : s.heap.objs.size ≠ H1.objs.size := by rw [z1]; exact Nat.ne_of_lt (Nat.lt_succ_self _)
  have fresh : ∀ b, s.heap.objs.size ≤ b → h₀.get? b = none := fun b hb => Heap.get?_none_of_le (Nat.le_trans F.above (Nat.le_trans (Nat.le_of_lt F.ns.lt) hb))
  refine start_eff (d := 0) rfl ?_ (W'.self 0 _ _ _ st₁ ?_) <;>
  · refine lvl0 H hh W' st₁ hns₁ hD hIC hID hCD fun s' he => ?_
    obtain ⟨h', tk', m', zs, rfl, e2, e3, e4, e5, e6⟩ := he
    refine ⟨m', e2, fun h'' hs'' => ?_⟩
    have kk : ∀ b o, s.heap.get? b = some o → h''.get? b = some o := fun b o e => by
      have hb := Heap.lt_size e
      have b1 : b ≠ H2.objs.size := by rw [z2]; exact Nat.ne_of_lt (Nat.lt_succ_of_lt (Nat.lt_succ_of_lt hb))
      have b2 : b ≠ H1.objs.size := by rw [z1]; exact Nat.ne_of_lt (Nat.lt_succ_of_lt hb)
      exact hs''.extBut _ _ b1 (e6 b o (k0' b o e) fun q => q.elim b1 fun q => q.elim b2 (Nat.ne_of_lt hb))
    have hlt : ∀ p ∈ news, p.1 < H1.objs.size := fun p hp => by rw [z1]; exact Nat.lt_succ_of_lt (Heap.lt_size (N p hp).1)
    refine h H1.objs.size zs h'' tk' (F.keeps kk) (fun p hp => ?_) (allLt_of hlt) e5
    rcases List.mem_cons.mp hp with rfl | hp
    · exact ⟨hs''.extBut _ _ hCD.symm e4, Nat.ne_of_gt (by rw [z1]; exact Nat.lt_succ_of_lt F.ns.lt), fresh _ (by rw [z1]; exact Nat.le_succ _)⟩
    · exact ⟨kk _ _ (N p hp).1, (N p hp).2⟩
end
end Mine
end
section -- C13
open PySem PySem.W PyProof.Rows PySem.Spec PySem.Calls
set_option maxRecDepth 100000
set_option maxHeartbeats 2000000
namespace Mine
theorem strs_cons {x : Str} {l : List Str} {zs : List Value} (h : Strs zs (x :: l)) : ∃ t zs', zs = .str x t :: zs' ∧ Strs zs' l := by
  cases zs with
  | nil => exact h.elim
  | cons v zs' =>
    cases v with
    | str y t => exact ⟨t, zs', by rw [h.1], h.2⟩
    | _ => exact h.elim
theorem strs_nil {zs : List Value} (h : Strs zs []) : zs = [] := by
  cases zs with
  | nil => rfl
  | cons v zs' => cases v <;> exact h.elim
theorem all_words : (List.range 2).flatMap out0 = words := by decide +kernel
section
variable {prog : Program} {w : World} {A : Around} {E : Value → Shared → Prop} {s : Shared} {env : Env} {scope : Scope} {cl : List (Str × Addr)} {x0 x1 x2 : Str} {pa pb pc pd pe p0 p1 p2 q0 q1 q2 pos : Pos} {k0 k1 k2 : Nat}
theorem comp3w {h₀ : Heap} {L : Addr} {mf : Str → Option Value} {news : List (Addr × Obj)} {Q : Value → Shared → Prop} (F : Fr h₀ L s.heap mf) (N : News h₀ L s.heap news) (hh : A.handled = none) (H : Shape3 scope x0 x1 x2)
    (hclos : closureFor scope env = pure cl) (hcell : ∀ y ∈ scope.names, y.2 ≠ .cell) (hnames : ∀ y ∈ scope.names, y.2 = .local → scope.names.lookup y.1 = some .local)
    (h : ∀ D t0 t1 t2 t3 t4 t5 t6 t7 h' tk, Fr h₀ L h' mf → News h₀ L h' ((D, LCg.lst [.str (Str.ofString "eee") t0, .str (Str.ofString "eeo") t1, .str (Str.ofString "eoe") t2, .str (Str.ofString "eoo") t3, .str (Str.ofString "oee") t4, .str (Str.ofString "oeo") t5, .str (Str.ofString "ooe") t6, .str (Str.ofString "ooo") t7]) :: news) → AllLt D news → Q (.ref D) { s with heap := h', toks := tk }) :
    wpAny (model prog w) A (eval (.ListComp (elt3 x0 x1 x2 pa pb pc pd pe) (gens3 x0 x1 x2 p0 p1 p2 q0 q1 q2 k0 k1 k2) scope pos) env) Q E s := by
  refine comp3 F N hh H hclos hcell hnames fun D zs h' tk F' N' l hz => ?_
  rw [all_words] at hz
  unfold words at hz
  obtain ⟨t0, z0, rfl, hz1⟩ := strs_cons hz
  obtain ⟨t1, z1, rfl, hz2⟩ := strs_cons hz1
  obtain ⟨t2, z2, rfl, hz3⟩ := strs_cons hz2
  obtain ⟨t3, z3, rfl, hz4⟩ := strs_cons hz3
  obtain ⟨t4, z4, rfl, hz5⟩ := strs_cons hz4
  obtain ⟨t5, z5, rfl, hz6⟩ := strs_cons hz5
  obtain ⟨t6, z6, rfl, hz7⟩ := strs_cons hz6
  obtain ⟨t7, z7, rfl, hz8⟩ := strs_cons hz7
  obtain rfl := strs_nil hz8
  exact h D _ _ _ _ _ _ _ _ h' tk F' N' l
end
end Mine
end
section -- C14
open PySem PySem.W PyProof.Rows PySem.Spec PySem.Calls
set_option maxRecDepth 100000
set_option maxHeartbeats 2000000
namespace Mine
def TurnEnd (h₀ : Heap) (L : Addr) (I ax : Addr) (oI lo : Obj) (J : (Str → Option Value) → List (Addr × Obj) → Prop) (s₁ s₂ : Shared) : Prop :=
  ∃ h' tk m' news', s₂ = { s₁ with heap := h', toks := tk } ∧ Fr h₀ L h' m' ∧ News h₀ L h' ((I, oI) :: news') ∧ (∀ p ∈ news', p.1 ≠ I) ∧ (ax, lo) ∈ news' ∧ J m' news'
def TurnPost (h₀ : Heap) (L : Addr) (I ax : Addr) (oI lo : Obj) (J : (Str → Option Value) → List (Addr × Obj) → Prop) (s₁ : Shared) (Q : Flow → Shared → Prop) (f : Flow) (s₂ : Shared) : Prop :=
  match f with
  | .ret v => Q (.ret v) s₂
  | .brk => Q .next s₂
  | _ => TurnEnd h₀ L I ax oI lo J s₁ s₂
section
variable {prog : Program} {w : World} {A : Around} {E : Value → Shared → Prop} {s : Shared} {env : Env} {h₀ : Heap} {target : PySem.Expr} {body : List Stmt} {Q : Flow → Shared → Prop}
theorem items_rest {I ax : Addr} {lo : Obj} {vs : List Value} (J : Nat → (Str → Option Value) → List (Addr × Obj) → Prop)
    (turn : ∀ i v m₁ news₁ h tk oI, vs[i]? = some v → J i m₁ news₁ → (∀ p ∈ news₁, p.1 ≠ I) → (ax, lo) ∈ news₁ → Fr h₀ env.locals h m₁ → News h₀ env.locals h ((I, oI) :: news₁) →
      wpAny (model prog w) A (assign target env v) (fun _ s₂ => wpAny (model prog w) A (execs body env) (TurnPost h₀ env.locals I ax oI lo (J (i + 1)) { s with heap := h, toks := tk } Q) E s₂) E { s with heap := h, toks := tk })
    (done : ∀ m₁ news₁ h tk, J vs.length m₁ news₁ → Fr h₀ env.locals h m₁ → News h₀ env.locals h news₁ → Q .next { s with heap := h, toks := tk }) :
    ∀ (xs : List Value) i m news, vs.drop i = xs → i ≤ vs.length → J i m news → (∀ p ∈ news, p.1 ≠ I) → (ax, lo) ∈ news → ItemsRest prog w A E h₀ env target body Q s [(I, "list_iterator")] [(ax, lo)] (xs.map .val) m news
  | [], i, m, news, hx, hi, hj, _, _ => by
    have hl : vs.length ≤ i := by simpa using hx
    obtain rfl : i = vs.length := Nat.le_antisymm hi hl
    exact ItemsRest.zero fun h tk F N => done m news h tk hj F N
  | v :: xs, i, m, news, hx, hi, hj, ho, hm => by
    have hv : vs[i]? = some v := by
      have := congrArg (fun l => l[0]?) hx
      simpa using this
    have hlt : i < vs.length := (List.getElem?_eq_some_iff.mp hv).1
    have hx' : vs.drop (i + 1) = xs := by
      have := congrArg List.tail hx
      simpa [List.tail_drop] using this
    refine ItemsRest.val fun h tk F => AllObj.cons fun o _ => AllObj.nil fun N => ?_
    refine wpAny_mono (turn i v m news h tk o hv hj ho hm F N) (fun _ s₂ h₂ => wpAny_mono h₂ (fun f s₃ hp => ?_) fun _ _ e => e) fun _ _ e => e
    have fin : TurnEnd h₀ env.locals I ax o lo (J (i + 1)) { s with heap := h, toks := tk } s₃ →
        UnrEndW h₀ env.locals { s with heap := h, toks := tk } [(I, o)] (fun m' n' => SubL [(ax, lo)] n' ∧ ItemsRest prog w A E h₀ env target body Q s [(I, "list_iterator")] [(ax, lo)] (xs.map .val) m' n') s₃ := by
      rintro ⟨h', tk', m', news', rfl, F', N', ho', hm', hj'⟩
      exact ⟨h', tk', m', news', rfl, F', N', fun p hp q hq => by rw [List.mem_singleton.mp hq]; exact ho' p hp, ⟨hm', trivial⟩, items_rest J turn done xs (i + 1) m' news' hx' hlt hj' ho' hm'⟩
    cases f with
    | ret v => exact hp
    | brk => exact hp
    | next => exact fin hp
    | cont => exact fin hp
theorem list_turns {ax : Addr} {vs : List Value} {n : Nat} {m₀ : Str → Option Value} {news : List (Addr × Obj)} (J : Nat → (Str → Option Value) → List (Addr × Obj) → Prop)
    (hh : A.handled = none) (F : Fr h₀ env.locals s.heap m₀) (N : News h₀ env.locals s.heap news) (hm : (ax, listOf vs.toArray n) ∈ news) (hj : J 0 m₀ news)
    (turn : ∀ I i v m₁ news₁ h tk oI, (∀ p ∈ news, p.1 < I) → vs[i]? = some v → J i m₁ news₁ → (∀ p ∈ news₁, p.1 ≠ I) → (ax, listOf vs.toArray n) ∈ news₁ → Fr h₀ env.locals h m₁ → News h₀ env.locals h ((I, oI) :: news₁) →
      wpAny (model prog w) A (assign target env v) (fun _ s₂ => wpAny (model prog w) A (execs body env) (TurnPost h₀ env.locals I ax oI (listOf vs.toArray n) (J (i + 1)) { s with heap := h, toks := tk } Q) E s₂) E { s with heap := h, toks := tk })
    (done : ∀ m₁ news₁ h tk, J vs.length m₁ news₁ → Fr h₀ env.locals h m₁ → News h₀ env.locals h news₁ → Q .next { s with heap := h, toks := tk }) :
    wpAny (model prog w) A (pyIter (.ref ax)) (fun it s₂ => TurnsAt prog w A h₀ env target body Q E it s₂) E s :=
  iter_listTurns hh F N hm rfl rfl fun I hI => items_rest J (fun i v m₁ news₁ h tk oI => turn I i v m₁ news₁ h tk oI hI) done vs 0 m₀ news rfl (Nat.zero_le _) hj (fun p hp => Nat.ne_of_lt (hI p hp)) hm
def rvars (m mm : Str → Option Value) : Str → Option Value := fun y =>
  if y = Str.ofString "weight" then mm y else if y = Str.ofString "power" then mm y else if y = Str.ofString "last" then mm y else if y = Str.ofString "number" then mm y else if y = Str.ofString "name" then mm y else m y
theorem rvars_eq {m₀ m : Str → Option Value} (h : ∀ z, z ≠ Str.ofString "weight" → z ≠ Str.ofString "power" → z ≠ Str.ofString "last" → z ≠ Str.ofString "number" → z ≠ Str.ofString "name" → m z = m₀ z) : m = rvars m₀ m := by
  funext y
  unfold rvars
  split
  · rfl
  split
  · rfl
  split
  · rfl
  split
  · rfl
  split
  · rfl
  rename_i a b c d e
  exact h y a b c d e
theorem rvars_back {m₀ mm : Str → Option Value} {v1 v2 v3 v4 v5 : Option Value} :
    (fun y => if y = Str.ofString "weight" then v1 else if y = Str.ofString "power" then v2 else if y = Str.ofString "last" then v3 else if y = Str.ofString "number" then v4 else if y = Str.ofString "name" then v5 else rvars m₀ mm y) =
      rvars m₀ (fun y => if y = Str.ofString "weight" then v1 else if y = Str.ofString "power" then v2 else if y = Str.ofString "last" then v3 else if y = Str.ofString "number" then v4 else if y = Str.ofString "name" then v5 else rvars m₀ mm y) :=
  rvars_eq fun z h1 h2 h3 h4 h5 => by
    unfold rvars
    rw [if_neg h1, if_neg h2, if_neg h3, if_neg h4, if_neg h5, if_neg h1, if_neg h2, if_neg h3, if_neg h4, if_neg h5]
theorem rows_start {L : Addr} {h : Heap} {all pre rest : List (Addr × Obj)} {ps : Array Value} {sh A0 A1 A2 A3 A4 A5 A6 A7 : Addr} {w0 w1 w2 w3 w4 w5 w6 w7 : Str} {es : Ents} (N : News h₀ L h all) (hes : es = [(A0, w0), (A1, w1), (A2, w2), (A3, w3), (A4, w4), (A5, w5), (A6, w6), (A7, w7)])
    (h1 : (130, tabObj ps) ∈ all) (h2 : (sh, listOf #[.ref A0, .ref A1, .ref A2, .ref A3, .ref A4, .ref A5, .ref A6, .ref A7] 8) ∈ all) (h3 : all = pre ++ rest) : News h₀ L h ((130, tabObj ps) :: (sh, listOf (refs es).toArray 8) :: rest) := by
  subst hes
  intro p hp
  rcases List.mem_cons.mp hp with rfl | hp
  · exact N _ h1
  rcases List.mem_cons.mp hp with rfl | hp
  · exact N _ h2
  · exact N _ (h3 ▸ List.mem_append_right _ hp)
theorem end_le {i j : Int} (h : Four i j) : ∀ n < 8, endN n i.toNat j.toNat ≤ 1000 := by
  rcases h with ⟨rfl, rfl⟩ | ⟨rfl, rfl⟩ | ⟨rfl, rfl⟩ | ⟨rfl, rfl⟩ <;> exact all_below (by decide +kernel)
theorem four_abs {i j : Int} (h : Four i j) : i.natAbs < 2 ^ 64 := by rcases h.i with rfl | rfl | rfl <;> decide
theorem mul_j {i j x : Int} (h : Four i j) : IntMulOk j x := IntMulOk.of_left (by rcases h.j with rfl | rfl | rfl <;> decide)
theorem mul_pr {i j x : Int} {k : Nat} (h : Four i j) (hk : k ≤ 3) : IntMulOk x (i ^ k) := IntMulOk.of_right (by
  obtain rfl | rfl | rfl | rfl : k = 0 ∨ k = 1 ∨ k = 2 ∨ k = 3 := by omega
  all_goals rcases h.i with rfl | rfl | rfl <;> decide)
theorem mul_pl {i j x : Int} {k : Nat} (h : Four i j) (hk : k ≤ 3) : IntMulOk (i ^ k) x := IntMulOk.of_left (by
  obtain rfl | rfl | rfl | rfl : k = 0 ∨ k = 1 ∨ k = 2 ∨ k = 3 := by omega
  all_goals rcases h.i with rfl | rfl | rfl <;> decide)
def RowOK (i j : Int) (x : Str) (n e : Nat) : Prop := (n : Int) = ((-(j * wtF x i)) * i ^ cntO x).fmod 8 ∧ (e : Int) = ((i ^ cntO x) * n + j * wtF x i).fdiv 8 ∧ e ≤ 1000
/-- the loop over the shelf: the ledger stays, the names name, number, last, power, weight change. -/
theorem rows_turns {i j : Int} {sh : Addr} {qual : Str} {d : Addr} {ys : List Value} {ps : Array Value} {es : Ents} {rest : List (Addr × Obj)} {m₀ : Str → Option Value} (hij : Four i j) (hs : ShF i j qual sh (d, LCg.lst ys) 8 ps es rest)
    (hh : A.handled = none) (F : Fr h₀ env.locals s.heap m₀) (N : News h₀ env.locals s.heap ((130, tabObj ps) :: (sh, listOf (refs es).toArray 8) :: rest))
    (turn : ∀ I T x n e t1 t2 t3 mm h tk oI, n < 8 → x ∈ words → RowOK i j x n e → (∀ p ∈ ((130, tabObj ps) :: (sh, listOf (refs es).toArray 8) :: rest), p.1 ≠ I) → Fr h₀ env.locals h (rvars m₀ mm) →
      News h₀ env.locals h ((T, rowObj x n e t1 t2 t3) :: (I, oI) :: (130, tabObj ps) :: (sh, listOf (refs es).toArray 8) :: rest) →
      wpAny (model prog w) A (assign target env (.ref T)) (fun _ s₂ => wpAny (model prog w) A (execs body env) (TurnPost h₀ env.locals I sh oI (listOf (refs es).toArray 8) (fun m' news' => news' = (130, tabObj ps) :: (sh, listOf (refs es).toArray 8) :: rest ∧ m' = rvars m₀ m') { s with heap := h, toks := tk } Q) E s₂) E { s with heap := h, toks := tk })
    (done : ∀ mm h tk, Fr h₀ env.locals h (rvars m₀ mm) → News h₀ env.locals h ((130, tabObj ps) :: (sh, listOf (refs es).toArray 8) :: rest) → Q .next { s with heap := h, toks := tk }) :
    wpAny (model prog w) A (pyIter (.ref sh)) (fun it s₂ => TurnsAt prog w A h₀ env target body Q E it s₂) E s := by
  refine list_turns (vs := refs es) (fun _ m' news' => news' = (130, tabObj ps) :: (sh, listOf (refs es).toArray 8) :: rest ∧ m' = rvars m₀ m') hh F N (.tail _ (.head _)) ⟨rfl, rvars_eq fun _ _ _ _ _ _ => rfl⟩ ?_ ?_
  · rintro I k v m₁ news₁ h tk oI hI hv ⟨rfl, hm⟩ ho hmem F₁ N₁
    have hv' : ∃ e ∈ es, v = .ref e.1 := by
      unfold refs at hv
      rw [List.getElem?_map] at hv
      cases he : es[k]? with
      | none => rw [he] at hv; cases hv
      | some e =>
        rw [he] at hv
        exact ⟨e, List.mem_of_getElem? he, (Option.some.inj hv).symm⟩
    obtain ⟨e, he, rfl⟩ := hv'
    obtain ⟨n, t1, t2, t3, hn, hx, hm'⟩ := hs.2.1 e he
    rw [hm] at F₁
    exact turn I e.1 e.2 n (endN n i.toNat j.toNat) t1 t2 t3 m₁ h tk oI hn (hx ▸ word_mem hij n hn) (by rw [hx]; exact ⟨row_number hij n hn, row_end hij n hn, end_le hij n hn⟩) ho F₁ fun p hp => by
      rcases List.mem_cons.mp hp with rfl | hp
      · exact N₁ _ (.tail _ (.tail _ (.tail _ hm')))
      · exact N₁ _ hp
  · rintro m₁ news₁ h tk ⟨rfl, hm⟩ F₁ N₁
    rw [hm] at F₁
    exact done m₁ h tk F₁ N₁
end
end Mine
end
section -- C15
open PySem PySem.W PyProof.Rows PySem.Spec PySem.Calls
set_option maxRecDepth 100000
set_option maxHeartbeats 2000000
namespace Mine
section
variable {prog : Program} {w : World} {A : Around} {E : Value → Shared → Prop} {s : Shared} {i j wt : Int} {x : Str} {n e k : Nat} {t u : Tok} {Q : Value → Shared → Prop}
theorem row_ne (h : RowOK i j x n e) (hw : WtIs x i wt) (hc : k = cntO x) (hq : Q (.bool false) s) : wpAny (model prog w) A (compareOp .NotEq (.int (0 + (n : Int)) t) (.int (((-(j * wt)) * i ^ k).fmod 8) u)) Q E s := by
  have hv : ((-(j * wt)) * i ^ k).fmod 8 = (n : Int) := by rw [hc, show wt = wtF x i from hw]; exact h.1.symm
  refine PySem.P.ne_int ?_
  rw [hv, Int.zero_add, bne_self_eq_false]
  exact hq
theorem row_mul (h : RowOK i j x n e) (hw : WtIs x i wt) (hc : k = cntO x) (hq : ∀ t' tk, Q (.str (dots e) t') { s with toks := tk }) : wpAny (model prog w) A (binaryOp .Mult (.str (Str.ofString ".") t) (.int ((i ^ k * (0 + (n : Int)) + j * wt).fdiv 8) u)) Q E s := by
  have hv : (i ^ k * (0 + (n : Int)) + j * wt).fdiv 8 = (e : Int) := by rw [hc, show wt = wtF x i from hw, Int.zero_add]; exact h.2.1.symm
  rw [hv]
  exact mul_rule1 (by omega) (by have := h.2.2; omega) fun t' tk => by simpa using hq t' tk
theorem str_same {x : Str} (hq : Q (.bool false) s) : wpAny (model prog w) A (compareOp .NotEq (.str x t) (.str x u)) Q E s := by
  refine PySem.P.ne_str ?_
  rw [bne_self_eq_false]
  exact hq
theorem rows_end {h₀ h' : Heap} {L I T sh : Addr} {oI ro lo : Obj} {m₀ m' : Str → Option Value} {ps : Array Value} {rest : List (Addr × Obj)} {s₁ : Shared} {tk : Nat} (F : Fr h₀ L h' m') (N : News h₀ L h' ((T, ro) :: (I, oI) :: (130, tabObj ps) :: (sh, lo) :: rest)) (ho : ∀ p ∈ ((130, tabObj ps) :: (sh, lo) :: rest), p.1 ≠ I) (hm : m' = rvars m₀ m') :
    TurnEnd h₀ L I sh oI lo (fun m' news' => news' = (130, tabObj ps) :: (sh, lo) :: rest ∧ m' = rvars m₀ m') s₁ { s₁ with heap := h', toks := tk } :=
  ⟨h', tk, m', _, rfl, F, (fun p hp => N p (.tail _ hp)), ho, .tail _ (.head _), rfl, hm⟩
theorem news_draws {h₀ h : Heap} {L sh d : Addr} {qual : Str} {ys : List Value} {ps : Array Value} {es : Ents} {rest : List (Addr × Obj)} (hs : ShF i j qual sh (d, LCg.lst ys) 8 ps es rest) (N : News h₀ L h ((130, tabObj ps) :: (sh, listOf (refs es).toArray 8) :: rest)) :
    News h₀ L h ((d, LCg.lst ys) :: (130, tabObj ps) :: (sh, listOf (refs es).toArray 8) :: rest) := fun p hp => by
  rcases List.mem_cons.mp hp with rfl | hp
  · exact N _ (.tail _ (.tail _ hs.2.2.2.2.2))
  · exact N _ hp
end
end Mine
end
section -- C16
open PySem PySem.W PyProof.Rows PySem.Spec PySem.Calls
set_option maxRecDepth 100000
set_option maxHeartbeats 2000000
namespace Mine
def dvars (m mm : Str → Option Value) : Str → Option Value := fun y =>
  if y = Str.ofString "found" then mm y else if y = Str.ofString "high" then mm y else if y = Str.ofString "low" then mm y else if y = Str.ofString "end" then mm y else if y = Str.ofString "path" then mm y else if y = Str.ofString "many" then mm y else if y = Str.ofString "drawn" then mm y else m y
theorem dvars_eq {m₀ m : Str → Option Value} (h : ∀ z, z ≠ Str.ofString "found" → z ≠ Str.ofString "high" → z ≠ Str.ofString "low" → z ≠ Str.ofString "end" → z ≠ Str.ofString "path" → z ≠ Str.ofString "many" → z ≠ Str.ofString "drawn" → m z = m₀ z) : m = dvars m₀ m := by
  funext y
  unfold dvars
  split
  · rfl
  split
  · rfl
  split
  · rfl
  split
  · rfl
  split
  · rfl
  split
  · rfl
  split
  · rfl
  rename_i a b c d e f g
  exact h y a b c d e f g
theorem dvars_back {m₀ mm : Str → Option Value} {v1 v2 v3 v4 v5 v6 v7 : Option Value} :
    (fun y => if y = Str.ofString "found" then v1 else if y = Str.ofString "high" then v2 else if y = Str.ofString "low" then v3 else if y = Str.ofString "end" then v4 else if y = Str.ofString "path" then v5 else if y = Str.ofString "many" then v6 else if y = Str.ofString "drawn" then v7 else dvars m₀ mm y) =
      dvars m₀ (fun y => if y = Str.ofString "found" then v1 else if y = Str.ofString "high" then v2 else if y = Str.ofString "low" then v3 else if y = Str.ofString "end" then v4 else if y = Str.ofString "path" then v5 else if y = Str.ofString "many" then v6 else if y = Str.ofString "drawn" then v7 else dvars m₀ mm y) :=
  dvars_eq fun z h1 h2 h3 h4 h5 h6 h7 => by
    unfold dvars
    rw [if_neg h1, if_neg h2, if_neg h3, if_neg h4, if_neg h5, if_neg h6, if_neg h7, if_neg h1, if_neg h2, if_neg h3, if_neg h4, if_neg h5, if_neg h6, if_neg h7]
def DInv (i j : Int) (qual : Str) (sh : Addr) (dr : Addr × Obj) (m₀ m' : Str → Option Value) (news' : List (Addr × Obj)) : Prop :=
  ∃ ps es rest, news' = (130, tabObj ps) :: (sh, listOf (refs es).toArray 8) :: rest ∧ ShF i j qual sh dr 8 ps es rest ∧ m' = dvars m₀ m'
theorem ShF.grow {i j : Int} {qual : Str} {sh : Addr} {dr dr' : Addr × Obj} {k : Nat} {ps ps' : Array Value} {es : Ents} {rest rest' : List (Addr × Obj)} (hs : ShF i j qual sh dr k ps es rest) (hok : TabOk qual ps' rest') (sub : ∀ p ∈ rest, p ∈ rest') (h1 : ∀ p ∈ rest', p.1 ≠ 130) (h2 : ∀ p ∈ rest', p.1 ≠ sh) (hd : dr' ∈ rest') : ShF i j qual sh dr' k ps' es rest' :=
  ⟨hok, fun e he => (hs.2.1 e he).mono sub, hs.2.2.1, h1, h2, hd⟩
section
variable {prog : Program} {w : World} {A : Around} {E : Value → Shared → Prop} {s : Shared} {env : Env} {h₀ : Heap} {target : PySem.Expr} {body : List Stmt} {Q : Flow → Shared → Prop}
theorem draws_turns {i j : Int} {sh D D1 D2 d : Addr} {o1 o2 : Obj} {qual : Str} {ys ws : List Value} {ks : List Int} {ps : Array Value} {es : Ents} {rest : List (Addr × Obj)} {m₀ : Str → Option Value} (_hij : Four i j) (hs : ShF i j qual sh (d, LCg.lst ys) 8 ps es rest) (hI : IntsAre ws ks)
    (hh : A.handled = none) (F : Fr h₀ env.locals s.heap m₀) (N : News h₀ env.locals s.heap ((D, listOf ws.toArray 0) :: (D1, o1) :: (D2, o2) :: (d, LCg.lst ys) :: (130, tabObj ps) :: (sh, listOf (refs es).toArray 8) :: rest)) (l1 : 130 < D) (l2 : sh < D)
    (turn : ∀ I v t ps es rest mm h tk oI, ShF i j qual sh (D, listOf ws.toArray 0) 8 ps es rest → (∀ p ∈ rest, p.1 ≠ I) → 130 < I → sh < I → Fr h₀ env.locals h (dvars m₀ mm) → News h₀ env.locals h ((I, oI) :: (130, tabObj ps) :: (sh, listOf (refs es).toArray 8) :: rest) →
      wpAny (model prog w) A (assign target env (.int v t)) (fun _ s₂ => wpAny (model prog w) A (execs body env) (TurnPost h₀ env.locals I D oI (listOf ws.toArray 0) (DInv i j qual sh (D, listOf ws.toArray 0) m₀) { s with heap := h, toks := tk } Q) E s₂) E { s with heap := h, toks := tk })
    (done : ∀ mm ps h tk, Fr h₀ env.locals h (dvars m₀ mm) → News h₀ env.locals h [(130, tabObj ps)] → Q .next { s with heap := h, toks := tk }) :
    wpAny (model prog w) A (pyIter (.ref D)) (fun it s₂ => TurnsAt prog w A h₀ env target body Q E it s₂) E s := by
  have N' : News h₀ env.locals s.heap ((130, tabObj ps) :: (sh, listOf (refs es).toArray 8) :: (D, listOf ws.toArray 0) :: rest) := fun p hp => by
    simp only [List.mem_cons] at hp
    rcases hp with hp | hp | hp | hp
    · exact N _ (.tail _ (.tail _ (.tail _ (.tail _ (hp ▸ .head _)))))
    · exact N _ (.tail _ (.tail _ (.tail _ (.tail _ (.tail _ (hp ▸ .head _))))))
    · exact N _ (hp ▸ .head _)
    · exact N _ (.tail _ (.tail _ (.tail _ (.tail _ (.tail _ (.tail _ hp))))))
  have hs' : ShF i j qual sh (D, listOf ws.toArray 0) 8 ps es ((D, listOf ws.toArray 0) :: rest) := by
    refine hs.grow (hs.1.mono fun p hp => .tail _ hp) (fun p hp => .tail _ hp) (fun p hp => ?_) (fun p hp => ?_) (.head _)
    · rcases List.mem_cons.mp hp with rfl | hp
      · exact Nat.ne_of_gt l1
      · exact hs.2.2.2.1 p hp
    · rcases List.mem_cons.mp hp with rfl | hp
      · exact Nat.ne_of_gt l2
      · exact hs.2.2.2.2.1 p hp
  refine list_turns (vs := ws) (fun _ => DInv i j qual sh (D, listOf ws.toArray 0) m₀) hh F N' (.tail _ (.tail _ (.head _))) ⟨ps, es, _, rfl, hs', dvars_eq fun _ _ _ _ _ _ _ _ => rfl⟩ ?_ ?_
  · rintro I k v m₁ news₁ h tk oI hlt hv ⟨ps1, es1, rest1, rfl, hs1, hm⟩ ho hmem F₁ N₁
    obtain ⟨x, t, rfl, _⟩ := hI.at k v hv
    rw [hm] at F₁
    exact turn I x t ps1 es1 rest1 m₁ h tk oI hs1 (fun p hp => ho p (.tail _ (.tail _ hp))) (hlt (130, tabObj ps) (.head _)) (hlt (sh, listOf (refs es).toArray 8) (.tail _ (.head _))) F₁ N₁
  · rintro m₁ news₁ h tk ⟨ps1, es1, rest1, rfl, hs1, hm⟩ F₁ N₁
    rw [hm] at F₁
    exact done m₁ ps1 h tk F₁ fun p hp => N₁ p (List.mem_singleton.mp hp ▸ .head _)
theorem draws_end {i j : Int} {sh D I : Addr} {oI lo : Obj} {qual : Str} {m₀ m' : Str → Option Value} {L : Addr} {h' : Heap} {s₁ : Shared} {tk : Nat} {all rest : List (Addr × Obj)} {ps : Array Value} {es : Ents} (F : Fr h₀ L h' m') (N : News h₀ L h' all) (hs : ShF i j qual sh (D, lo) 8 ps es rest) (ho : ∀ p ∈ rest, p.1 ≠ I) (l1 : 130 < I) (l2 : sh < I)
    (h1 : (130, tabObj ps) ∈ all) (h2 : (sh, listOf (refs es).toArray 8) ∈ all) (h3 : (I, oI) ∈ all) (h4 : ∀ p ∈ rest, p ∈ all) (hm : m' = dvars m₀ m') :
    TurnEnd h₀ L I D oI lo (DInv i j qual sh (D, lo) m₀) s₁ { s₁ with heap := h', toks := tk } := by
  refine ⟨h', tk, m', (130, tabObj ps) :: (sh, listOf (refs es).toArray 8) :: rest, rfl, F, (fun p hp => ?_), (fun p hp => ?_), .tail _ (.tail _ hs.2.2.2.2.2), ps, es, rest, rfl, hs, hm⟩
  · simp only [List.mem_cons] at hp
    rcases hp with rfl | rfl | rfl | hp
    · exact N _ h3
    · exact N _ h1
    · exact N _ h2
    · exact N _ (h4 _ hp)
  · simp only [List.mem_cons] at hp
    rcases hp with rfl | rfl | hp
    · exact Nat.ne_of_lt l1
    · exact Nat.ne_of_lt l2
    · exact ho p hp
end
section
variable {w : World} {p : Program} {loose : List Str} {mean : ExcName → Option Value} {mg mb : Str → Option Value} {dp un : Nat} {gd : Option (List Code)} {cn : Str} {cs : Scope} {a : Addr} {ccd : Value} {cl : List (Str × Addr)} {outer : List Env} {A₀ : Around} {base h₀ : Heap} {L : Addr} {m : Str → Option Value} {rest : List (Addr × Obj)} {s : Shared} {i j : Int} {qual : Str} {f D I sh : Addr} {dr : Addr × Obj} {po it : Obj} {ps : Array Value} {es : Ents} {Q E : Value → Shared → Prop}
theorem lam_make2 {prog : Program} {A : Around} {p1 p2 p3 p4 pos : Pos} {firstLine : Nat} (F : Fr h₀ L s.heap m) (Tp : Top p loose mean mg mb h₀) (C : CodeHd h₀ 132 130) (hcd : ccd = .ref 132) (hs : ShF i j qual sh dr 8 ps es rest) (ho : ∀ p ∈ rest, p.1 ≠ I)
    (N : News h₀ L s.heap ((D, po) :: (I, it) :: (130, tabObj ps) :: (sh, listOf (refs es).toArray 8) :: rest))
    (l2 : 130 < D) (l3 : 130 < I) (l4 : 130 < sh)
    (h : ∀ f ps' rest' h' tk, Fr h₀ L h' m → News h₀ L h' ((D, po) :: (I, it) :: (130, tabObj ps') :: (sh, listOf (refs es).toArray 8) :: rest') → ShF i j qual sh dr 8 ps' es rest' → (∀ p ∈ rest', p.1 ≠ I) → LamAt h' f → (AllLt D rest → AllLt D rest) → Q (.ref f) { s with heap := h', toks := tk }) :
    wpAny (model prog w) A (makeFunction "<lambda>" qual (lamParams p1) (.expr (lamBody p2 p3 p4)) lamScope (envX cn cs L a ccd cl) [] [] [] pos firstLine) Q E s :=
  lam_make F N Tp C hcd (.tail (Nat.ne_of_gt l2) (.tail (Nat.ne_of_gt l3) (.head (.cons (Nat.ne_of_gt l4) .nil)))) hs.2.2.2.1 hs.1 fun f ps' ex h' tk F' N' ok la hex =>
    h f ps' (ex ++ rest) h' tk F' N' (hs.grow ok (fun _ hp => List.mem_append_right _ hp) (fun q hq => (List.mem_append.mp hq).elim (fun hq => Nat.ne_of_gt (hex q hq _ (.tail _ (.tail _ (.head _))))) (hs.2.2.2.1 q))
      (fun q hq => (List.mem_append.mp hq).elim (fun hq => Nat.ne_of_gt (hex q hq _ (.tail _ (.tail _ (.tail _ (.head _)))))) (hs.2.2.2.2.1 q)) (List.mem_append_right _ hs.2.2.2.2.2))
      (fun q hq => (List.mem_append.mp hq).elim (fun hq => Nat.ne_of_gt (hex q hq _ (.tail _ (.head _)))) (ho q)) la id
theorem bis_use2 {x : Str} {tk : Tok} {fa : Addr} {res : Ents → Str → Nat} (C : BisTells w p loose mean mg mb fa (fun l x _ => [l, x]) res) (B : Below A₀ base outer h₀) (F : Fr h₀ L s.heap m) (X : (hd.heap_39 w.params).In h₀) (Tp : Top p loose mean mg mb h₀) (hk : cs.kind = .function)
    (N : News h₀ L s.heap ((D, po) :: (I, it) :: (130, tabObj ps) :: (sh, listOf (refs es).toArray 8) :: rest)) (hs : ShF i j qual sh dr 8 ps es rest) (hf : LamAt s.heap f) (hd : dp + 2 < recursionLimit) (hu : un + 16 < cLine)
    (h : ∀ t h' tk', Fr h₀ L h' m → News h₀ L h' ((D, po) :: (I, it) :: (130, tabObj ps) :: (sh, listOf (refs es).toArray 8) :: rest) → Q (.int (res es x : Nat) t) { s with heap := h', toks := tk' }) :
    wpAny (model PySem.Challenge.rw_sr0020_01.row.prog w) (ktrTop dp un gd cn cs L a ccd cl outer) (call (.ref fa) [.ref sh, .str x tk] [(Str.ofString "key", .ref f)]) Q E s :=
  bis_use (tl := 0) C B F X N Tp hk (.tail _ (.tail _ (.tail _ (.head _)))) (ents_of N (fun _ hp => .tail _ (.tail _ (.tail _ (.tail _ hp)))) hs.2.1) hf (by rw [shf_len hs]; decide) hd hu h
end
theorem pow_le {i j : Int} (h : Four i j) {k : Nat} (hk : k ≤ 3) : i.toNat ^ k ≤ 125 := by
  obtain rfl | rfl | rfl | rfl : k = 0 ∨ k = 1 ∨ k = 2 ∨ k = 3 := by omega
  all_goals rcases h.i with rfl | rfl | rfl <;> decide
theorem cnt_le : ∀ x ∈ words, cntO x ≤ 3 := by decide +kernel
theorem txt_cnt : ∀ x ∈ words, Txt.count x (Str.ofString "o") = cntO x := by decide +kernel
def Turned (i j : Int) (c n e : Nat) : Prop := n = (8 + c) % 8 ∧ wordN (8 + c) i.toNat j.toNat ∈ words ∧ e ≤ 1000 ∧ endN (8 + c) i.toNat j.toNat = e + i.toNat ^ cntO (wordN (8 + c) i.toNat j.toNat) * ((8 + c) / 8)
def PowIs (i : Int) (x : Str) (P : Nat) : Prop := P = i.toNat ^ cntO x ∧ P ≤ 125
def DivIs (c q : Nat) : Prop := q = (8 + c) / 8 ∧ q ≤ 5
def MulIs (i : Int) (x : Str) (c r : Nat) : Prop := r = i.toNat ^ cntO x * ((8 + c) / 8) ∧ r ≤ 625
theorem many_cast {c : Nat} : (8 : Int) + (c : Int) = ((8 + c : Nat) : Int) := by omega
theorem dots_add (a b : Nat) : dots a ++ dots b = dots (a + b) := by
  refine Str.ext' ?_
  show (dots a).cps ++ (dots b).cps = _
  unfold dots ds S
  simp
section
variable {prog : Program} {w : World} {A : Around} {E : Value → Shared → Prop} {s : Shared} {h₀ : Heap} {L : Addr} {m : Str → Option Value} {rest : List (Addr × Obj)} {i j : Int} {qual : Str} {D I sh : Addr} {dr : Addr × Obj} {po it : Obj} {ps : Array Value} {es : Ents} {t u : Tok} {c n e P q r : Nat} {x : Str} {Q : Value → Shared → Prop}
theorem draw_div (hij : Four i j) (h : ∀ (b : Nat) t' tk, 0 < b → b ≤ 40 → Q (.int (b : Int) t') { s with toks := tk }) : wpAny (model prog w) A (binaryOp .FloorDiv (.int 40 t) (.int i u)) Q E s := by
  have hb : ∃ b : Nat, Int.fdiv 40 i = (b : Int) ∧ 0 < b ∧ b ≤ 40 := by
    rcases hij.i with rfl | rfl | rfl
    · exact ⟨40, by decide, by decide, by decide⟩
    · exact ⟨13, by decide, by decide, by decide⟩
    · exact ⟨8, by decide, by decide, by decide⟩
  obtain ⟨b, hb, h1, h2⟩ := hb
  refine floordiv_int (by rcases hij.i with rfl | rfl | rfl <;> decide) ?_ (Or.inl ?_)
  · rw [hb]; exact h b _ _ h1 h2
  · exact PyProof.noPylong_of_log2 (by rcases hij.i with rfl | rfl | rfl <;> decide)
theorem draw_mod {b : Nat} {v : Int} (h0 : 0 < b) (hb : b ≤ 40) (h : ∀ (c : Nat) t' tk, c < 40 → Q (.int (c : Int) t') { s with toks := tk }) : wpAny (model prog w) A (binaryOp .Mod (.int v t) (.int (b : Int) u)) Q E s := by
  refine mod_int' (by omega) ?_
  have h1 := Int.fmod_nonneg_of_pos v (b := (b : Int)) (by omega)
  have h2 := Int.fmod_lt_of_pos v (b := (b : Int)) (by omega)
  obtain ⟨c, hc⟩ := Int.eq_ofNat_of_zero_le h1
  rw [hc]
  exact h c _ _ (by omega)
theorem many_mod (hT : Turned i j c n e) (h : ∀ t' tk, Q (.int (0 + (n : Int)) t') { s with toks := tk }) : wpAny (model prog w) A (binaryOp .Mod (.int (8 + (c : Int)) t) (.int 8 u)) Q E s := by
  refine mod_int' (by omega) ?_
  have e : Int.fmod (8 + (c : Int)) 8 = 0 + (n : Int) := by rw [Int.fmod_eq_emod_of_nonneg _ (by decide), hT.1]; omega
  rw [e]
  exact h _ _
theorem many_div (hc : c < 40) (h : ∀ q t' tk, DivIs c q → Q (.int (q : Int) t') { s with toks := tk }) : wpAny (model prog w) A (binaryOp .FloorDiv (.int (8 + (c : Int)) t) (.int 8 u)) Q E s := by
  refine floordiv_int (by omega) ?_ (Or.inl (PyProof.noPylong_of_log2 (by decide)))
  have e : Int.fdiv (8 + (c : Int)) 8 = (((8 + c) / 8 : Nat) : Int) := by rw [Int.fdiv_eq_ediv_of_nonneg _ (by decide)]; omega
  rw [e]
  exact h _ _ _ ⟨rfl, by omega⟩
theorem path_count (hT : x ∈ words) (h : ∀ t' tk, Q (.int (cntO x : Nat) t') { s with toks := tk }) : wpAny (model prog w) A (call (.builtin "str.count") [.str x t, .str (Str.ofString "o") u]) Q E s :=
  KXw.count (by rw [txt_cnt x hT]) h
theorem fac_pow (hij : Four i j) (hT : x ∈ words) (h : ∀ P t' tk, PowIs i x P → Q (.int (P : Nat) t') { s with toks := tk }) : wpAny (model prog w) A (binaryOp .Pow (.int i t) (.int (cntO x : Nat) u)) Q E s := by
  have hk := cnt_le x hT
  refine pow_int_small (by omega) (by omega) (four_abs hij) ?_
  have e : i ^ (Int.toNat ((cntO x : Nat) : Int)) = ((i.toNat ^ cntO x : Nat) : Int) := by
    rw [Int.toNat_natCast]
    rw [Int.natCast_pow, show ((i.toNat : Nat) : Int) = i by rcases hij.i with rfl | rfl | rfl <;> rfl]
  rw [e]
  exact h _ _ _ ⟨rfl, pow_le hij hk⟩
theorem fac_mul (hP : PowIs i x P) (hq : DivIs c q) (h : ∀ r t' tk, MulIs i x c r → Q (.int (r : Nat) t') { s with toks := tk }) : wpAny (model prog w) A (binaryOp .Mult (.int (P : Nat) t) (.int (q : Nat) u)) Q E s := by
  obtain ⟨h1, h2⟩ := hP
  obtain ⟨h3, h4⟩ := hq
  refine mul_int ?_ (IntMulOk.of_left (PySem.intBits_le_64 (by omega) (by omega)))
  have e : ((P : Nat) : Int) * ((q : Nat) : Int) = ((P * q : Nat) : Int) := by simp
  rw [e]
  exact h _ _ _ ⟨by rw [h1, h3], Nat.mul_le_mul h2 h4⟩
theorem dot_mul (hr : MulIs i x c r) (h : ∀ t' tk, Q (.str (dots r) t') { s with toks := tk }) : wpAny (model prog w) A (binaryOp .Mult (.str (Str.ofString ".") t) (.int (r : Nat) u)) Q E s :=
  mul_rule1 (by omega) (by have := hr.2; omega) fun t' tk => by simpa using h t' tk
theorem end_add (hT : Turned i j c n e) (hr : MulIs i (wordN (8 + c) i.toNat j.toNat) c r) (h : ∀ t' tk, Q (.str (dots (endN (8 + c) i.toNat j.toNat)) t') { s with toks := tk }) : wpAny (model prog w) A (binaryOp .Add (.str (dots e) t) (.str (dots r) u)) Q E s := by
  refine PyProof.Rows.add_str (fun t' tk => ?_) ?_
  · rw [dots_add, hr.1, ← hT.2.2.2]; exact h t' tk
  · rw [dots_len, dots_len, sizeLine_eq]; have := hr.2; have := hT.2.2.1; omega
theorem pick_one {es : Ents} {k : Nat} (hk : k < es.length) : kms_pick (refs es) (some ((k : Nat) : Int)) (some ((k + 1 : Nat) : Int)) = [.ref (addrAt es k)] := by
  have hl := refs_len es
  unfold kms_pick kms_lo kms_hi
  simp only [hl]
  rw [if_neg (by omega), if_neg (by omega)]
  have e1 : min (Int.toNat ((k : Nat) : Int)) es.length = k := by omega
  have e2 : min (Int.toNat ((k + 1 : Nat) : Int)) es.length = k + 1 := by omega
  rw [e1, e2, show k + 1 - k = 1 by omega]
  have hg := addrAt_get hk
  rw [List.drop_eq_getElem_cons (by omega : k < (refs es).length)]
  rw [List.getElem?_eq_getElem (by omega)] at hg
  simp [Option.some.inj hg]
theorem shelf_slice {value slice : PySem.Expr} (hij : Four i j) (hc : c < 40) (hx : x = wordN (8 + c) i.toNat j.toNat) (F : Fr h₀ L s.heap m) (N : News h₀ L s.heap ((D, po) :: (I, it) :: (130, tabObj ps) :: (sh, listOf (refs es).toArray 8) :: rest)) (hs : ShF i j qual sh dr 8 ps es rest)
    (h : ∀ Fd Tm n e t1 t2 t3 h', Turned i j c n e → Fr h₀ L h' m → News h₀ L h' ((Fd, listOf #[.ref Tm] 0) :: (Tm, rowObj x n e t1 t2 t3) :: (D, po) :: (I, it) :: (130, tabObj ps) :: (sh, listOf (refs es).toArray 8) :: rest) → (∀ p ∈ ((D, po) :: (I, it) :: (130, tabObj ps) :: (sh, listOf (refs es).toArray 8) :: rest), p.1 < Fd) → Tm < Fd → Q (.ref Fd) { s with heap := h' })
    (hs' : subscripted slice false (.ref sh) (.ref s.heap.objs.size) = operate [.ref s.heap.objs.size, .ref sh] (getItem (.ref sh) (.ref s.heap.objs.size))) (ht : ∀ r, letTemporaryGo value (.ref sh) r = pure ()) :
    wpAny (model prog w) A (subscriptTail value slice (.ref sh) (.ref s.heap.objs.size)) Q E { s with heap := s.heap.push { cls := .type "slice", data := .fields #[.int (bisL es x : Nat) t, .int (bisR es x : Nat) u, .none] } } := by
  have hl := shf_len hs
  have hw := hs.2.2.1
  rw [words_sorted hij] at hw
  have hm0 := word_mod hij (8 + c) (by omega)
  have hxw : x ∈ words := by rw [hx, hm0]; exact word_mem hij _ (Nat.mod_lt _ (by decide))
  obtain ⟨w1, w2, w3⟩ := word_find x hxw
  have hL : bisL es x = bisWL words x := by rw [bisL_map, hw]
  have hR : bisR es x = bisWL words x + 1 := by rw [bisR_map, hw, w1]
  have hk : bisWL words x < es.length := by omega
  refine kms_slice_lit (zs := [.ref (addrAt es (bisWL words x))]) F N ⟨_, (N _ (.tail _ (.tail _ (.tail _ (.head _))))).1, rfl, _, rfl⟩ (.int _ _) (.int _ _) ?_ ?_ hs' ht (by simp [refs_len, sizeLine_eq]; omega)
  · rw [hL, hR]; exact pick_one hk
  · intro Fd h' F' N' l1
    have hmem : (addrAt es (bisWL words x), keyAt es (bisWL words x)) ∈ es := by
      unfold addrAt keyAt
      rw [List.getD_eq_getElem?_getD, List.getElem?_eq_getElem hk]
      exact List.getElem_mem hk
    obtain ⟨n, t1, t2, t3, hn, hy, hrow⟩ := hs.2.1 _ hmem
    have hkey : keyAt es (bisWL words x) = x := by rw [keyAt_map, hw]; exact w3
    simp only [hkey] at hy hrow
    have hnn : n = (8 + c) % 8 := word_inj hij n hn _ (Nat.mod_lt _ (by decide)) (by rw [← hy, hx, hm0])
    refine h Fd _ n (endN n i.toNat j.toNat) t1 t2 t3 h' ⟨hnn, hx ▸ hxw, end_le hij n hn, by rw [end_mod hij (8 + c) (by omega), hnn]⟩ F' (fun p hp => ?_) l1 (l1 _ (.tail _ (.tail _ (.tail _ (.tail _ hrow)))))
    rcases List.mem_cons.mp hp with rfl | hp
    · exact N' _ (.head _)
    rcases List.mem_cons.mp hp with rfl | hp
    · exact N' _ (.tail _ (.tail _ (.tail _ (.tail _ (.tail _ hrow)))))
    · exact N' _ (.tail _ hp)
end
theorem compEnd_tup {h₀ : Heap} {L : Addr} {m : Str → Option Value} {s₁ : Shared} {I C D T : Addr} {oI oC oD oT : Obj} {S : List (Addr × Obj) → Prop} {r : Value → List (Addr × Obj) → Prop} {y : Value} {h' : Heap} {tk : Nat} {news' : List (Addr × Obj)}
    (F : Fr h₀ L h' m) (N : News h₀ L h' ((T, oT) :: (I, oI) :: (C, oC) :: (D, oD) :: news')) (off : LCg.Off3 I C D news') (lI : I < T) (lC : C < T) (lD : D < T) (hS : S ((T, oT) :: news')) (hr : r y ((T, oT) :: news')) : LCg.CompEnd h₀ L m s₁ I oI C oC D oD S r y { s₁ with heap := h', toks := tk } :=
  LCg.CompEnd.intro F N ((T, oT) :: news') (fun p hp => by
    simp only [List.mem_cons] at hp ⊢
    rcases hp with hp | hp | hp | hp | hp
    · exact .inr (.inl hp)
    · exact .inr (.inr (.inl hp))
    · exact .inr (.inr (.inr (.inl hp)))
    · exact .inl hp
    · exact .inr (.inr (.inr (.inr hp)))) ⟨⟨Nat.ne_of_gt lI, Nat.ne_of_gt lC, Nat.ne_of_gt lD⟩, off⟩ hS hr
theorem words_ok : ∀ x ∈ words, PyData.strOk x = true := by decide +kernel
theorem one_ne {prog : Program} {w : World} {A : Around} {E : Value → Shared → Prop} {s : Shared} {h₀ : Heap} {L a b T1 T2 : Addr} {oa ob : Obj} {ka kb k1 k2 : Nat} {x : Str} {v : Int} {t1 u1 t2 u2 : Tok} {news : List (Addr × Obj)} {Q : Value → Shared → Prop}
    (N : News h₀ L s.heap news) (ma : (a, oa) ∈ news) (ca : oa.cls = .type "list") (da : oa.data = .seq #[.ref T1] ka) (mb : (b, ob) ∈ news) (cb : ob.cls = .type "list") (db : ob.data = .seq #[.ref T2] kb)
    (m1 : (T1, ({ cls := .type "tuple", data := .seq #[.str x t1, .int v u1] k1 } : Obj)) ∈ news) (m2 : (T2, ({ cls := .type "tuple", data := .seq #[.str x t2, .int v u2] k2 } : Obj)) ∈ news) (hx : x ∈ words) (hu : A.units + 64 < cLine) (h : Q (.bool false) s) :
    wpAny (model prog w) A (compareOp .NotEq (.ref a) (.ref b)) Q E s := by
  have ok : ∀ d ∈ [Dat.tuple [.str x, .int v]], kqdOk 8 d = true := fun d hd => by
    rw [List.mem_singleton.mp hd]
    simp only [kqdOk, List.all_cons, List.all_nil, Bool.and_true]
    exact words_ok x hx
  refine kqd_ne (ds := [.tuple [.str x, .int v]]) (es := [.tuple [.str x, .int v]]) (xs := [.ref T1]) (ys := [.ref T2]) N ma ca da (.cons (.tuple (vs := [.str x t1, .int v u1]) m1 (.cons (.str x t1) (.cons (.int v u1) .nil))) .nil) (fun _ h => h) mb cb db (.cons (.tuple (vs := [.str x t2, .int v u2]) m2 (.cons (.str x t2) (.cons (.int v u2) .nil))) .nil) (fun _ h => h) ok ok hu ?_
  simp only [decide_true, Bool.not_true]
  exact h
end Mine
end
section -- C17
open PySem PySem.W PyProof.Rows PySem.Spec PySem.Calls
set_option maxRecDepth 100000
set_option maxHeartbeats 2000000
namespace Mine
section
variable {prog : Program} {w : World} {A : Around} {E : Value → Shared → Prop} {s : Shared} {env : Env} {h₀ : Heap} {L : Addr} {news : List (Addr × Obj)} {Q : Value → Shared → Prop}
theorem sub_one {x : Str} {k : Int} {p q r : Pos} {n : Nat}
    (h : wpAny (model prog w) A (eval (.Name x p) env) (fun o s₁ => wpAny (model prog w) A (eval (.Constant (.int k) n q) env) (fun i s₂ => wpAny (model prog w) A (subscriptTail (.Name x p) (.Constant (.int k) n q) o i) Q E s₂) E s₁) E s) :
    wpAny (model prog w) A (eval (.Subscript (.Name x p) (.Constant (.int k) n q) r) env) Q E s := Subscript_ h
theorem tup_item {value slice : PySem.Expr} {T : Addr} {vs : List Value} {n : Nat} {k : Int} {u : Tok} {j : Nat} {x : Value} (N : News h₀ L s.heap news) (hm : (T, ({ cls := .type "tuple", data := .seq vs.toArray n } : Obj)) ∈ news) (hlo : -(2 ^ 63) ≤ k) (hhi : k < 2 ^ 63) (hj : seqIndex? k vs.length = some j) (hx : vs[j]? = some x) (h : Q x s)
    (hs : subscripted slice false (.ref T) (.int k u) = operate [.ref T, .int k u] (getItem (.ref T) (.int k u))) :
    wpAny (model prog w) A (subscriptTail value slice (.ref T) (.int k u)) Q E s :=
  item_tupleT (l := vs) ⟨_, (N _ hm).1, rfl, _, rfl⟩ hlo hhi hj hx h hs
theorem fac_pow0 {i j : Int} {x : Str} {n e : Nat} {t u : Tok} (hij : Four i j) (_hr : RowOK i j x n e) (hT : x ∈ words) (h : ∀ t' tk, Q (.int (i ^ cntO x) t') { s with toks := tk }) : wpAny (model prog w) A (binaryOp .Pow (.int i t) (.int (cntO x : Nat) u)) Q E s := by
  have hk := cnt_le x hT
  refine pow_int_small (by omega) (by omega) (four_abs hij) ?_
  rw [Int.toNat_natCast]
  exact h _ _
theorem lst_item {value slice : PySem.Expr} {T : Addr} {vs : List Value} {n : Nat} {j : Nat} {k : Int} {u : Tok} {x : Value} (N : News h₀ L s.heap news) (hm : (T, listOf vs.toArray n) ∈ news) (hk : k = (j : Int)) (hl : vs.length ≤ 100000) (hx : vs[j]? = some x) (h : Q x s)
    (hs : subscripted slice false (.ref T) (.int k u) = operate [.ref T, .int k u] (getItem (.ref T) (.int k u))) :
    wpAny (model prog w) A (subscriptTail value slice (.ref T) (.int k u)) Q E s := by
  have hL : s.heap.IsList T vs.toArray := ⟨_, (N _ hm).1, rfl, _, rfl⟩
  have hlt : j < vs.length := (List.getElem?_eq_some_iff.mp hx).1
  exact tail_any hL.typeIs slot_list_getitem.lookup (wpAny_getItem_list hL (by omega) (by omega) (by rw [hk]; simpa using hx) h) hs
end
theorem keep130 {i j : Int} {qual : Str} {sh : Addr} {dr : Addr × Obj} {k : Nat} {ps : Array Value} {es : Ents} {rest : List (Addr × Obj)} (_h : ShF i j qual sh dr k ps es rest) (l : 130 < sh) : 130 < sh := l
end Mine
end
section -- L2
open PySem PySem.W PyProof.Rows PySem.Spec PySem.Calls
set_option maxRecDepth 100000
set_option maxHeartbeats 8000000
namespace Mine
def Halt (P : Prop) : Prop := P
theorem halt {P : Prop} (h : Halt P) : P := h
local macro_rules | `(tactic| walk_at "eval Subscript Name Constant") => `(tactic| (with_reducible refine' sub_one ?_))
local macro_rules | `(tactic| walk_at "subscriptTail Name Constant ref int") => `(tactic| (k_dflt (refine' lst_item ?N ?hm ?a ?b ?c ?_ ?hs; (case N => k_asm); (case hm => k_mem); (case c => exact rfl); (case a => rfl); (case b => decide); (case hs => with_unfolding_all rfl); k_whole)))
local macro_rules | `(tactic| walk_at "subscriptTail Subscript Constant ref int") => `(tactic| (k_dflt (refine' tup_item ?N ?hm ?a ?b ?c ?d ?_ ?hs; (case N => k_asm); (case hm => k_mem); (case a => decide); (case b => decide); (case c => rfl); (case d => rfl); (case hs => with_unfolding_all rfl); k_whole)))
local macro_rules | `(tactic| walk_at "subscriptTail BinOp") => `(tactic| (k_dflt (refine kba_turn (value' := PySem.Expr.Name (PySem.Str.ofString "_") ⟨0, 0, 0, 0⟩) (fun _ => rfl) ?_)))
local macro_rules | `(tactic| walk_at "subscriptTail Name Constant ref int") => `(tactic| ( k_dflt (refine' tup_item ?N ?hm ?a ?b ?c ?d ?_ ?hs; (case N => k_asm); (case hm => k_mem); (case a => decide); (case b => decide); (case c => rfl); (case d => rfl); (case hs => with_unfolding_all rfl); k_whole)))
local macro_rules | `(tactic| walk_at "exec For Name Call cons nil") => `(tactic| ((rename News _ _ _ _ => kN9); replace kN9 := shelf_start kN9; walk_at "exec For Name Call cons nil"))
local macro_rules | `(tactic| walk_at "RangeRest") => `(tactic| focus ((k_dflt (refine' shelf_go ?ij ?l1 ?l4 ?l5 ?l6 ?l7 ?l8 ?_ ?_; (case ij => assumption); (case l1 => (refine ltN ?_; omega)); (case l4 => (refine ltN ?_; omega)); (case l5 => (refine ltN ?_; omega)); (case l6 => (refine neN ?_; omega)); (case l7 => (refine ltN ?_; omega)); (case l8 => (refine ltN ?_; omega)))); rotate_left; (refine halt ?_); rotate_right; (intro k9 mm9 ps9 es9 rest9 t9 h9 tk9 hk9 hs9 hI9 F' N'); (try dsimp only)))
local macro_rules | `(tactic| walk_at "eval ListComp BinOp") => `(tactic| (k_dflt (refine' comp3w ?F ?N ?hh ?H ?clos ?cell ?names ?_; (case F => k_asm); (case N => k_asm); (case hh => rfl); (case H => exact ⟨rfl, rfl, rfl, rfl, by decide, by decide, by decide, by decide, by decide, by decide⟩); (case clos => rfl); (case cell => decide); (case names => decide)); intro D9 t0 t1 t2 t3 t4 t5 t6 t7 h9 tk9 F9 N9 l1; (try simp only [AllLt, and_true] at l1); (try k_sweep)))
local macro_rules | `(tactic| walk_at "pyIter ref") => `(tactic| focus ((k_dflt (refine' rows_turns ?ij ?hs ?hh ?F ?N ?_ ?_; (case ij => assumption); (case hs => assumption); (case hh => rfl); (case F => k_asm); (case N => (refine' rows_start (pre := [_, _, _, _, _, _, _, _, _, _, _, _, _]) ?M ?e ?m1 ?m2 ?m3; (case M => k_asm); (case e => assumption); (case m1 => k_mem); (case m2 => k_mem); (case m3 => rfl))))); all_goals (refine halt ?_)))
local macro_rules | `(tactic| walk_at "binaryOp Mult int int") => `(tactic| (k_dflt (refine' mul_int ?_ ?hm; (case hm => first | exact mul_j (by assumption) | exact mul_pl (by assumption) (cnt_le _ (by assumption)) | exact mul_pr (by assumption) (cnt_le _ (by assumption))))))
local macro_rules | `(tactic| walk_at "binaryOp Pow int int") => `(tactic| (with_reducible refine' pow_int_small ?n ?n2 ?a ?_; (case n => side_arith); (case n2 => side_arith); (case a => exact four_abs (by assumption))))
local macro_rules | `(tactic| walk_at "compareOp NotEq int int") => `(tactic| (k_dflt (refine' row_ne ?h ?w ?c ?_; (case h => assumption); (case w => assumption); (case c => rfl))))
local macro_rules | `(tactic| walk_at "binaryOp Mult str int") => `(tactic| (k_dflt (refine' row_mul ?h ?w ?c ?_; (case h => assumption); (case w => assumption); (case c => rfl)); intro t9 tk9))
local macro_rules | `(tactic| walk_at "compareOp NotEq str str") => `(tactic| (with_reducible refine' str_same ?_))
local macro_rules | `(tactic| walk_at "TurnEnd") => `(tactic| (k_dflt (refine' rows_end ?F ?N ?ho ?hm; (case F => k_asm); (case N => k_asm); (case ho => assumption); (case hm => exact rvars_back))))
local macro_rules | `(tactic| walk_at "TurnPost") => `(tactic| (dsimp only [TurnPost]))
local macro_rules | `(tactic| walk_at "CompEnd") => `(tactic| (k_dflt (refine' compEnd_same ?F ?N ?off ?S ?_; (case F => assumption); (case N => k_asm); (case off => first | assumption | (simp only [LCg.Off3, and_true]; assumption)); (case S => exact Or.inr ⟨_, by k_mem, rfl, _, rfl⟩))))
local macro_rules | `(tactic| walk_at "call ref") => `(tactic| (k_dflt (refine' weight_use ?k1 ?k2 ?k3 ?k4 ?k5 ?kK ?x ?ij ?kd ?ku ?_; (case x => assumption); (case ij => assumption); (case k1 => k_asm); (case k2 => k_asm); (case k3 => k_asm); (case k4 => k_asm); (case k5 => k_asm); (case kK => first | exact rfl | assumption); (case kd => ktr_room); (case ku => ktr_units); intro wt9 t9 h9 tk9 hwt9 F9 N9; (try k_sweep))))
local macro_rules | `(tactic| walk_at "call ref") => `(tactic| (k_dflt (refine' walk_use ?k1 ?k2 ?k3 ?k4 ?k5 ?kK ?n ?n2 ?ij ?kd ?ku ?_; (case n => exact Int.zero_add _); (case n2 => omega); (case ij => assumption); (case k1 => k_asm); (case k2 => k_asm); (case k3 => k_asm); (case k4 => k_asm); (case k5 => k_asm); (case kK => first | exact rfl | assumption); (case kd => ktr_room); (case ku => ktr_units); intro D9 t9 u9 c9 h9 tk9 F9 N9 l1; (try simp only [AllLt, and_true] at l1); (try k_sweep))))
local macro_rules | `(tactic| walk_at "call ref") => `(tactic| (k_dflt (refine' ins_use2 ?k1 ?k2 ?k3 ?k4 ?k5 ?kK ?hs ?hex ?hf ?l1 ?l2 ?l3 ?l4 ?h8 ?kd ?ku ?_; (case kK => first | exact rfl | assumption); (case k1 => k_asm); (case k2 => k_asm); (case k3 => k_asm); (case k4 => k_asm); (case k5 => k_asm); (case hs => assumption); (case hex => assumption); (case hf => assumption); (case l1 => (refine ltN ?_; omega)); (case l2 => (refine ltN ?_; omega)); (case l3 => (refine ltN ?_; omega)); (case l4 => (refine ltN ?_; omega)); (case h8 => assumption); (case kd => ktr_room); (case ku => ktr_units); intro h9 tk9 F9 N9; (try k_sweep))))
local macro_rules | `(tactic| walk_at "eval Lambda") => `(tactic| (k_dflt (refine' kla_eval ?d0 ?_; (case d0 => exact rfl)); k_dflt (refine' lam_make1 ?F ?T ?C ?cd ?hs ?N ?l1 ?l2 ?l3 ?l4 ?_; (case F => k_asm); (case T => k_asm); (case C => assumption); (case cd => exact rfl); (case hs => assumption); (case N => k_asm); (case l1 => (refine ltN ?_; omega)); (case l2 => (refine ltN ?_; omega)); (case l3 => (refine ltN ?_; omega)); (case l4 => (refine ltN ?_; omega)); k_whole); intro f9 ps9 ex9 h9 tk9 F9 N9 ok9 la9 hex9; (try dsimp only); (try k_sweep)))
local macro_rules | `(tactic| walk_at "UnrEnd") => `(tactic| (k_dflt (refine' shelf_end ?F ?N ?hk ?hs ?hI ?hok ?hex ?hT ?hI2 ?hm; (case F => k_asm); (case N => k_asm); (case hk => assumption); (case hs => assumption); (case hI => assumption); (case hok => assumption); (case hex => assumption); (case hT => exact ⟨by (refine ltN ?_; omega), by (refine ltN ?_; omega), by (refine ltN ?_; omega)⟩); (case hI2 => exact ⟨by (refine ltN ?_; omega), by (refine ltN ?_; omega)⟩); (case hm => exact lvars_back))))
local macro_rules | `(tactic| walk_at "subscriptTail Tuple") => `(tactic| (k_dflt (refine' four_use ?F ?N ?hT ?h1 ?h2 ?h3 ?h4 ?hP ?hd ?_ ?hs; (case F => k_asm); (case N => k_asm); (case hT => k_mem); (case h1 => k_mem); (case h2 => k_mem); (case h3 => k_mem); (case h4 => k_mem); (case hP => k_mem); (case hd => k_mem); (case hs => with_unfolding_all rfl); k_whole); (rename News _ _ _ _ => kN9); clear kN9; intro T' i' j' ti' tj' hfour N'; (try dsimp only)))
theorem Turned.word {i j : Int} {c n e : Nat} (h : Turned i j c n e) : wordN (8 + c) i.toNat j.toNat ∈ words := h.2.1
local macro_rules | `(tactic| walk_at "pyIter ref") => `(tactic| focus ((k_dflt (refine' draws_turns ?ij ?hs ?hI ?hh ?F ?N ?l1 ?l2 ?_ ?_; (case F => k_asm); (case N => k_asm); (case ij => assumption); (case hs => assumption); (case hI => assumption); (case hh => rfl); (case l1 => (refine ltN ?_; omega)); (case l2 => (refine ltN ?_; omega)))); all_goals (refine halt ?_)))
local macro_rules | `(tactic| walk_at "binaryOp FloorDiv int int") => `(tactic| (with_reducible refine' draw_div ?h ?_; (case h => assumption); intro b9 t9 tk9 hb8 hb9))
local macro_rules | `(tactic| walk_at "binaryOp FloorDiv int int") => `(tactic| (with_reducible refine' many_div ?h ?_; (case h => assumption); intro q9 t9 tk9 hq9))
local macro_rules | `(tactic| walk_at "binaryOp Mod int int") => `(tactic| (with_reducible refine' draw_mod ?h ?h2 ?_; (case h => assumption); (case h2 => assumption); intro c9 t9 tk9 hc9))
local macro_rules | `(tactic| walk_at "binaryOp Mod int int") => `(tactic| (with_reducible refine' many_mod ?h ?_; (case h => assumption); intro t9 tk9))
local macro_rules | `(tactic| walk_at "call ref") => `(tactic| (k_dflt (refine' walk_use ?k1 ?k2 ?k3 ?k4 ?k5 ?kK ?n ?n2 ?ij ?kd ?ku ?_; (case n => exact many_cast); (case n2 => omega); (case ij => assumption); (case k1 => k_asm); (case k2 => k_asm); (case k3 => k_asm); (case k4 => k_asm); (case k5 => k_asm); (case kK => first | exact rfl | assumption); (case kd => ktr_room); (case ku => ktr_units); intro D9 t9 u9 c9 h9 tk9 F9 N9 l1; (try simp only [AllLt, and_true] at l1); (try k_sweep))))
local macro_rules | `(tactic| walk_at "call ref") => `(tactic| (k_dflt (refine' bis_use2 bis_left1 ?k1 ?F ?X ?T ?kK ?N ?hs ?f ?kd ?ku ?_; (case k1 => k_asm); (case F => k_asm); (case X => k_asm); (case T => k_asm); (case kK => first | exact rfl | assumption); (case N => k_asm); (case hs => assumption); (case f => assumption); (case kd => ktr_room); (case ku => ktr_units)); intro t9 h9 tk9 F9 N9; (try k_sweep)))
local macro_rules | `(tactic| walk_at "call ref") => `(tactic| (k_dflt (refine' bis_use2 bis_right1 ?k1 ?F ?X ?T ?kK ?N ?hs ?f ?kd ?ku ?_; (case k1 => k_asm); (case F => k_asm); (case X => k_asm); (case T => k_asm); (case kK => first | exact rfl | assumption); (case N => k_asm); (case hs => assumption); (case f => assumption); (case kd => ktr_room); (case ku => ktr_units)); intro t9 h9 tk9 F9 N9; (try k_sweep)))
local macro_rules | `(tactic| walk_at "eval Lambda") => `(tactic| (k_dflt (refine' kla_eval ?d0 ?_; (case d0 => exact rfl)); k_dflt (refine' lam_make2 ?F ?T ?C ?cd ?hs ?ho ?N ?l2 ?l3 ?l4 ?_; (case F => k_asm); (case T => k_asm); (case C => assumption); (case cd => exact rfl); (case N => k_asm); (case hs => assumption); (case ho => assumption); (case l2 => (refine ltN ?_; omega)); (case l3 => (refine ltN ?_; omega)); (case l4 => (refine ltN ?_; omega)); k_whole); intro f9 ps9 rest9 h9 tk9 F9 N9 hs9 ho9 la9 _; (try dsimp only); (try k_sweep)))
local macro_rules | `(tactic| walk_at "subscriptTail Name Slice ref ref") => `(tactic| (k_dflt (refine' shelf_slice ?ij ?hc ?hx ?F ?N ?hs ?_ ?hs1 ?ht; (case F => k_asm); (case N => k_asm); (case ij => assumption); (case hs => assumption); (case hc => assumption); (case hx => rfl); (case hs1 => with_unfolding_all rfl); (case ht => kmk_pure)); intro Fd9 Tm9 n9 e9 t1 t2 t3 h9 hT9 F9 N9 l1 l2; (try simp only [List.forall_mem_cons] at l1); (try k_sweep)))
local macro_rules | `(tactic| walk_at "call builtin:str.count") => `(tactic| (with_reducible refine' path_count ?h ?_; (case h => first | exact Turned.word (by assumption) | assumption); intro t9 tk9))
local macro_rules | `(tactic| walk_at "binaryOp Pow int int") => `(tactic| (with_reducible refine' fac_pow ?ij ?h ?_; (case ij => assumption); (case h => exact Turned.word (by assumption)); intro P9 t9 tk9 hP9))
local macro_rules | `(tactic| walk_at "binaryOp Mult int int") => `(tactic| (with_reducible refine' fac_mul ?h ?h2 ?_; (case h => assumption); (case h2 => assumption); intro r9 t9 tk9 hr9))
local macro_rules | `(tactic| walk_at "binaryOp Mult str int") => `(tactic| (with_reducible refine' dot_mul ?h ?_; (case h => assumption); intro t9 tk9))
local macro_rules | `(tactic| walk_at "binaryOp Add str str") => `(tactic| (with_reducible refine' end_add ?h ?h2 ?_; (case h => assumption); (case h2 => assumption); intro t9 tk9))
local macro_rules | `(tactic| walk_at "exec For Name Subscript cons nil") => `(tactic| ((rename Fr _ _ _ _ => lF'); (with_unfolding_all refine' For_turns lF' ?_; k_whole)))
local macro_rules | `(tactic| walk_at "TurnEnd") => `(tactic| (k_dflt (refine' draws_end ?F ?N ?hs ?ho ?l1 ?l2 ?h1 ?h2 ?h3 ?h4 ?hm; (case F => k_asm); (case N => k_asm); (case hs => assumption); (case ho => assumption); (case l1 => assumption); (case l2 => assumption); (case h1 => k_mem); (case h2 => k_mem); (case h3 => k_mem); (case h4 => (intro p hp; (repeat (refine List.Mem.tail _ ?_)); exact hp)); (case hm => exact dvars_back))))
local macro_rules | `(tactic| walk_at "CompEnd") => `(tactic| (k_dflt (refine' compEnd_tup ?F ?N ?off ?lI ?lC ?lD ?S ?_; (case F => assumption); (case N => k_asm); (case off => first | assumption | (simp only [LCg.Off3, and_true]; assumption)); (case lI => (refine ltN ?_; omega)); (case lC => (refine ltN ?_; omega)); (case lD => (refine ltN ?_; omega)); (case S => exact Or.inr ⟨_, by k_mem, rfl, _, rfl⟩))))
local macro_rules | `(tactic| walk_at "compareOp NotEq ref ref") => `(tactic| (k_dflt (refine' one_ne ?N ?ma ?ca ?da ?mb ?cb ?db ?m1 ?m2 ?hx ?hu ?_; (case N => k_asm); (case ma => k_mem); (case ca => rfl); (case da => rfl); (case mb => k_mem); (case cb => rfl); (case db => rfl); (case m1 => k_mem); (case m2 => k_mem); (case hx => exact Turned.word (by assumption)); (case hu => ke_room); k_whole)))
local macro_rules | `(tactic| walk_at "binaryOp Pow int int") => `(tactic| (with_reducible refine' fac_pow0 ?ij ?hr ?h ?_; (case ij => assumption); (case hr => assumption); (case h => assumption); intro t9 tk9))
theorem law_holds : PySem.Challenge.rw_sr0020_01.Holds := Mine.hd (by
  k_go0
  (all_goals try k_fold)
  k_steps
  unfold Halt
  intro mm9 ps9 es9 rest9 h9 tk9 hs9 F9 N9
  (try dsimp only)
  refine shelf_split (by assumption) N9 hs9 ?_
  clear N9
  intro A0 A1 A2 A3 A4 A5 A6 A7 n0 n1 n2 n3 n4 n5 n6 n7 a0 b0 c0 a1 b1 c1 a2 b2 c2 a3 b3 c3 a4 b4 c4 a5 b5 c5 a6 b6 c6 a7 b7 c7 hes9 f0 f1 f2 f3 f4 f5 f6 f7 q0 q1 q2 q3 q4 q5 q6 q7 N9
  have l130 := keep130 hs9 (by refine ltN ?_; omega)
  clear f0 f1 f2 f3 f4 f5 f6 f7
  (repeat (with_reducible rename _ ∧ _ => kk9; clear kk9))
  k_steps
  · unfold Halt
    intro I1 T1 x1 n1 e1 t11 t12 t13 mm1 h1 tk1 oI1 hn1 hw1 hr1 ho1 F1 N1
    clear q0 q1 q2 q3 q4 q5 q6 q7 hes9
    (repeat (with_reducible rename _ ∧ _ => kk9; clear kk9))
    (try dsimp only)
    k_steps
  · unfold Halt
    intro mm2 h2 tk2 F2 N2
    (try dsimp only)
    have N3 := news_draws hs9 N2
    clear N2
    clear q0 q1 q2 q3 q4 q5 q6 q7 hes9
    (repeat (with_reducible rename _ ∧ _ => kk9; clear kk9))
    k_steps
    · unfold Halt
      intro I2 v2 tv2 ps2 es2 rest2 mm2 h2 tk2 oI2 hs2 ho2 lp2 lq2 F2 N2
      (try dsimp only)
      k_steps
    · unfold Halt
      intro mm2 ps2 h2 tk2 F2 N2
      (try dsimp only)
      k_steps
      skip)
end Mine
end
theorem PySem.Challenge.cw_sr0020_01_holds : PySem.Challenge.rw_sr0020_01.Holds := by
  exact Mine.law_holds
