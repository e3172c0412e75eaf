import PyProof.Rows.All
import Wide.All
import OpenK.AllK
import Wide.FinOn
import Lean
import PySem.Challenge.RW_il0199_01
/-! il0199-01: the law of parse257 (Kummer's carries told by quotes). A contract for each def of the law's text (a wpAny theorem over any
caller), each walked once; plain laws of texts, carries and ways beside them; joined last. -/
open PySem PySem.W PySem.Spec PySem.Calls PyProof.Rows
set_option Elab.async false
set_option maxRecDepth 100000
set_option maxHeartbeats 8000000

namespace Mine
open_top hd for PySem.Challenge.rw_il0199_01
end Mine

namespace Mine
/-- the text of n quotes -/
def quo (n : Nat) : Str := ⟨(List.replicate n 34).toArray⟩
/-- the reply that tells n quotes, the hidden quote, a quote, the tail -/
def respT (n : Nat) : Str := ⟨([50, 53, 55, 32, 34] ++ List.replicate n 34 ++ [162, 34, 32, 105, 115, 32, 109, 97, 100, 101]).toArray⟩
/-- what is read of it -/
def nameT (n : Nat) : Str := ⟨(List.replicate (n / 2) 34 ++ if n % 2 = 0 then [162] else []).toArray⟩
theorem q_is : Str.ofString "\"" = ⟨#[34]⟩ := by decide +kernel
theorem a_is : Str.ofString "¢" = ⟨#[162]⟩ := by decide +kernel
theorem p_is : Str.ofString "257 \"" = ⟨#[50, 53, 55, 32, 34]⟩ := by decide +kernel
theorem e_is : Str.ofString "\" is made" = ⟨#[34, 32, 105, 115, 32, 109, 97, 100, 101]⟩ := by decide +kernel
theorem resp_len (n : Nat) : (respT n).length = n + 15 := by
  simp [respT, Str.length]
theorem quo_len (n : Nat) : (quo n).length = n := by simp [quo, Str.length]
theorem name_len (n : Nat) : (nameT n).length ≤ n / 2 + 1 := by
  unfold nameT Str.length
  split <;> simp
theorem resp_3 : ∀ n : Fin 127, Txt.slice (respT n) none (some 3) = Str.ofString "257" := by decide +kernel
theorem resp_5 : ∀ n : Fin 127, Txt.slice (respT n) (some 3) (some 5) = Str.ofString " \"" := by decide +kernel
open StrLaws Builtin.Str in
theorem occ_count (x : Str) (c : Nat) : ∀ (k a : Nat) (st : Array Nat × Nat), a + k = x.length + 1 → st.1.size ≤ a → st.2 ≤ a →
    (forIn (List.range' a k) st (occBody x ⟨#[c]⟩ x.length (x.length + 1))).run.fst.size = st.1.size + (x.cps.toList.drop a).count c := by
  intro k
  induction k with
  | zero =>
    intro a st ha _ _
    have : x.cps.toList.drop a = [] := List.drop_of_length_le (by simp [Str.length] at ha ⊢; omega)
    rw [this]
    simp
  | succ k ih =>
    intro a st ha h1 h2
    rw [List.range'_succ, List.forIn_cons]
    unfold occBody
    by_cases hc : x.cps.toList[a]? = some c
    · have hs := (subAt_one x c a).mpr hc
      have hlt : a < x.cps.toList.length := (List.getElem?_eq_some_iff.mp hc).1
      have he : x.cps.toList[a] = c := (List.getElem?_eq_some_iff.mp hc).2
      rw [if_pos ⟨⟨⟨by omega, h2⟩, hs.1⟩, hs.2⟩]
      refine (ih (a + 1) (st.1.push a, a + 1) (by omega) (by simp; omega) (Nat.le_refl _)).trans ?_
      rw [List.drop_eq_getElem_cons hlt, he, List.count_cons_self]
      simp
      omega
    · rw [if_neg (fun h => hc ((subAt_one x c a).mp ⟨h.1.2, h.2⟩))]
      refine (ih (a + 1) st (by omega) (by omega) (by omega)).trans ?_
      by_cases hlt : a < x.cps.toList.length
      · rw [List.drop_eq_getElem_cons hlt, List.count_cons_of_ne]
        intro e
        exact hc (List.getElem?_eq_some_iff.mpr ⟨hlt, by simpa using e⟩)
      · rw [List.drop_of_length_le (by omega), List.drop_of_length_le (by omega)]
theorem count_one (x : Str) (c : Nat) : Txt.count x ⟨#[c]⟩ = ((x.cps.toList.count c : Nat) : Int) := by
  unfold Txt.count
  congr 1
  rw [StrLaws.occ_eq, Array.length_toList, Nat.sub_zero]
  simpa using occ_count x c (x.length + 1) 0 (#[], 0) (by omega) (Nat.zero_le _) (Nat.zero_le _)
theorem name_count (n : Nat) : Txt.count (nameT n) (Str.ofString "\"") = ((n / 2 : Nat) : Int) := by
  rw [q_is, count_one]
  congr 1
  unfold nameT
  split <;> simp
theorem name_has (n : Nat) : Txt.contains (nameT n) (Str.ofString "¢") = decide (n % 2 = 0) := by
  rw [a_is]
  show (!(Builtin.Str.occurrences _ _ 0 _ 1).isEmpty) = _
  rw [StrLaws.found_one]
  unfold nameT
  by_cases h : n % 2 = 0 <;> simp [h]
theorem foldl_quo (k : Nat) : ∀ acc : Array Nat, (List.replicate k #[34]).foldl (· ++ ·) acc = acc ++ (List.replicate k 34).toArray := by
  induction k with
  | zero => intro acc; simp
  | succ k ih =>
    intro acc
    rw [List.replicate_succ, List.foldl_cons, ih, Array.append_assoc]
    congr 1
    simp [List.replicate_succ]
theorem quo_mul (n : Nat) : Txt.mul (Str.ofString "\"") (n : Int) = quo n := by
  rw [q_is]
  unfold Txt.mul
  by_cases h0 : (n : Int) < 1
  · have : n = 0 := by omega
    subst this
    rfl
  · rw [if_neg h0]
    by_cases h1 : n = 1
    · subst h1; rfl
    · have : (((n : Int) == 1 || (⟨#[34]⟩ : Str).length == 0)) = false := by
        simp [Str.length]; omega
      rw [if_neg (by rw [this]; decide), Int.toNat_natCast, foldl_quo]
      simp [quo]
theorem resp_made (n : Nat) : Str.ofString "257 \"" ++ quo n ++ Str.ofString "¢" ++ Str.ofString "\" is made" = respT n := by
  rw [p_is, e_is, a_is]
  refine congrArg Str.mk ?_
  show (#[50, 53, 55, 32, 34] ++ (List.replicate n 34).toArray ++ #[162]) ++ #[34, 32, 105, 115, 32, 109, 97, 100, 101] = _
  simp
theorem resp_item {n : Nat} {i : Int} (h0 : 0 ≤ i) (h1 : i < n + 15) : Txt.item (respT n) i = ⟨#[((respT n).cps[i.toNat]?).getD 0]⟩ := by
  unfold Txt.item Txt.charAt seqIndex?
  rw [resp_len]
  have e : ¬ i < 0 := by omega
  have e2 : i < ((n + 15 : Nat) : Int) := by omega
  simp only [e, if_false, h0, e2, decide_true, Bool.and_true, if_true, Option.bind_some]
theorem resp_at (n i : Nat) : (respT n).cps[5 + i]? = (List.replicate n 34 ++ [162, 34, 32, 105, 115, 32, 109, 97, 100, 101])[i]? := by
  unfold respT
  simp [Nat.add_comm 5 i]
theorem resp_q {n : Nat} {i : Int} (h : (5 ≤ i ∧ i < n + 5) ∨ i = n + 6) : Txt.item (respT n) i = Str.ofString "\"" := by
  rw [resp_item (by omega) (by omega), q_is]
  obtain ⟨j, rfl⟩ : ∃ j : Nat, i = ((5 + j : Nat) : Int) := ⟨i.toNat - 5, by omega⟩
  rw [Int.toNat_natCast, resp_at]
  rcases h with h | h
  · rw [List.getElem?_append_left (by simp; omega), List.getElem?_replicate, if_pos (by omega)]; rfl
  · have : j = n + 1 := by omega
    subst this
    rw [List.getElem?_append_right (by simp)]
    simp
theorem resp_a {n : Nat} {i : Int} (h : i = n + 5) : Txt.item (respT n) i = Str.ofString "¢" := by
  rw [a_is, resp_item (by omega) (by omega)]
  obtain ⟨j, rfl⟩ : ∃ j : Nat, i = ((5 + j : Nat) : Int) := ⟨i.toNat - 5, by omega⟩
  rw [Int.toNat_natCast, resp_at]
  have : j = n := by omega
  subst this
  rw [List.getElem?_append_right (by simp)]
  simp
theorem resp_s {n : Nat} {i : Int} (h : i = n + 7) : Txt.item (respT n) i = Str.ofString " " := by
  rw [show Str.ofString " " = ⟨#[32]⟩ by decide +kernel, resp_item (by omega) (by omega)]
  obtain ⟨j, rfl⟩ : ∃ j : Nat, i = ((5 + j : Nat) : Int) := ⟨i.toNat - 5, by omega⟩
  rw [Int.toNat_natCast, resp_at]
  have : j = n + 2 := by omega
  subst this
  rw [List.getElem?_append_right (by simp)]
  simp
theorem quo_more (k : Nat) : quo k ++ Str.ofString "\"" = quo (k + 1) := by
  rw [q_is]
  refine congrArg Str.mk ?_
  show (List.replicate k 34).toArray ++ #[34] = _
  rw [List.replicate_succ']
  apply Array.toList_inj.mp
  simp
theorem quo_zero : Str.ofString "" = quo 0 := by decide +kernel
theorem name_odd {n k : Nat} (h : n = 2 * k + 1) : nameT n = quo k := by
  subst h
  unfold nameT quo
  rw [if_neg (by omega), List.append_nil, show (2 * k + 1) / 2 = k by omega]
theorem name_even {n k : Nat} (h : n = 2 * k) : quo k ++ Str.ofString "¢" = nameT n := by
  subst h
  rw [a_is]
  refine congrArg Str.mk ?_
  show (List.replicate k 34).toArray ++ #[162] = _
  rw [if_pos (by omega), show 2 * k / 2 = k by omega]
  apply Array.toList_inj.mp
  simp
theorem q_len : (Str.ofString "\"").length = 1 := by rw [q_is]; rfl
theorem a_len : (Str.ofString "¢").length = 1 := by rw [a_is]; rfl
end Mine

namespace Mine

section
variable {prog : Program} {w : World} {A : Around} {E : Value → Shared → Prop} {s : Shared} {value slice : PySem.Expr} {x y : PySem.Str} {t u : Tok} {i : Int} {Q : Value → Shared → Prop} {h₀ : Heap} {L : Addr} {m : Str → Option Value} {news : List (Addr × Obj)}
theorem my_item {n : Nat} (e : x = respT n) (h0 : 0 ≤ i) (h1 : i < n + 15) (hn : n ≤ 126) (hy : Txt.item (respT n) i = y) (h : Q (.str y s.toks) { s with toks := s.toks + 1 })
    (hs : subscripted slice false (.str x t) (.int i u) = operate [.str x t, .int i u] (getItem (.str x t) (.int i u)) := by with_unfolding_all rfl)
    (ht : ∀ r, letTemporaryGo value (.str x t) r = pure () := by intro _; with_unfolding_all rfl) :
    wpAny (model prog w) A (subscriptTail value slice (.str x t) (.int i u)) Q E s := by
  have hl : x.length = n + 15 := by rw [e, resp_len]
  refine item_str (fitsSsize_of (N := 9223372036854775808) (by omega) (by omega) (Int.le_refl _)) (by omega) (by omega) (fun _ => ?_) hs ht
  rw [e, hy]; exact h
theorem my_slice3 {n : Nat} {uj : Tok} (e : x = respT n) (hn : n ≤ 126) (hF : Fr h₀ L s.heap m) (hN : News h₀ L s.heap news) (h : ∀ h' t' k, Fr h₀ L h' m → News h₀ L h' news → Q (.str (Str.ofString "257") t') { s with heap := h', toks := k })
    (hs : subscripted slice false (.str x t) (.ref s.heap.objs.size) = operate [.ref s.heap.objs.size, .str x t] (getItem (.str x t) (.ref s.heap.objs.size)) := by with_unfolding_all rfl)
    (ht : ∀ r, letTemporaryGo value (.str x t) r = pure () := by intro _; with_unfolding_all rfl) :
    wpAny (model prog w) A (subscriptTail value slice (.str x t) (.ref s.heap.objs.size)) Q E { s with heap := s.heap.push { cls := .type "slice", data := .fields #[.none, .int 3 uj, .none] } } := by
  have hl : x.length = n + 15 := by rw [e, resp_len]
  refine slice_strN_ns hF hN (fun h' t' k a b => ?_) hs ht (by rw [hl, sizeLine_eq]; omega)
  have q := resp_3 ⟨n, by omega⟩
  rw [e, q]
  exact h h' t' k a b
theorem my_slice5 {n : Nat} {ui uj : Tok} (e : x = respT n) (hn : n ≤ 126) (hF : Fr h₀ L s.heap m) (hN : News h₀ L s.heap news) (h : ∀ h' t' k, Fr h₀ L h' m → News h₀ L h' news → Q (.str (Str.ofString " \"") t') { s with heap := h', toks := k })
    (hs : subscripted slice false (.str x t) (.ref s.heap.objs.size) = operate [.ref s.heap.objs.size, .str x t] (getItem (.str x t) (.ref s.heap.objs.size)) := by with_unfolding_all rfl)
    (ht : ∀ r, letTemporaryGo value (.str x t) r = pure () := by intro _; with_unfolding_all rfl) :
    wpAny (model prog w) A (subscriptTail value slice (.str x t) (.ref s.heap.objs.size)) Q E { s with heap := s.heap.push { cls := .type "slice", data := .fields #[.int 3 ui, .int 5 uj, .none] } } := by
  have hl : x.length = n + 15 := by rw [e, resp_len]
  refine slice_strN_ss hF hN (fun h' t' k a b => ?_) hs ht (by rw [hl, sizeLine_eq]; omega)
  have q := resp_5 ⟨n, by omega⟩
  rw [e, q]
  exact h h' t' k a b
end
local macro_rules | `(tactic| walk_at "subscriptTail Name Slice str ref") => `(tactic| (k_here; first
  | (refine' my_slice3 (s := ⟨_, _, _, _, _⟩) ?e ?n ?F ?N ?_; (case e => assumption); (case n => assumption); (case F => k_asm); (case N => k_asm); intro _ _ _ _ _)
  | (refine' my_slice5 (s := ⟨_, _, _, _, _⟩) ?e ?n ?F ?N ?_; (case e => assumption); (case n => assumption); (case F => k_asm); (case N => k_asm); intro _ _ _ _ _)))
local macro_rules | `(tactic| walk_at "subscriptTail Name Name str int") => `(tactic| (k_here; (refine' my_item ?e ?a ?b ?n ?y ?_; (case e => assumption); (case n => assumption); (case a => omega); (case b => omega); (case y => first | exact resp_q (by omega) | exact resp_a (by omega) | exact resp_s (by omega)))))

def ParseP (n : Nat) (i : Int) (d : PySem.Str) : Prop := (∃ k : Nat, 2 * k ≤ n ∧ i = 5 + 2 * (k : Int) ∧ d = quo k) ∨ (n % 2 = 0 ∧ i = (n : Int) + 6 ∧ d = nameT n)
theorem parse_start {n : Nat} : ParseP n 5 (Str.ofString "") := .inl ⟨0, by omega, by omega, quo_zero⟩
theorem parse_turnA {n k : Nat} {i : Int} (h : 2 * k + 1 < n) (hi : i = 7 + 2 * (k : Int)) : ParseP n i (quo k ++ Str.ofString "\"") := .inl ⟨k + 1, by omega, by omega, quo_more k⟩
theorem parse_turnC {n k : Nat} {i : Int} (h : 2 * k = n) (hi : i = n + 6) : ParseP n i (quo k ++ Str.ofString "¢") := .inr ⟨by omega, by omega, name_even h.symm⟩
local macro_rules | `(tactic| walk_at "binaryOp Add str str") => `(tactic| (k_here; (with_reducible show wpAny _ _ (binaryOp Operator.Add (Value.str _ _) (Value.str _ _)) _ _ _); (refine' PyProof.Rows.add_str ?_ ?z); (case z => (simp only [quo_len, q_len, a_len, sizeLine_eq]; omega)); intro _ _))
theorem parse_endB {n k : Nat} {d : PySem.Str} (h : 2 * k + 1 = n) (hd : d = quo k) : d = nameT n := by rw [hd, name_odd h.symm]
local macro_rules | `(tactic| walk_at "exec While Compare cons nil") => `(tactic| k_extra "my while")
theorem parse_con {prog : Program} {w : World} {p : Program} {loose : List Str} {mean : ExcName → Option Value} {mg mb : Str → Option Value}
   {n : Nat} (hn : n ≤ 126) {rt : Tok} {rs : Str} (hrs : rs = respT n)
   {dp un : Nat} {gd : Option (List Code)} {cn : Str} {cs : Scope} {a : Addr} {ccd : Value} {cl : List (Str × Addr)} {outer : List Env} {A₀ : Around} {base h₀ : Heap} {L : Addr} {m : Str → Option Value} {news : List (Addr × Obj)} {s : Shared} {Q E : Value → Shared → Prop}
   (B : Below A₀ base outer h₀) (F : Fr h₀ L s.heap m) (X : (hd.heap_39 w.params).In h₀) (N : News h₀ L s.heap news) (T : Top p loose mean mg mb h₀) (hk : cs.kind = .function)
   (hd : dp + 1 < recursionLimit) (hu : un + 8 < cLine)
   (hret : ∀ (t : Tok) (h' : Heap) (tk' : Nat), Fr h₀ L h' m → News h₀ L h' news → Q (.str (nameT n) t) { s with heap := h', toks := tk' }) :
   wpAny (model prog w) (ktrTop dp un gd cn cs L a ccd cl outer) (call (.ref 46) [.str rs rt]) Q E s := by
  have hlen : rs.length = n + 15 := by rw [hrs, resp_len]
  refine wpAny_call ?_
  k_dflt ktr_enter
  k_with_none
  k_with "state" => first | exact parse_start | exact parse_turnA (by omega) (by omega) | exact parse_turnC (by omega) (by omega)
  k_with "measure" => omega
  k_with "my while" => k_while (fun _ i d => ParseP n i d) (fun _ i _ => n + 15 - i.toNat) "i" "dirname"; (rename ParseP _ _ _ => hP); (rcases hP with ⟨k, hk1, hk2, rfl⟩ | ⟨hk1, hk2, rfl⟩) ; (rcases (show 2 * k + 1 < n ∨ 2 * k + 1 = n ∨ 2 * k = n by omega) with hk4 | hk4 | hk4)
  k_steps
  all_goals first
    | (refine cb_retS hret ?_ (by k_asm) (by k_asm)
       first | rfl | exact (name_odd (by omega)).symm)
end Mine

namespace Mine
section
variable {prog : Program} {w : World} {A : Around} {E : Value → Shared → Prop} {s : Shared} {value slice : PySem.Expr} {x y : PySem.Str} {t u : Tok} {i : Int} {Q : Value → Shared → Prop} {h₀ : Heap} {L : Addr} {m : Str → Option Value} {news : List (Addr × Obj)}
theorem my_mul {n : Nat} (hn : n ≤ 126) (h : ∀ t' k, Q (.str (quo n) t') { s with toks := k }) : wpAny (model prog w) A (binaryOp .Mult (.str (Str.ofString "\"") t) (.int ((n : Nat) : Int) u)) Q E s :=
  KXi.mul (n := 1) q_len (by omega) (by omega) (by omega) fun t' k _ _ => by rw [quo_mul]; exact h t' k
end
local macro_rules | `(tactic| walk_at "binaryOp Mult str int") => `(tactic| (k_here; (with_reducible show wpAny _ _ (binaryOp Operator.Mult (Value.str _ _) (Value.int _ _)) _ _ _); (refine' my_mul ?n ?_); (case n => omega); intro _ _))
theorem app_len (a b : PySem.Str) : (a ++ b).length = a.length + b.length := PySem.Str.length_append a b
theorem p_len : (Str.ofString "257 \"").length = 5 := by rw [p_is]; rfl
theorem e_len : (Str.ofString "\" is made").length = 9 := by rw [e_is]; rfl
local macro_rules | `(tactic| walk_at "binaryOp Add str str") => `(tactic| (k_here; (with_reducible show wpAny _ _ (binaryOp Operator.Add (Value.str _ _) (Value.str _ _)) _ _ _); (refine' PyProof.Rows.add_str ?_ ?z); (case z => (simp only [app_len, quo_len, q_len, a_len, p_len, e_len, sizeLine_eq]; omega)); intro _ _))

local macro_rules | `(tactic| walk_at "call ref") => `(tactic| (k_here; (refine wpAny_call ?_); k_dflt (refine' code_def ?k1 ?k2 ?k3 ?k4 ?k5 ?kA ?kF ?kK ?k6 ?k7 ?k8 ?k9 ?kB ?_ ?c2 ?c3 ?c4 ?c5; (case kA => exact rfl); (case kF => exact rfl); (case kK => first | exact rfl | assumption); (case k1 => k_asm); (case k2 => k_asm); (case k3 => k_asm); (case k4 => k_asm); (case k5 => k_asm); (case k6 => k_is); (case k7 => k_is); (case k8 => ktr_room); (case k9 => exact BindsTo.of_eq rfl); (case c5 => decide); (case kB => exact locs rfl); (case c2 => exact rfl); (case c3 => exact rfl); (case c4 => exact rfl); k_whole; intro g' L' h' FG' F' N' B' X' T'; (try dsimp only); (try k_fold))))
theorem alt_con {prog : Program} {w : World} {p : Program} {loose : List Str} {mean : ExcName → Option Value} {mg mb : Str → Option Value}
   {rt : Tok}
   {dp un : Nat} {gd : Option (List Code)} {cn : Str} {cs : Scope} {a : Addr} {ccd : Value} {cl : List (Str × Addr)} {outer : List Env} {A₀ : Around} {base h₀ : Heap} {L : Addr} {m : Str → Option Value} {news : List (Addr × Obj)} {s : Shared} {Q E : Value → Shared → Prop}
   (B : Below A₀ base outer h₀) (F : Fr h₀ L s.heap m) (X : (hd.heap_39 w.params).In h₀) (N : News h₀ L s.heap news) (T : Top p loose mean mg mb h₀) (hk : cs.kind = .function)
   (hd : dp + 3 < recursionLimit) (hu : un + 24 < cLine)
   (hret : ∀ (t : Tok) (h' : Heap) (tk' : Nat), Fr h₀ L h' m → News h₀ L h' news → Q (.str (Str.ofString "¢") t) { s with heap := h', toks := tk' }) :
   wpAny (model prog w) (ktrTop dp un gd cn cs L a ccd cl outer) (call (.ref 88) [.str (Str.ofString "\"") rt]) Q E s := by
  refine wpAny_call ?_
  k_dflt ktr_enter
  k_steps
  all_goals (refine cb_retS hret ?_ (by k_asm) (by k_asm))
  all_goals decide +kernel
local macro_rules | `(tactic| walk_at "call ref") => `(tactic| (k_here; (with_reducible show wpAny _ _ (call (Value.ref 88) [Value.str _ _]) _ _ _); k_dflt (refine' alt_con ?k1 ?k2 ?k3 ?k4 ?k5 ?kK ?kd ?ku ?_; (case k1 => k_asm); (case k2 => k_asm); (case k3 => k_asm); (case k4 => k_asm); (case k5 => k_asm); (case kK => (first | exact rfl | assumption)); (case kd => ktr_room); (case ku => ktr_units)); intro t9 h9 tk9 F9 N9; (try dsimp only); (try k_fold)))
local macro_rules | `(tactic| walk_at "call ref") => `(tactic| (k_here; (with_reducible show wpAny _ _ (call (Value.ref 46) [Value.str _ _]) _ _ _); k_dflt (refine' parse_con ?n ?e ?k1 ?k2 ?k3 ?k4 ?k5 ?kK ?kd ?ku ?_; (case e => exact resp_made _); (case n => omega); (case k1 => k_asm); (case k2 => k_asm); (case k3 => k_asm); (case k4 => k_asm); (case k5 => k_asm); (case kK => (first | exact rfl | assumption)); (case kd => ktr_room); (case ku => ktr_units)); intro t9 h9 tk9 F9 N9; (try dsimp only); (try k_fold)))
local macro_rules | `(tactic| walk_at "exec For Name Call cons nil") => `(tactic| (k_here; (rename Fr _ _ _ _ => lF'); (with_unfolding_all refine' For_invVF lF' ?k1 ?k2 ?_; (case k1 => exact rfl); (case k2 => exact rfl); k_whole)))
local macro_rules | `(tactic| walk_at "pyIter ref") => `(tactic| (k_extra "my for"))
def halves (n k : Nat) : List PySem.Str := (List.range k).map fun t => nameT (n / 2 ^ t)
def NamesP (n : Nat) (k : Nat) (left : Int) (ss : List PySem.Str) : Prop := left = ((n / 2 ^ k : Nat) : Int) ∧ ss = halves n k
theorem names_start {n : Nat} : NamesP n ([] : List Int).length ((n : Nat) : Int) [] := ⟨by simp, rfl⟩
theorem half_le (n k : Nat) : n / 2 ^ k ≤ n := Nat.div_le_self _ _
theorem halves_len (n k : Nat) : (halves n k).length = k := by simp [halves]
theorem getD_end {α : Type} (l : List α) (x d : α) : (l ++ [x]).getD (-1 + ((l ++ [x]).length : Int)).toNat d = x := by
  have e : (-1 + ((l ++ [x]).length : Int)).toNat = l.length := by simp; omega
  rw [e]
  simp [List.getD]
theorem names_step {n q : Nat} {pre : List Int} {x : Int} {d : PySem.Str} (h : n / 2 ^ pre.length = q) : NamesP n (pre ++ [x]).length (Txt.count ((halves n pre.length ++ [nameT q]).getD (-1 + ((halves n pre.length ++ [nameT q]).length : Int)).toNat d) (Str.ofString "\"")) (halves n pre.length ++ [nameT q]) := by
  refine ⟨?_, ?_⟩
  · rw [getD_end, name_count, ← h, Nat.div_div_eq_div_mul, List.length_append]
    rfl
  · unfold halves
    rw [List.length_append, List.length_singleton, List.range_succ, List.map_append, List.map_singleton, h]
theorem names_con {prog : Program} {w : World} {p : Program} {loose : List Str} {mean : ExcName → Option Value} {mg mb : Str → Option Value}
   {n : Nat} (hn : n ≤ 126) {rt : Tok}
   {dp un : Nat} {gd : Option (List Code)} {cn : Str} {cs : Scope} {a : Addr} {ccd : Value} {cl : List (Str × Addr)} {outer : List Env} {A₀ : Around} {base h₀ : Heap} {L : Addr} {m : Str → Option Value} {news : List (Addr × Obj)} {s : Shared} {Q E : Value → Shared → Prop}
   (B : Below A₀ base outer h₀) (F : Fr h₀ L s.heap m) (X : (hd.heap_39 w.params).In h₀) (N : News h₀ L s.heap news) (T : Top p loose mean mg mb h₀) (hk : cs.kind = .function)
   (hd : dp + 5 < recursionLimit) (hu : un + 40 < cLine)
   (hret : ∀ (l : Addr) (vs : List Value) (c : Nat) (h' : Heap) (tk' : Nat), Fr h₀ L h' m → News h₀ L h' ((l, listOf vs.toArray c) :: news) → (∀ q ∈ news, q.1 < l) → StrsAre vs (halves n 7) → Q (.ref l) { s with heap := h', toks := tk' }) :
   wpAny (model prog w) (ktrTop dp un gd cn cs L a ccd cl outer) (call (.ref 95) [.int (n : Int) rt]) Q E s := by
  refine wpAny_call ?_
  k_dflt ktr_enter
  have kI0 : IntsAre [] [] := .nil
  k_with_none
  k_with "state" => first | exact names_start | exact names_step (by assumption)
  k_with "my for" => ((k_state_short (fun pre left ss => NamesP n pre.length left ss) "left" "names$"; (unfold NamesP at kInv; rcases kInv with ⟨h1, h2⟩); (have h3 := congrArg List.length h2); (rw [halves_len] at h3); (have h4 : kPre.length < 7 := by omega); (rw [h2] at kFacts); subst h1; (have hq := half_le n kPre.length); (generalize hqe : n / 2 ^ kPre.length = q at *)))
  k_steps
  all_goals (try (refine hret _ _ _ _ _ (by k_asm) (by k_asm) (by k_asm) ?_; unfold NamesP at kInv; rw [kInv.2, rangeKs_length] at kFacts; exact kFacts))
end Mine

namespace Mine
local macro_rules | `(tactic| walk_at "call ref") => `(tactic| (k_here; (refine wpAny_call ?_); k_dflt (refine' code_def ?k1 ?k2 ?k3 ?k4 ?k5 ?kA ?kF ?kK ?k6 ?k7 ?k8 ?k9 ?kB ?_ ?c2 ?c3 ?c4 ?c5; (case kA => exact rfl); (case kF => exact rfl); (case kK => first | exact rfl | assumption); (case k1 => k_asm); (case k2 => k_asm); (case k3 => k_asm); (case k4 => k_asm); (case k5 => k_asm); (case k6 => k_is); (case k7 => k_is); (case k8 => ktr_room); (case k9 => exact BindsTo.of_eq rfl); (case c5 => decide); (case kB => exact locs rfl); (case c2 => exact rfl); (case c3 => exact rfl); (case c4 => exact rfl); k_whole; intro g' L' h' FG' F' N' B' X' T'; (try dsimp only); (try k_fold))))
local macro_rules | `(tactic| walk_at "exec For Name Call cons nil") => `(tactic| (k_here; (rename Fr _ _ _ _ => lF'); (with_unfolding_all refine' For_invVF lF' ?k1 ?k2 ?_; (case k1 => exact rfl); (case k2 => exact rfl); k_whole)))
local macro_rules | `(tactic| walk_at "pyIter ref") => `(tactic| (k_extra "my for"))
/-- does a carry come into place t -/
def carryB (a b t : Nat) : Bool := decide (2 ^ t ≤ a % 2 ^ t + b % 2 ^ t)
def carries (a b k : Nat) : List Bool := (List.range k).map (carryB a b)
theorem carries_len (a b k : Nat) : (carries a b k).length = k := by simp [carries]

theorem carries_start {x y : Nat} : [false] = carries x y ([] : List Int).length.succ := by
  show [false] = [carryB x y 0]
  simp [carryB, Nat.mod_one]
theorem shl_lo {y : Nat} {k : Int} : 0 ≤ (y : Int) * 2 ^ k.toNat := Int.mul_nonneg (by omega) (by exact_mod_cast Nat.zero_le _)
theorem shl_hi {y : Nat} {k : Int} (hy : y < 64) (hk : k ≤ 6) : (y : Int) * 2 ^ k.toNat ≤ 1114111 := by
  have h : k.toNat = 0 ∨ k.toNat = 1 ∨ k.toNat = 2 ∨ k.toNat = 3 ∨ k.toNat = 4 ∨ k.toNat = 5 ∨ k.toNat = 6 := by omega
  rcases h with h | h | h | h | h | h | h <;> (rw [h]; omega)
local macro_rules | `(tactic| walk_at "call builtin:chr") => `(tactic| (k_here; k_dflt (refine' PyProof.Rows.chr_of_range ?a ?b ?_; (case a => first | omega | exact shl_lo); (case b => first | omega | exact shl_hi (by omega) (by omega)))))
theorem carry_step {x y k : Nat} (hk : k < 7) : decide ((127 : Int) < (x : Int) * 2 ^ (7 - (1 + (k : Int))).toNat % 128 + ((((((y : Int) * 2 ^ (7 - (1 + (k : Int))).toNat).toNat : Nat) : Int) % 128).toNat : Nat)) = carryB x y (k + 1) := by
  have h : k = 0 ∨ k = 1 ∨ k = 2 ∨ k = 3 ∨ k = 4 ∨ k = 5 ∨ k = 6 := by omega
  unfold carryB
  rcases h with rfl | rfl | rfl | rfl | rfl | rfl | rfl
  · show decide ((127 : Int) < (x : Int) * 64 % 128 + ((((((y : Int) * 64).toNat : Nat) : Int) % 128).toNat : Nat)) = decide (2 ≤ x % 2 + y % 2)
    exact decide_eq_decide.mpr (by omega)
  · show decide ((127 : Int) < (x : Int) * 32 % 128 + ((((((y : Int) * 32).toNat : Nat) : Int) % 128).toNat : Nat)) = decide (4 ≤ x % 4 + y % 4)
    exact decide_eq_decide.mpr (by omega)
  · show decide ((127 : Int) < (x : Int) * 16 % 128 + ((((((y : Int) * 16).toNat : Nat) : Int) % 128).toNat : Nat)) = decide (8 ≤ x % 8 + y % 8)
    exact decide_eq_decide.mpr (by omega)
  · show decide ((127 : Int) < (x : Int) * 8 % 128 + ((((((y : Int) * 8).toNat : Nat) : Int) % 128).toNat : Nat)) = decide (16 ≤ x % 16 + y % 16)
    exact decide_eq_decide.mpr (by omega)
  · show decide ((127 : Int) < (x : Int) * 4 % 128 + ((((((y : Int) * 4).toNat : Nat) : Int) % 128).toNat : Nat)) = decide (32 ≤ x % 32 + y % 32)
    exact decide_eq_decide.mpr (by omega)
  · show decide ((127 : Int) < (x : Int) * 2 % 128 + ((((((y : Int) * 2).toNat : Nat) : Int) % 128).toNat : Nat)) = decide (64 ≤ x % 64 + y % 64)
    exact decide_eq_decide.mpr (by omega)
  · show decide ((127 : Int) < (x : Int) * 1 % 128 + ((((((y : Int) * 1).toNat : Nat) : Int) % 128).toNat : Nat)) = decide (128 ≤ x % 128 + y % 128)
    exact decide_eq_decide.mpr (by omega)
theorem carries_step {x y : Nat} {pre : List Int} {n : Int} (hk : pre.length < 7) : carries x y (pre.length + 1) ++ [decide ((127 : Int) < (x : Int) * 2 ^ (7 - (1 + (pre.length : Int))).toNat % 128 + ((((((y : Int) * 2 ^ (7 - (1 + (pre.length : Int))).toNat).toNat : Nat) : Int) % 128).toNat : Nat))] = carries x y ((pre ++ [n]).length + 1) := by
  rw [carry_step hk, List.length_append, List.length_singleton]
  unfold carries
  rw [List.range_succ (n := pre.length + 1), List.map_append, List.map_singleton]
section
variable {prog : Program} {w : World} {A : Around} {E : Value → Shared → Prop} {s : Shared} {t u : Tok} {i : Int} {Q : Value → Shared → Prop}
theorem and_127 (h : Q (.int (i % 128) s.toks) { s with toks := s.toks + 1 }) : wpAny (model prog w) A (binaryOp .BitAnd (.int i t) (.int 127 u)) Q E s :=
  PyProof.Rows.and_int (by rw [bitAnd_m7]; exact h)
theorem and_31 (h : Q (.int (i % 32) s.toks) { s with toks := s.toks + 1 }) : wpAny (model prog w) A (binaryOp .BitAnd (.int i t) (.int 31 u)) Q E s :=
  PyProof.Rows.and_int (by rw [bitAnd_m5]; exact h)
end
local macro_rules | `(tactic| walk_at "binaryOp BitAnd int int") => `(tactic| (k_here; first | refine and_127 ?_ | refine and_31 ?_))
theorem bools_app {vs : List Value} {bs : List Bool} {b : Bool} (h : LSm.BoolsAre vs bs) : LSm.BoolsAre (vs ++ [.bool b]) (bs ++ [b]) := by
  induction h with
  | nil => exact .cons _ .nil
  | cons c _ ih => exact .cons c ih
local macro_rules | `(tactic| kst_facts1) => `(tactic| exact bools_app (by assumption))
theorem carries_con {prog : Program} {w : World} {p : Program} {loose : List Str} {mean : ExcName → Option Value} {mg mb : Str → Option Value}
   {x y : Nat} (hx : x < 64) (hy : y < 64) {rt ru : Tok}
   {dp un : Nat} {gd : Option (List Code)} {cn : Str} {cs : Scope} {a : Addr} {ccd : Value} {cl : List (Str × Addr)} {outer : List Env} {A₀ : Around} {base h₀ : Heap} {L : Addr} {m : Str → Option Value} {news : List (Addr × Obj)} {s : Shared} {Q E : Value → Shared → Prop}
   (B : Below A₀ base outer h₀) (F : Fr h₀ L s.heap m) (X : (hd.heap_39 w.params).In h₀) (N : News h₀ L s.heap news) (T : Top p loose mean mg mb h₀) (hk : cs.kind = .function)
   (hd : dp + 5 < recursionLimit) (hu : un + 40 < cLine)
   (hret : ∀ (l : Addr) (vs : List Value) (c : Nat) (h' : Heap) (tk' : Nat), Fr h₀ L h' m → News h₀ L h' ((l, listOf vs.toArray c) :: news) → (∀ q ∈ news, q.1 < l) → LSm.BoolsAre vs (carries x y 8) → Q (.ref l) { s with heap := h', toks := tk' }) :
   wpAny (model prog w) (ktrTop dp un gd cn cs L a ccd cl outer) (call (.ref 102) [.int (x : Int) rt, .int (y : Int) ru]) Q E s := by
  refine wpAny_call ?_
  k_dflt ktr_enter
  have kI0 : IntsAre [] [] := .nil
  k_with_none
  k_with "state" => first | exact carries_start | exact carries_step (by assumption)
  k_with "my for" => ((k_state_short (fun pre bs => bs = carries x y (pre.length + 1)) "carries"; subst kInv; (have h4 : kPre.length < 7 := by omega); (have h3 := carries_len x y (kPre.length + 1)); subst kEq))
  k_steps
  all_goals (try (refine hret _ _ _ _ _ (by k_asm) (by k_asm) (by k_asm) ?_; rw [kInv, rangeKs_length] at kFacts; exact kFacts))
end Mine

namespace Mine
local macro_rules | `(tactic| walk_at "call ref") => `(tactic| (k_here; (refine wpAny_call ?_); k_dflt (refine' code_def ?k1 ?k2 ?k3 ?k4 ?k5 ?kA ?kF ?kK ?k6 ?k7 ?k8 ?k9 ?kB ?_ ?c2 ?c3 ?c4 ?c5; (case kA => exact rfl); (case kF => exact rfl); (case kK => first | exact rfl | assumption); (case k1 => k_asm); (case k2 => k_asm); (case k3 => k_asm); (case k4 => k_asm); (case k5 => k_asm); (case k6 => k_is); (case k7 => k_is); (case k8 => ktr_room); (case k9 => exact BindsTo.of_eq rfl); (case c5 => decide); (case kB => exact locs rfl); (case c2 => exact rfl); (case c3 => exact rfl); (case c4 => exact rfl); k_whole; intro g' L' h' FG' F' N' B' X' T'; (try dsimp only); (try k_fold))))
local macro_rules | `(tactic| walk_at "exec For Name Call cons nil") => `(tactic| (k_here; (rename Fr _ _ _ _ => lF'); (with_unfolding_all refine' For_invVF lF' ?k1 ?k2 ?_; (case k1 => exact rfl); (case k2 => exact rfl); k_whole)))
local macro_rules | `(tactic| walk_at "pyIter ref") => `(tactic| (k_extra "my for"))
local macro_rules | `(tactic| walk_at "call builtin:chr") => `(tactic| (k_here; k_dflt (refine' PyProof.Rows.chr_of_range ?a ?b ?_; (case a => first | omega | exact shl_lo); (case b => first | omega | exact shl_hi (by omega) (by omega)))))
local macro_rules | `(tactic| walk_at "binaryOp BitAnd int int") => `(tactic| (k_here; first | refine and_127 ?_ | refine and_31 ?_))

theorem carries_at {x y k : Nat} (h : k < 8) : (carries x y 8).getD k false = carryB x y k := by
  simp [carries, List.getD, h]
theorem agree_step {x y k : Nat} (hk : k < 5) : decide ((x : Int) * 2 ^ (5 - (1 + (k : Int))).toNat % 32 + ((((((y : Int) * 2 ^ (5 - (1 + (k : Int))).toNat).toNat : Nat) : Int) % 32).toNat : Nat) < 32) = !carryB x y (k + 1) := by
  have h : k = 0 ∨ k = 1 ∨ k = 2 ∨ k = 3 ∨ k = 4 := by omega
  unfold carryB
  rcases h with rfl | rfl | rfl | rfl | rfl
  · show decide ((x : Int) * 16 % 32 + ((((((y : Int) * 16).toNat : Nat) : Int) % 32).toNat : Nat) < 32) = !decide (2 ≤ x % 2 + y % 2)
    rw [← decide_not]
    exact decide_eq_decide.mpr (by omega)
  · show decide ((x : Int) * 8 % 32 + ((((((y : Int) * 8).toNat : Nat) : Int) % 32).toNat : Nat) < 32) = !decide (4 ≤ x % 4 + y % 4)
    rw [← decide_not]
    exact decide_eq_decide.mpr (by omega)
  · show decide ((x : Int) * 4 % 32 + ((((((y : Int) * 4).toNat : Nat) : Int) % 32).toNat : Nat) < 32) = !decide (8 ≤ x % 8 + y % 8)
    rw [← decide_not]
    exact decide_eq_decide.mpr (by omega)
  · show decide ((x : Int) * 2 % 32 + ((((((y : Int) * 2).toNat : Nat) : Int) % 32).toNat : Nat) < 32) = !decide (16 ≤ x % 16 + y % 16)
    rw [← decide_not]
    exact decide_eq_decide.mpr (by omega)
  · show decide ((x : Int) * 1 % 32 + ((((((y : Int) * 1).toNat : Nat) : Int) % 32).toNat : Nat) < 32) = !decide (32 ≤ x % 32 + y % 32)
    rw [← decide_not]
    exact decide_eq_decide.mpr (by omega)
theorem agree_no {x y k : Nat} (hk : k < 5) : ¬ (decide ((x : Int) * 2 ^ (5 - (1 + (k : Int))).toNat % 32 + ((((((y : Int) * 2 ^ (5 - (1 + (k : Int))).toNat).toNat : Nat) : Int) % 32).toNat : Nat) < 32) == (carries x y 8).getD (1 + (k : Int)).toNat false) = true := by
  rw [agree_step hk, show (1 + (k : Int)).toNat = k + 1 by omega, carries_at (by omega)]
  cases carryB x y (k + 1) <;> decide
theorem agree_con {prog : Program} {w : World} {p : Program} {loose : List Str} {mean : ExcName → Option Value} {mg mb : Str → Option Value}
   {x y : Nat} (hx : x < 64) (hy : y < 64) {rt ru : Tok} {lc : Addr} {vs : List Value} {c : Nat} (hb : LSm.BoolsAre vs (carries x y 8))
   {dp un : Nat} {gd : Option (List Code)} {cn : Str} {cs : Scope} {a : Addr} {ccd : Value} {cl : List (Str × Addr)} {outer : List Env} {A₀ : Around} {base h₀ : Heap} {L : Addr} {m : Str → Option Value} {news : List (Addr × Obj)} {s : Shared} {Q E : Value → Shared → Prop}
   (B : Below A₀ base outer h₀) (F : Fr h₀ L s.heap m) (X : (hd.heap_39 w.params).In h₀) (N : News h₀ L s.heap ((lc, listOf vs.toArray c) :: news)) (T : Top p loose mean mg mb h₀) (hk : cs.kind = .function)
   (hd : dp + 5 < recursionLimit) (hu : un + 40 < cLine)
   (hret : ∀ (vs' : List Value) (c' : Nat) (h' : Heap) (tk' : Nat), Fr h₀ L h' m → News h₀ L h' ((lc, listOf vs'.toArray c') :: news) → LSm.BoolsAre vs' (carries x y 8) → Q (.bool true) { s with heap := h', toks := tk' }) :
   wpAny (model prog w) (ktrTop dp un gd cn cs L a ccd cl outer) (call (.ref 109) [.int (x : Int) rt, .int (y : Int) ru, .ref lc]) Q E s := by
  refine wpAny_call ?_
  k_dflt ktr_enter
  have kI0 : IntsAre [] [] := .nil
  k_with_none
  k_with "state" => first | exact rfl
  k_with "my for" => ((k_state_short (fun pre bs => bs = carries x y 8) "carries"; subst kInv; (have h4 : kPre.length < 5 := by omega); (have h3 := carries_len x y 8); subst kEq))
  k_steps
  all_goals first
    | exact absurd (by assumption) (agree_no (by assumption))
    | (subst kInv; exact hret _ _ _ _ (by k_asm) (by k_asm) (by k_asm))
end Mine

namespace Mine
/-- the ways, as the law's loop reckons them -/
def ways (y : Nat) : Nat → Nat
  | 0 => 1
  | k + 1 => ways y k * (y + (k + 1)) / (k + 1)
/-- how many carries come into the places 1 .. k -/
def kum (x y : Nat) : Nat → Nat
  | 0 => 0
  | k + 1 => kum x y k + if carryB x y (k + 1) then 1 else 0
theorem ways_pos (y : Nat) : ∀ k, 0 < ways y k
  | 0 => Nat.one_pos
  | k + 1 => by
    show 0 < ways y k * (y + (k + 1)) / (k + 1)
    refine Nat.div_pos ?_ (Nat.succ_pos k)
    have h := Nat.mul_le_mul (ways_pos y k) (show k + 1 ≤ y + (k + 1) by omega)
    omega
theorem div_add (x y d : Nat) (hd : 0 < d) : (x + y) / d = x / d + y / d + if d ≤ x % d + y % d then 1 else 0 := by
  have e1 := Nat.div_add_mod x d
  have e2 := Nat.div_add_mod y d
  have h1 := Nat.mod_lt x hd
  have h2 := Nat.mod_lt y hd
  have e : x + y = d * (x / d + y / d) + (x % d + y % d) := by rw [Nat.mul_add]; omega
  rw [e, Nat.mul_add_div hd]
  congr 1
  split
  · rename_i h
    rw [Nat.div_eq_sub_div hd h, Nat.div_eq_of_lt (by omega)]
  · rw [Nat.div_eq_of_lt (by omega)]
theorem rel0 (x y k : Nat) : (x + y) / 2 ^ k = x / 2 ^ k + y / 2 ^ k + (carryB x y k).toNat := by
  rw [div_add x y (2 ^ k) (Nat.two_pow_pos k)]
  congr 1
  unfold carryB
  by_cases h : 2 ^ k ≤ x % 2 ^ k + y % 2 ^ k <;> simp [h]
theorem kum_succ (x y k : Nat) : kum x y (k + 1) = kum x y k + (carryB x y (k + 1)).toNat := by
  show kum x y k + (if carryB x y (k + 1) then 1 else 0) = _
  cases carryB x y (k + 1) <;> rfl
/-- Legendre's sum: the halvings of n, k of them -/
def leg (n : Nat) : Nat → Nat
  | 0 => 0
  | k + 1 => leg n k + n / 2 ^ (k + 1)
theorem leg_kum (x y : Nat) : ∀ k, leg (x + y) k = kum x y k + (leg x k + leg y k)
  | 0 => rfl
  | k + 1 => by
    rw [kum_succ]
    show leg (x + y) k + (x + y) / 2 ^ (k + 1) = kum x y k + (carryB x y (k + 1)).toNat + (leg x k + x / 2 ^ (k + 1) + (leg y k + y / 2 ^ (k + 1)))
    rw [leg_kum x y k, rel0 x y (k + 1)]
    omega
/-- Pascal's triangle -/
def chs : Nat → Nat → Nat
  | _, 0 => 1
  | 0, _ + 1 => 0
  | n + 1, k + 1 => chs n k + chs n (k + 1)
theorem chs_zero (n : Nat) : chs n 0 = 1 := by cases n <;> rfl
theorem chs_mul : ∀ n k, chs (n + 1) (k + 1) * (k + 1) = chs n k * (n + 1)
  | 0, 0 => rfl
  | 0, k + 1 => by
    show (chs 0 (k + 1) + chs 0 (k + 2)) * (k + 1 + 1) = chs 0 (k + 1) * 1
    simp [chs]
  | n + 1, 0 => by
    have h : chs (n + 1) 1 * 1 = chs n 0 * (n + 1) := chs_mul n 0
    show (chs (n + 1) 0 + chs (n + 1) 1) * 1 = chs (n + 1) 0 * (n + 1 + 1)
    rw [chs_zero] at h ⊢
    omega
  | n + 1, k + 1 => by
    have h1 := chs_mul n k
    have h2 := chs_mul n (k + 1)
    show (chs (n + 1) (k + 1) + chs (n + 1) (k + 2)) * (k + 1 + 1) = chs (n + 1) (k + 1) * (n + 1 + 1)
    have e : chs (n + 1) (k + 1) = chs n k + chs n (k + 1) := rfl
    have e3 : chs (n + 1) (k + 1) * (n + 1) = chs n k * (n + 1) + chs n (k + 1) * (n + 1) := by rw [e, Nat.add_mul]
    have e4 : (chs (n + 1) (k + 1) + chs (n + 1) (k + 2)) * (k + 1 + 1) = chs (n + 1) (k + 1) * (k + 1) + chs (n + 1) (k + 1) + chs (n + 1) (k + 2) * (k + 1 + 1) := by
      rw [Nat.add_mul, Nat.mul_succ (chs (n + 1) (k + 1))]
    have e5 : chs (n + 1) (k + 1) * (n + 1 + 1) = chs (n + 1) (k + 1) * (n + 1) + chs (n + 1) (k + 1) := Nat.mul_succ _ _
    rw [e4, e5, e3, h1, show chs (n + 1) (k + 2) * (k + 1 + 1) = chs n (k + 1) * (n + 1) from h2]
    omega
theorem ways_chs (y : Nat) : ∀ k, ways y k = chs (y + k) k
  | 0 => (chs_zero _).symm
  | k + 1 => by
    show ways y k * (y + (k + 1)) / (k + 1) = chs (y + k + 1) (k + 1)
    rw [ways_chs y k, ← Nat.add_assoc, ← chs_mul, Nat.mul_div_cancel _ (Nat.succ_pos k)]
theorem ways_mul (y k : Nat) : ways y (k + 1) * (k + 1) = ways y k * (y + k + 1) := by
  rw [ways_chs, ways_chs]
  exact chs_mul _ _
/-- the twos in n, told by Legendre's sums -/
theorem leg_step : ∀ n : Fin 127, leg n.val 7 ≤ leg (n.val + 1) 7 ∧ (n.val + 1) % 2 ^ (leg (n.val + 1) 7 - leg n.val 7) = 0 ∧ (n.val + 1) / 2 ^ (leg (n.val + 1) 7 - leg n.val 7) % 2 = 1 := by decide +kernel
theorem leg_next {n : Nat} (hn : n < 127) : ∃ o, (n + 1) * 2 ^ leg n 7 = o * 2 ^ leg (n + 1) 7 ∧ o % 2 = 1 := by
  obtain ⟨h1, h2, h3⟩ := leg_step ⟨n, hn⟩
  refine ⟨(n + 1) / 2 ^ (leg (n + 1) 7 - leg n 7), ?_, h3⟩
  have e : leg (n + 1) 7 = (leg (n + 1) 7 - leg n 7) + leg n 7 := (Nat.sub_add_cancel h1).symm
  have e2 : (n + 1) / 2 ^ (leg (n + 1) 7 - leg n 7) * 2 ^ (leg (n + 1) 7 - leg n 7) = n + 1 := Nat.div_mul_cancel (Nat.dvd_of_mod_eq_zero h2)
  calc (n + 1) * 2 ^ leg n 7 = (n + 1) / 2 ^ (leg (n + 1) 7 - leg n 7) * 2 ^ (leg (n + 1) 7 - leg n 7) * 2 ^ leg n 7 := by rw [e2]
    _ = (n + 1) / 2 ^ (leg (n + 1) 7 - leg n 7) * 2 ^ ((leg (n + 1) 7 - leg n 7) + leg n 7) := by rw [Nat.mul_assoc, ← Nat.pow_add]
    _ = _ := by rw [← e]
theorem odd_mul {a b : Nat} (ha : a % 2 = 1) (hb : b % 2 = 1) : a * b % 2 = 1 := by rw [Nat.mul_mod, ha, hb]
theorem odd_out {a c : Nat} (ha : a % 2 = 1) (hc : c % 2 = 1) : ∀ {e m : Nat}, a * m = c * 2 ^ e → ∃ o, m = o * 2 ^ e ∧ o % 2 = 1
  | 0, m, h => by
    refine ⟨m, by simp, ?_⟩
    rw [Nat.pow_zero, Nat.mul_one] at h
    rw [← h, Nat.mul_mod, ha, Nat.one_mul, Nat.mod_mod] at hc
    exact hc
  | e + 1, m, h => by
    have h0 : m % 2 = 0 := by
      have : a * m % 2 = 0 := by rw [h, Nat.pow_succ, ← Nat.mul_assoc]; exact Nat.mul_mod_left _ _
      rw [Nat.mul_mod, ha, Nat.one_mul, Nat.mod_mod] at this
      exact this
    obtain ⟨m', rfl⟩ : ∃ m', m = m' * 2 := ⟨m / 2, by omega⟩
    rw [Nat.pow_succ, ← Nat.mul_assoc, ← Nat.mul_assoc] at h
    obtain ⟨o, h1, h2⟩ := odd_out ha hc (Nat.eq_of_mul_eq_mul_right (by decide) h)
    exact ⟨o, by rw [h1, Nat.pow_succ, Nat.mul_assoc], h2⟩
theorem ways_leg {y : Nat} (hy : y < 64) : ∀ k, k < 64 → ∃ o, ways y k * 2 ^ (leg k 7 + leg y 7) = o * 2 ^ leg (y + k) 7 ∧ o % 2 = 1
  | 0, _ => ⟨1, by show 1 * 2 ^ (leg 0 7 + leg y 7) = 1 * 2 ^ leg y 7; rw [show leg 0 7 = 0 by decide, Nat.zero_add], rfl⟩
  | k + 1, hk => by
    obtain ⟨o, h1, h2⟩ := ways_leg hy k (by omega)
    obtain ⟨a, h3, h4⟩ := leg_next (n := k) (by omega)
    obtain ⟨b, h5, h6⟩ := leg_next (n := y + k) (by omega)
    refine odd_out h4 (odd_mul h2 h6) ?_
    show a * (ways y (k + 1) * 2 ^ (leg (k + 1) 7 + leg y 7)) = o * b * 2 ^ leg (y + k + 1) 7
    calc a * (ways y (k + 1) * 2 ^ (leg (k + 1) 7 + leg y 7)) = ways y (k + 1) * (a * 2 ^ leg (k + 1) 7) * 2 ^ leg y 7 := by
          rw [Nat.pow_add]; ac_rfl
      _ = ways y (k + 1) * (k + 1) * 2 ^ (leg k 7 + leg y 7) := by rw [← h3, Nat.pow_add]; ac_rfl
      _ = (y + k + 1) * (ways y k * 2 ^ (leg k 7 + leg y 7)) := by rw [ways_mul]; ac_rfl
      _ = o * ((y + k + 1) * 2 ^ leg (y + k) 7) := by rw [h1]; ac_rfl
      _ = o * b * 2 ^ leg (y + k + 1) 7 := by rw [h5]; ac_rfl
theorem kummer {x y : Nat} (hx : x < 64) (hy : y < 64) : ∃ u, ways y x = u * 2 ^ kum x y 7 ∧ u % 2 = 1 := by
  obtain ⟨o, h1, h2⟩ := ways_leg hy x hx
  refine ⟨o, ?_, h2⟩
  rw [Nat.add_comm y x, leg_kum x y 7, Nat.pow_add 2 (kum x y 7), ← Nat.mul_assoc] at h1
  exact Nat.eq_of_mul_eq_mul_right (Nat.two_pow_pos _) h1
theorem odd_same {u v s t : Nat} (hu : u % 2 = 1) (hv : v % 2 = 1) (h : u * 2 ^ s = v * 2 ^ t) : s = t := by
  induction s generalizing t with
  | zero =>
    cases t with
    | zero => rfl
    | succ t =>
      rw [Nat.pow_zero, Nat.mul_one, Nat.pow_succ, ← Nat.mul_assoc] at h
      omega
  | succ s ih =>
    cases t with
    | zero =>
      rw [Nat.pow_zero, Nat.mul_one, Nat.pow_succ, ← Nat.mul_assoc] at h
      omega
    | succ t =>
      rw [Nat.pow_succ, Nat.pow_succ, ← Nat.mul_assoc, ← Nat.mul_assoc] at h
      rw [ih (Nat.eq_of_mul_eq_mul_right (by decide) h)]
end Mine

namespace Mine
local macro_rules | `(tactic| walk_at "exec For Name Call cons nil") => `(tactic| (k_here; (rename Fr _ _ _ _ => lF'); (with_unfolding_all refine' For_invVF lF' ?k1 ?k2 ?_; (case k1 => exact rfl); (case k2 => exact rfl); k_whole)))
local macro_rules | `(tactic| walk_at "pyIter ref") => `(tactic| (k_extra "my for"))
local macro_rules | `(tactic| walk_at "exec While Compare cons nil") => `(tactic| (k_extra "my while"))
/-- what the while keeps: the ways are w times a power of two -/
def TwosP (W : Nat) (v t : Int) : Prop := ∃ (u s : Nat), v = (u : Int) ∧ t = (s : Int) ∧ 0 < u ∧ u * 2 ^ s = W
theorem ways_step {y k : Nat} : Int.fdiv ((ways y k : Nat) * ((y : Int) + (1 + (k : Int)))) (1 + (k : Int)) = ((ways y (k + 1) : Nat) : Int) := by
  rw [Int.fdiv_eq_ediv_of_nonneg _ (by omega)]
  show _ = ((ways y k * (y + (k + 1)) / (k + 1) : Nat) : Int)
  rw [Int.natCast_ediv, Int.natCast_mul]
  congr 1
  · congr 1
    omega
  · omega
theorem ways_start {y : Nat} : (1 : Int) = ((ways y ([] : List Int).length : Nat) : Int) := rfl
theorem ways_turn {y : Nat} {pre : List Int} {n : Int} (h : n = 1 + (pre.length : Int)) : Int.fdiv ((ways y pre.length : Nat) * ((y : Int) + n)) n = ((ways y (pre ++ [n]).length : Nat) : Int) := by
  rw [h, ways_step, List.length_append]
  rfl
theorem twos_turn {W : Nat} {v t : Int} (h : TwosP W v t) (he : v.fmod 2 = 0) : TwosP W (v.fdiv 2) (t + 1) := by
  obtain ⟨u, s, rfl, rfl, h0, h1⟩ := h
  rw [Int.fmod_eq_emod_of_nonneg _ (by omega)] at he
  rw [Int.fdiv_eq_ediv_of_nonneg _ (by omega)]
  refine ⟨u / 2, s + 1, by omega, by omega, by omega, ?_⟩
  rw [← h1, Nat.pow_succ, Nat.mul_comm (2 ^ s) 2, ← Nat.mul_assoc]
  congr 1
  omega
theorem twos_less {W : Nat} {v t : Int} (h : TwosP W v t) (he : v.fmod 2 = 0) : (v.fdiv 2).toNat < v.toNat := by
  obtain ⟨u, s, rfl, rfl, h0, h1⟩ := h
  rw [Int.fmod_eq_emod_of_nonneg _ (by omega)] at he
  rw [Int.fdiv_eq_ediv_of_nonneg _ (by omega)]
  omega
theorem twos_end {x y : Nat} (hx : x < 64) (hy : y < 64) {v t : Int} (h : TwosP (ways y x) v t) (ho : ¬ v.fmod 2 = 0) : t = ((kum x y 7 : Nat) : Int) := by
  obtain ⟨u, s, rfl, rfl, h0, h1⟩ := h
  rw [Int.fmod_eq_emod_of_nonneg _ (by omega)] at ho
  obtain ⟨o, h2, h3⟩ := kummer hx hy
  rw [odd_same (u := u) (v := o) (by omega) h3 (h1.trans h2)]
theorem twos_start {y k : Nat} : TwosP (ways y k) ((ways y k : Nat) : Int) 0 := ⟨ways y k, 0, rfl, rfl, ways_pos y k, by simp⟩
theorem twos_con {prog : Program} {w : World} {p : Program} {loose : List Str} {mean : ExcName → Option Value} {mg mb : Str → Option Value}
   {x y : Nat} (hx : x < 64) (hy : y < 64) {rt ru : Tok}
   {dp un : Nat} {gd : Option (List Code)} {cn : Str} {cs : Scope} {a : Addr} {ccd : Value} {cl : List (Str × Addr)} {outer : List Env} {A₀ : Around} {base h₀ : Heap} {L : Addr} {m : Str → Option Value} {news : List (Addr × Obj)} {s : Shared} {Q E : Value → Shared → Prop}
   (B : Below A₀ base outer h₀) (F : Fr h₀ L s.heap m) (X : (hd.heap_39 w.params).In h₀) (N : News h₀ L s.heap news) (T : Top p loose mean mg mb h₀) (hk : cs.kind = .function)
   (hd : dp + 5 < recursionLimit) (hu : un + 40 < cLine)
   (hret : ∀ (t : Tok) (h' : Heap) (tk' : Nat), Fr h₀ L h' m → News h₀ L h' news → Q (.int ((kum x y 7 : Nat) : Int) t) { s with heap := h', toks := tk' }) :
   wpAny (model prog w) (ktrTop dp un gd cn cs L a ccd cl outer) (call (.ref 116) [.int (x : Int) rt, .int (y : Int) ru]) Q E s := by
  refine wpAny_call ?_
  k_dflt ktr_enter
  have kI0 : IntsAre [] [] := .nil
  k_with_none
  k_with "state" => first | exact ways_start | exact ways_turn (by assumption) | exact twos_start | exact twos_turn (by assumption) (by assumption)
  k_with "my for" => ((k_state (fun pre v => v = ((ways y pre.length : Nat) : Int)) "ways"; subst kInv; rotate_left; (rw [rangeKs_length, show ((x : Int) + 1 - 1).toNat = x by omega] at kInv); subst kInv; rotate_left))
  k_with "measure" => first | exact twos_less (by assumption) (by assumption)
  k_with "my while" => ((k_while (fun _ v t => TwosP (ways y x) v t) (fun _ v _ => v.toNat) "ways" "twos"))
  k_steps
  all_goals (try (refine cb_retI hret ?_ (by k_asm) (by k_asm); exact twos_end hx hy (by assumption) (by assumption)))
end Mine

namespace Mine
theorem div_half (x k : Nat) : x / 2 ^ k / 2 = x / 2 ^ (k + 1) := by rw [Nat.div_div_eq_div_mul, Nat.pow_succ]
theorem rel1 (x y k : Nat) : (x + y) / 2 ^ k / 2 = x / 2 ^ k / 2 + y / 2 ^ k / 2 + (carryB x y (k + 1)).toNat := by
  rw [div_half, div_half, div_half, rel0]
theorem halves_at {n k : Nat} (h : k < 7) : (halves n 7)[k]? = some (nameT (n / 2 ^ k)) := by
  simp [halves, h]
theorem even_of {p q z : Nat} {c : Bool} (hz : z = p + q + c.toNat) (h : (((decide (p % 2 = 0)) == (decide (q % 2 = 0))) != c) = true) : z % 2 = 0 := by
  cases c <;> simp at h hz <;> omega
theorem odd_of {p q z : Nat} {c : Bool} (hz : z = p + q + c.toNat) (h : ¬ (((decide (p % 2 = 0)) == (decide (q % 2 = 0))) != c) = true) : z % 2 = 1 := by
  cases c <;> simp at h hz <;> omega
theorem due_even {z : Nat} {i : Int} (h : z % 2 = 0) (hi : i = ((z / 2 : Nat) : Int)) : nameT z = quo i.toNat ++ Str.ofString "¢" := by
  rw [hi, Int.toNat_natCast]
  exact (name_even (by omega)).symm
theorem due_odd {z : Nat} {i : Int} (h : z % 2 = 1) (hi : i = ((z / 2 : Nat) : Int)) : nameT z = quo i.toNat := by
  rw [hi, Int.toNat_natCast]
  exact name_odd (by omega)
end Mine

namespace Mine
section
variable {prog : Program} {w : World} {A : Around} {E : Value → Shared → Prop} {s : Shared} {value slice : PySem.Expr} {a b : PySem.Str} {t u : Tok} {i : Int} {Q : Value → Shared → Prop} {h₀ : Heap} {L l : Addr} {m : Str → Option Value} {news : List (Addr × Obj)} {vs : List Value} {n k c p x y : Nat} {d : Bool}
theorem my_name (hk : k < 7) (hi : i = (k : Int)) (N : News h₀ L s.heap news) (hm : (l, listOf vs.toArray c) ∈ news) (hS : StrsAre vs (halves n 7)) (hp : n / 2 ^ k = p) (h : ∀ t, Q (.str (nameT p) t) s)
    (hs : subscripted slice false (.ref l) (.int i u) = operate [.ref l, .int i u] (getItem (.ref l) (.int i u)) := by with_unfolding_all rfl) :
    wpAny (model prog w) A (subscriptTail value slice (.ref l) (.int i u)) Q E s := by
  obtain ⟨t, e⟩ := hS.get k _ (halves_at hk)
  have hl : s.heap.IsList l vs.toArray := PySem.IsL.isList (n := c) (N _ hm).1
  rw [hp] at e
  exact tail_any hl.typeIs slot_list_getitem.lookup (wpAny_getItem_list hl (by omega) (by omega) (by rw [hi]; simpa using e) (h t)) hs
theorem my_bool (hk : k < 8) (hi : i = (k : Int)) (N : News h₀ L s.heap news) (hm : (l, listOf vs.toArray c) ∈ news) (hb : LSm.BoolsAre vs (carries x y 8)) (hd : carryB x y k = d) (h : Q (.bool d) s)
    (hs : subscripted slice false (.ref l) (.int i u) = operate [.ref l, .int i u] (getItem (.ref l) (.int i u)) := by with_unfolding_all rfl) :
    wpAny (model prog w) A (subscriptTail value slice (.ref l) (.int i u)) Q E s := by
  refine kbo_sub N hm hb (by omega) (by rw [carries_len]; omega) (by omega) ?_ hs
  rw [hi, Int.toNat_natCast, carries_at hk, hd]
  exact h
theorem my_bool0 (hk : k < 7) (hi : i = (k : Int)) (N : News h₀ L s.heap news) (hm : (l, listOf vs.toArray c) ∈ news) (hb : LSm.BoolsAre vs (carries x y 8)) (hd : carryB x y k = d) (h : Q (.bool d) s)
    (hs : subscripted slice false (.ref l) (.int i u) = operate [.ref l, .int i u] (getItem (.ref l) (.int i u)) := by with_unfolding_all rfl) :
    wpAny (model prog w) A (subscriptTail value slice (.ref l) (.int i u)) Q E s := my_bool (by omega) hi N hm hb hd h hs
theorem my_bool1 (hk : k < 7) (hi : i = (k : Int) + 1) (N : News h₀ L s.heap news) (hm : (l, listOf vs.toArray c) ∈ news) (hb : LSm.BoolsAre vs (carries x y 8)) (hd : carryB x y (k + 1) = d) (h : Q (.bool d) s)
    (hs : subscripted slice false (.ref l) (.int i u) = operate [.ref l, .int i u] (getItem (.ref l) (.int i u)) := by with_unfolding_all rfl) :
    wpAny (model prog w) A (subscriptTail value slice (.ref l) (.int i u)) Q E s := my_bool (k := k + 1) (by omega) (by omega) N hm hb hd h hs
theorem my_count (h : Q (.int ((p / 2 : Nat) : Int) s.toks) { s with toks := s.toks + 1 }) : wpAny (model prog w) A (call (.builtin "str.count") [.str (nameT p) t, .str (Str.ofString "\"") u]) Q E s :=
  SC.count (by rw [name_count]; exact h)
theorem my_has (h : Q (.bool (decide (p % 2 = 0))) s) : wpAny (model prog w) A (compareOp .In (.str (Str.ofString "¢") u) (.str (nameT p) t)) Q E s :=
  in_str (by
    have e := name_has p
    unfold Txt.contains at e
    rw [e]; exact h)
theorem my_ne (e : a = b) (h : Q (.bool false) s) : wpAny (model prog w) A (compareOp .NotEq (.str a t) (.str b u)) Q E s :=
  PyProof.Rows.ne_str (by rw [e, bne_self_eq_false]; exact h)
theorem my_mulI (h0 : 0 ≤ i) (h1 : i ≤ 126) (h : ∀ t' k, Q (.str (quo i.toNat) t') { s with toks := k }) : wpAny (model prog w) A (binaryOp .Mult (.str (Str.ofString "\"") t) (.int i u)) Q E s :=
  KXi.mul (n := 1) q_len (by omega) (by omega) (by omega) fun t' k _ _ => by
    have e := quo_mul i.toNat
    rw [Int.toNat_of_nonneg h0] at e
    rw [e]; exact h t' k
end
theorem names_conI {prog : Program} {w : World} {p : Program} {loose : List Str} {mean : ExcName → Option Value} {mg mb : Str → Option Value}
   {n : Nat} {i : Int} (hn : n ≤ 126) (hi : i = (n : Int)) {rt : Tok}
   {dp un : Nat} {gd : Option (List Code)} {cn : Str} {cs : Scope} {a : Addr} {ccd : Value} {cl : List (Str × Addr)} {outer : List Env} {A₀ : Around} {base h₀ : Heap} {L : Addr} {m : Str → Option Value} {news : List (Addr × Obj)} {s : Shared} {Q E : Value → Shared → Prop}
   (B : Below A₀ base outer h₀) (F : Fr h₀ L s.heap m) (X : (hd.heap_39 w.params).In h₀) (N : News h₀ L s.heap news) (T : Top p loose mean mg mb h₀) (hk : cs.kind = .function)
   (hd : dp + 5 < recursionLimit) (hu : un + 40 < cLine)
   (hret : ∀ (l : Addr) (vs : List Value) (c : Nat) (h' : Heap) (tk' : Nat), Fr h₀ L h' m → News h₀ L h' ((l, listOf vs.toArray c) :: news) → (∀ q ∈ news, q.1 < l) → StrsAre vs (halves n 7) → Q (.ref l) { s with heap := h', toks := tk' }) :
   wpAny (model prog w) (ktrTop dp un gd cn cs L a ccd cl outer) (call (.ref 95) [.int i rt]) Q E s := by
  subst hi
  exact names_con hn B F X N T hk hd hu hret
local macro_rules | `(tactic| walk_at "call ref") => `(tactic| (k_here; (with_reducible show wpAny _ _ (call (Value.ref 88) [Value.str _ _]) _ _ _); k_dflt (refine' alt_con  ?k1 ?k2 ?k3 ?k4 ?k5 ?kK ?kd ?ku ?_;  (case k1 => k_asm); (case k2 => k_asm); (case k3 => k_asm); (case k4 => k_asm); (case k5 => k_asm); (case kK => first | exact rfl | assumption); (case kd => ktr_room); (case ku => ktr_units)); intro t9 h9 tk9 F9 N9; (try dsimp only); (try k_fold)))
local macro_rules | `(tactic| walk_at "call ref") => `(tactic| (k_here; (with_reducible show wpAny _ _ (call (Value.ref 102) [Value.int _ _, Value.int _ _]) _ _ _); k_dflt (refine' carries_con ?hx ?hy ?k1 ?k2 ?k3 ?k4 ?k5 ?kK ?kd ?ku ?_; (case hx => assumption); (case hy => assumption); (case k1 => k_asm); (case k2 => k_asm); (case k3 => k_asm); (case k4 => k_asm); (case k5 => k_asm); (case kK => first | exact rfl | assumption); (case kd => ktr_room); (case ku => ktr_units)); intro l9 vs9 c9 h9 tk9 F9 N9 l1 hS9; (try k_lt l1); (try dsimp only); (try k_fold)))
local macro_rules | `(tactic| walk_at "call ref") => `(tactic| (k_here; (with_reducible show wpAny _ _ (call (Value.ref 109) [Value.int _ _, Value.int _ _, Value.ref _]) _ _ _); k_dflt (refine' agree_con ?hx ?hy ?hb ?k1 ?k2 ?k3 ?k4 ?k5 ?kK ?kd ?ku ?_; (case hx => assumption); (case hy => assumption); (case hb => assumption); (case k1 => k_asm); (case k2 => k_asm); (case k3 => k_asm); (case k4 => k_asm); (case k5 => k_asm); (case kK => first | exact rfl | assumption); (case kd => ktr_room); (case ku => ktr_units)); intro vs9 c9 h9 tk9 F9 N9 hS9; (try dsimp only); (try k_fold)))
local macro_rules | `(tactic| walk_at "call ref") => `(tactic| (k_here; (with_reducible show wpAny _ _ (call (Value.ref 95) [Value.int _ _]) _ _ _); k_dflt (refine' names_conI ?hx ?he ?k1 ?k2 ?k3 ?k4 ?k5 ?kK ?kd ?ku ?_; (case he => first | exact rfl | exact (Int.natCast_add _ _).symm); (case hx => omega); (case k1 => k_asm); (case k2 => k_asm); (case k3 => k_asm); (case k4 => k_asm); (case k5 => k_asm); (case kK => first | exact rfl | assumption); (case kd => ktr_room); (case ku => ktr_units)); intro l9 vs9 c9 h9 tk9 F9 N9 l1 hS9; (try k_lt l1); (try dsimp only); (try k_fold)))
local macro_rules | `(tactic| walk_at "call ref") => `(tactic| (k_here; (with_reducible show wpAny _ _ (call (Value.ref 116) [Value.int _ _, Value.int _ _]) _ _ _); k_dflt (refine' twos_con ?hx ?hy ?k1 ?k2 ?k3 ?k4 ?k5 ?kK ?kd ?ku ?_; (case hx => assumption); (case hy => assumption); (case k1 => k_asm); (case k2 => k_asm); (case k3 => k_asm); (case k4 => k_asm); (case k5 => k_asm); (case kK => first | exact rfl | assumption); (case kd => ktr_room); (case ku => ktr_units)); intro t9 h9 tk9 F9 N9; (try dsimp only); (try k_fold)))
local macro_rules | `(tactic| walk_at "exec For Name Call cons nil") => `(tactic| (k_here; (rename Fr _ _ _ _ => lF'); (with_unfolding_all refine' For_invVF lF' ?k1 ?k2 ?_; (case k1 => exact rfl); (case k2 => exact rfl); k_whole)))
local macro_rules | `(tactic| walk_at "pyIter ref") => `(tactic| (k_extra "my for"))
local macro_rules | `(tactic| walk_at "subscriptTail") => `(tactic| (k_here; (with_reducible show wpAny _ _ (subscriptTail _ _ (Value.ref _) (Value.int _ _)) _ _ _); k_dflt (refine' my_name ?hk ?hi ?N ?hm ?hS ?hp ?_; (case hk => assumption); (case hi => omega); (case N => k_asm); (case hm => k_memK); (case hS => assumption); (case hp => assumption)); intro _))
local macro_rules | `(tactic| walk_at "subscriptTail") => `(tactic| (k_here; (with_reducible show wpAny _ _ (subscriptTail _ _ (Value.ref _) (Value.int _ _)) _ _ _); k_dflt (refine' my_bool0 ?hk ?hi ?N ?hm ?hb ?hd ?_; (case hk => assumption); (case hi => omega); (case N => k_asm); (case hm => k_memK); (case hb => assumption); (case hd => assumption))))
local macro_rules | `(tactic| walk_at "subscriptTail") => `(tactic| (k_here; (with_reducible show wpAny _ _ (subscriptTail _ _ (Value.ref _) (Value.int _ _)) _ _ _); k_dflt (refine' my_bool1 ?hk ?hi ?N ?hm ?hb ?hd ?_; (case hk => assumption); (case hi => omega); (case N => k_asm); (case hm => k_memK); (case hb => assumption); (case hd => assumption))))
local macro_rules | `(tactic| walk_at "call builtin:str.count") => `(tactic| (k_here; k_dflt (refine my_count ?_)))
local macro_rules | `(tactic| walk_at "compareOp In str str") => `(tactic| (k_here; k_dflt (refine my_has ?_)))
local macro_rules | `(tactic| walk_at "binaryOp Mult str int") => `(tactic| (k_here; k_dflt (refine' my_mulI ?h0 ?h1 ?_; (case h0 => omega); (case h1 => omega)); intro _ _))
local macro_rules | `(tactic| walk_at "binaryOp Add str str") => `(tactic| (k_here; (with_reducible show wpAny _ _ (binaryOp Operator.Add (Value.str _ _) (Value.str _ _)) _ _ _); (refine' PyProof.Rows.add_str ?_ ?z); (case z => (simp only [app_len, quo_len, q_len, a_len, p_len, e_len, sizeLine_eq]; omega)); intro _ _))
theorem kum_start {x y : Nat} : (0 : Int) = ((kum x y ([] : List Int).length : Nat) : Int) := rfl
theorem kum_turn {x y p q z : Nat} {d : Bool} {pre : List Int} {n : Int} (r1 : z / 2 = p / 2 + q / 2 + d.toNat) (hd : carryB x y (pre.length + 1) = d) :
    ((kum x y pre.length : Nat) : Int) + ((z / 2 : Nat) : Int) - (((p / 2 : Nat) : Int) + ((q / 2 : Nat) : Int)) = ((kum x y (pre ++ [n]).length : Nat) : Int) := by
  rw [List.length_append, List.length_singleton, kum_succ, hd]
  omega
theorem odd_of' {p q z : Nat} {c : Bool} (hz : z = p + q + c.toNat) (h : (((decide (p % 2 = 0)) == (decide (q % 2 = 0))) != c) = false) : z % 2 = 1 := odd_of hz (by rw [h]; decide)
theorem side1 {p q z : Nat} {d : Bool} (r1 : z / 2 = p / 2 + q / 2 + d.toNat) (hd : d = true) : ((p / 2 : Nat) : Int) + ((q / 2 : Nat) : Int) + 1 = ((z / 2 : Nat) : Int) := by
  rw [r1, hd]; rfl
theorem side0 {p q z : Nat} {d : Bool} (r1 : z / 2 = p / 2 + q / 2 + d.toNat) (hd : d = false) : ((p / 2 : Nat) : Int) + ((q / 2 : Nat) : Int) + 0 = ((z / 2 : Nat) : Int) := by
  rw [r1, hd]; rfl
theorem pair_end {x y : Nat} {v : Int} (h : v = ((kum x y (rangeKs 0 (7 - 0 : Int).toNat).length : Nat) : Int)) : (v == ((kum x y 7 : Nat) : Int)) = true := by
  rw [h, rangeKs_length]
  exact beq_self_eq_true _
local macro_rules | `(tactic| walk_at "compareOp NotEq str str") => `(tactic| (k_here; k_dflt (refine' my_ne ?e ?_; (case e => first
  | exact due_even (even_of (by assumption) (by assumption)) (by first | exact side1 (by assumption) (by assumption) | exact side0 (by assumption) (by assumption))
  | exact due_odd (odd_of' (by assumption) (by assumption)) (by first | exact side1 (by assumption) (by assumption) | exact side0 (by assumption) (by assumption))))))
theorem pair_con {prog : Program} {w : World} {p : Program} {loose : List Str} {mean : ExcName → Option Value} {mg mb : Str → Option Value}
   {x y : Nat} (hx : x < 64) (hy : y < 64) {rt ru : Tok}
   {dp un : Nat} {gd : Option (List Code)} {cn : Str} {cs : Scope} {a : Addr} {ccd : Value} {cl : List (Str × Addr)} {outer : List Env} {A₀ : Around} {base h₀ : Heap} {L : Addr} {m : Str → Option Value} {news : List (Addr × Obj)} {s : Shared} {Q E : Value → Shared → Prop}
   (B : Below A₀ base outer h₀) (F : Fr h₀ L s.heap m) (X : (hd.heap_39 w.params).In h₀) (N : News h₀ L s.heap news) (T : Top p loose mean mg mb h₀) (hk : cs.kind = .function)
   (hd : dp + 8 < recursionLimit) (hu : un + 80 < cLine)
   (hret : ∀ (h' : Heap) (tk' : Nat), Fr h₀ L h' m → News h₀ L h' news → Q (.bool true) { s with heap := h', toks := tk' }) :
   wpAny (model prog w) (ktrTop dp un gd cn cs L a ccd cl outer) (call (.ref 123) [.int (x : Int) rt, .int (y : Int) ru]) Q E s := by
  refine wpAny_call ?_
  k_dflt ktr_enter
  have kI0 : IntsAre [] [] := .nil
  k_with_none
  k_with "state" => first | exact kum_start | exact kum_turn (by assumption) (by assumption)
  k_with "my for" => ((k_state_short (fun pre v => v = ((kum x y pre.length : Nat) : Int)) "more"; subst kInv; (have h4 : kPre.length < 7 := by omega); (have r0 := rel0 x y kPre.length); (have r1 := rel1 x y kPre.length); (have hp0 : x / 2 ^ kPre.length ≤ x := Nat.div_le_self _ _); (have hq0 : y / 2 ^ kPre.length ≤ y := Nat.div_le_self _ _); (generalize hp : x / 2 ^ kPre.length = p at r0 r1 hp0); (generalize hq : y / 2 ^ kPre.length = q at r0 r1 hq0); (generalize hz : (x + y) / 2 ^ kPre.length = z at r0 r1); (generalize hc : carryB x y kPre.length = c at r0); (generalize hd : carryB x y (kPre.length + 1) = d at r1)))
  k_steps
  all_goals (try (rw [pair_end kInv]; exact hret _ _ (by k_asm) (cb_drop (by assumption) (by kcj_all))))
end Mine

namespace Mine
/-- every fourth number from k on, as the slice takes them -/
def fourths (ns : List Int) (k : Int) : List Int :=
  (sliceRange (sliceBounds (some k) none (some 4) ns.length).1 (sliceBounds (some k) none (some 4) ns.length).2.1 (sliceBounds (some k) none (some 4) ns.length).2.2).filterMap (ns[·]?)
theorem ints_none {vs : List Value} {ns : List Int} (h : IntsAre vs ns) {i : Nat} (e : ns[i]? = none) : vs[i]? = none := by
  rw [List.getElem?_eq_none_iff] at e ⊢
  rw [h.length]; exact e
theorem ints_pick {vs : List Value} {ns : List Int} (h : IntsAre vs ns) : ∀ is : List Nat, IntsAre (is.filterMap (vs.toArray[·]?)) (is.filterMap (ns[·]?))
  | [] => .nil
  | i :: r => by
    cases e : ns[i]? with
    | none =>
      have e2 : vs.toArray[i]? = none := by simpa using ints_none h e
      rw [List.filterMap_cons_none e2, List.filterMap_cons_none e]
      exact ints_pick h r
    | some n =>
      obtain ⟨t, e1⟩ := h.get i n e
      have e2 : vs.toArray[i]? = some (.int n t) := by simpa using e1
      rw [List.filterMap_cons_some e2, List.filterMap_cons_some e]
      exact .cons n t (ints_pick h r)
theorem ints_fourths {vs : List Value} {ns : List Int} (h : IntsAre vs ns) (k : Int) : IntsAre (slicePick vs.toArray (some k) none (some 4)).toList (fourths ns k) := by
  have e : vs.toArray.size = ns.length := by rw [List.size_toArray, h.length]
  unfold slicePick fourths
  rw [e]
  exact ints_pick h _
section
variable {prog : Program} {w : World} {A : Around} {E : Value → Shared → Prop} {s : Shared} {value slice : PySem.Expr} {k : Int} {Q : Value → Shared → Prop} {h₀ : Heap} {L l : Addr} {m : Str → Option Value} {news : List (Addr × Obj)} {vs : List Value} {ns : List Int} {vl vk : Value} {ops : List Value}
theorem my_fourths (F : Fr h₀ L s.heap m) (N : News h₀ L s.heap news) (hl : s.heap.IsList l vs.toArray) (pl : IsPart vl (some k)) (pk : IsPart vk (some 4)) (hi : IntsAre vs ns)
    (h : ∀ D ws h', Fr h₀ L h' m → News h₀ L h' ((D, listOf (List.toArray ws) 0) :: news) → (∀ p ∈ news, p.1 < D) → IntsAre ws (fourths ns k) → Q (.ref D) { s with heap := h' })
    (hs : subscripted slice false (.ref l) (.ref s.heap.objs.size) = operate ops (getItem (.ref l) (.ref s.heap.objs.size))) (ht : ∀ r, letTemporaryGo value (.ref l) r = pure ()) (hz : vs.toArray.size ≤ sizeLine) :
    wpAny (model prog w) A (subscriptTail value slice (.ref l) (.ref s.heap.objs.size)) Q E { s with heap := s.heap.push { cls := .type "slice", data := .fields #[vl, .none, vk] } } := by
  refine slice_list3 F N hl pl .none pk (by decide) (fun h' F' N' => h _ (slicePick vs.toArray (some k) none (some 4)).toList h' F' ?_ (fun p hp => Nat.lt_succ_of_lt (Heap.lt_size (N p hp).1)) (ints_fourths hi k)) hs ht hz
  rw [Array.toArray_toList]
  exact N'
end
local macro_rules | `(tactic| walk_at "subscriptTail Name Slice ref ref") => `(tactic| (k_here; (with_reducible show wpAny _ _ (subscriptTail _ (PySem.Expr.Slice (some _) none (some _) _) (Value.ref _) (Value.ref _)) _ _ _); k_dflt ((refine' my_fourths ?F ?N ?l ?p ?k ?i ?_ ?s ?t ?z; (case F => k_asm); (case N => k_asm); (case l => kmk_list); (case p => exact IsPart.int _ _); (case k => exact IsPart.int _ _); (case i => l_ints); (case s => with_unfolding_all rfl); (case t => kmk_pure); (case z => kmk_size))); intro D' ws' h' F' N' l1 hI'; (try k_lt l1); (try k_sweep)))
theorem pair_conI {prog : Program} {w : World} {p : Program} {loose : List Str} {mean : ExcName → Option Value} {mg mb : Str → Option Value}
   {i j : Int} (hi0 : 0 ≤ i) (hi1 : i < 64) (hj0 : 0 ≤ j) (hj1 : j < 64) {rt ru : Tok}
   {dp un : Nat} {gd : Option (List Code)} {cn : Str} {cs : Scope} {a : Addr} {ccd : Value} {cl : List (Str × Addr)} {outer : List Env} {A₀ : Around} {base h₀ : Heap} {L : Addr} {m : Str → Option Value} {news : List (Addr × Obj)} {s : Shared} {Q E : Value → Shared → Prop}
   (B : Below A₀ base outer h₀) (F : Fr h₀ L s.heap m) (X : (hd.heap_39 w.params).In h₀) (N : News h₀ L s.heap news) (T : Top p loose mean mg mb h₀) (hk : cs.kind = .function)
   (hd : dp + 8 < recursionLimit) (hu : un + 80 < cLine)
   (hret : ∀ (h' : Heap) (tk' : Nat), Fr h₀ L h' m → News h₀ L h' news → Q (.bool true) { s with heap := h', toks := tk' }) :
   wpAny (model prog w) (ktrTop dp un gd cn cs L a ccd cl outer) (call (.ref 123) [.int i rt, .int j ru]) Q E s := by
  obtain ⟨x, rfl⟩ := Int.eq_ofNat_of_zero_le hi0
  obtain ⟨y, rfl⟩ := Int.eq_ofNat_of_zero_le hj0
  exact pair_con (by omega) (by omega) B F X N T hk hd hu hret
local macro_rules | `(tactic| walk_at "call ref") => `(tactic| (k_here; (with_reducible show wpAny _ _ (call (Value.ref 123) [Value.int _ _, Value.int _ _]) _ _ _); k_dflt ((refine' pair_conI ?a0 ?a1 ?b0 ?b1 ?k1 ?k2 ?k3 ?k4 ?k5 ?kK ?kd ?ku ?_; (case a0 => exact fmod_lo _ (by decide)); (case a1 => exact fmod_hi _ (by decide)); (case b0 => exact fmod_lo _ (by decide)); (case b1 => exact fmod_hi _ (by decide)); (case k1 => k_asm); (case k2 => k_asm); (case k3 => k_asm); (case k4 => k_asm); (case k5 => k_asm); (case kK => first | exact rfl | assumption); (case kd => ktr_room); (case ku => ktr_units))); intro h9 tk9 F9 N9; (try dsimp only); (try k_fold)))
end Mine
section
open Mine
local macro_rules | `(tactic| walk_at "subscriptTail Name Slice ref ref") => `(tactic| (k_here; (with_reducible show wpAny _ _ (subscriptTail _ (PySem.Expr.Slice (some _) none (some _) _) (Value.ref _) (Value.ref _)) _ _ _); k_dflt ((refine' my_fourths ?F ?N ?l ?p ?k ?i ?_ ?s ?t ?z; (case F => k_asm); (case N => k_asm); (case l => kmk_list); (case p => exact IsPart.int _ _); (case k => exact IsPart.int _ _); (case i => l_ints); (case s => with_unfolding_all rfl); (case t => kmk_pure); (case z => kmk_size))); intro D' ws' h' F' N' l1 hI'; (try k_lt l1); (try k_sweep)))
local macro_rules | `(tactic| walk_at "call ref") => `(tactic| (k_here; (with_reducible show wpAny _ _ (call (Value.ref 123) [Value.int _ _, Value.int _ _]) _ _ _); k_dflt ((refine' pair_conI ?a0 ?a1 ?b0 ?b1 ?k1 ?k2 ?k3 ?k4 ?k5 ?kK ?kd ?ku ?_; (case a0 => exact fmod_lo _ (by decide)); (case a1 => exact fmod_hi _ (by decide)); (case b0 => exact fmod_lo _ (by decide)); (case b1 => exact fmod_hi _ (by decide)); (case k1 => k_asm); (case k2 => k_asm); (case k3 => k_asm); (case k4 => k_asm); (case k5 => k_asm); (case kK => first | exact rfl | assumption); (case kd => ktr_room); (case ku => ktr_units))); intro h9 tk9 F9 N9; (try dsimp only); (try k_fold)))
set_option maxRecDepth 100000 in
set_option maxHeartbeats 8000000 in
theorem PySem.Challenge.cw_il0199_01_holds : PySem.Challenge.rw_il0199_01.Holds := by
  k_with_none
  exact Mine.hd (by
    k_go0
    (all_goals try k_fold)
    k_steps)
end
