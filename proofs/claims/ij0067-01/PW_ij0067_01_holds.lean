import PyProof.Rows.All
import Wide.All
import OpenK.AllK
import Wide.FinOn
import PySem.Challenge.RW_ij0067_01
open PySem PySem.W PyProof.Rows
set_option Elab.async false
namespace Mine
set_option maxRecDepth 100000 in
set_option maxHeartbeats 8000000 in
open_top hd for PySem.Challenge.rw_ij0067_01
end Mine
open Mine

/-! P1 -/
section
namespace Mine
/-- a text by its codes -/
def mkS (l : List Nat) : Str := ⟨l.toArray⟩
/-- the four signs alone -/
def Sgn (l : List Nat) : Prop := ∀ c ∈ l, c = 39 ∨ c = 34 ∨ c = 92 ∨ c = 97
def escC (q c : Nat) : List Nat := if c = q ∨ c = 92 then [92, c] else [c]
def esc (q : Nat) (l : List Nat) : List Nat := l.flatMap (escC q)
def qOf (l : List Nat) : Nat := if 39 ∈ l ∧ ¬ 34 ∈ l then 34 else 39
def reprL (l : List Nat) : List Nat := qOf l :: (esc (qOf l) l ++ [qOf l])

theorem mkS_cps (l : List Nat) : (mkS l).cps.toList = l := by simp [mkS]
theorem mkS_length (l : List Nat) : (mkS l).length = l.length := by simp [mkS, Str.length]
theorem mkS_of (x : Str) : x = mkS x.cps.toList := by cases x; simp [mkS]
theorem mkS_append (a b : List Nat) : mkS (a ++ b) = mkS a ++ mkS b := by
  refine Str.ext' ?_
  rw [Str.cps_append]; simp [mkS]
theorem mkS_snoc (a : List Nat) (n : Nat) : mkS a ++ (⟨#[n]⟩ : Str) = mkS (a ++ [n]) := by rw [mkS_append]; rfl
theorem mkS_inj {a b : List Nat} (h : mkS a = mkS b) : a = b := by
  have := congrArg (fun x : Str => x.cps.toList) h
  simpa [mkS] using this

theorem esc_nil (q : Nat) : esc q [] = [] := rfl
theorem esc_cons (q c : Nat) (l : List Nat) : esc q (c :: l) = escC q c ++ esc q l := rfl
theorem esc_append (q : Nat) (a b : List Nat) : esc q (a ++ b) = esc q a ++ esc q b := by simp [esc]
theorem escC_ne (q c : Nat) : 1 ≤ (escC q c).length := by unfold escC; split <;> simp
theorem escC_le (q c : Nat) : (escC q c).length ≤ 2 := by unfold escC; split <;> simp
theorem esc_ge (q : Nat) (l : List Nat) : l.length ≤ (esc q l).length := by
  induction l with
  | nil => simp [esc_nil]
  | cons c r ih => rw [esc_cons, List.length_append, List.length_cons]; have := escC_ne q c; omega
theorem esc_le (q : Nat) (l : List Nat) : (esc q l).length ≤ 2 * l.length := by
  induction l with
  | nil => simp [esc_nil]
  | cons c r ih => rw [esc_cons, List.length_append, List.length_cons]; have := escC_le q c; omega
theorem reprL_length (l : List Nat) : (reprL l).length = (esc (qOf l) l).length + 2 := by simp [reprL]
theorem reprL_le (l : List Nat) : (reprL l).length ≤ 2 * l.length + 2 := by rw [reprL_length]; have := esc_le (qOf l) l; omega
theorem reprL_ge (l : List Nat) : 2 ≤ (reprL l).length := by rw [reprL_length]; omega
theorem qOf_two (l : List Nat) : qOf l = 34 ∨ qOf l = 39 := by unfold qOf; split <;> simp
theorem Sgn.append {a b : List Nat} (ha : Sgn a) (hb : Sgn b) : Sgn (a ++ b) := fun c hc => (List.mem_append.mp hc).elim (ha c) (hb c)
theorem Sgn.esc {l : List Nat} (q : Nat) (h : Sgn l) : Sgn (esc q l) := by
  intro c hc
  unfold Mine.esc at hc
  obtain ⟨d, hd, hc⟩ := List.mem_flatMap.mp hc
  have := h d hd
  unfold escC at hc
  split at hc
  · simp at hc; rcases hc with rfl | rfl
    · simp
    · exact this
  · simp at hc; subst hc; exact this
theorem Sgn.q (l : List Nat) : Sgn [qOf l] := by
  intro c hc
  simp at hc; subst hc
  rcases qOf_two l with h | h <;> simp [h]
theorem Sgn.repr {l : List Nat} (h : Sgn l) : Sgn (reprL l) := by
  have e : reprL l = [qOf l] ++ (Mine.esc (qOf l) l ++ [qOf l]) := rfl
  rw [e]
  exact (Sgn.q l).append ((h.esc _).append (Sgn.q l))

/-- the strict reader's state: what it has read, whether it is bare, what it has put out -/
def RdInv (q : Nat) (U : List Nat) (pre : List Int) (b : Bool) (o : Str) : Prop :=
  ∃ V R : List Nat, U = V ++ R ∧ o = mkS V ∧
    ((b = true ∧ pre = (esc q V).map (fun c : Nat => (c : Int))) ∨
     (b = false ∧ ∃ c R', R = c :: R' ∧ (c = q ∨ c = 92) ∧ pre = (esc q V ++ [92]).map (fun c : Nat => (c : Int))))
theorem RdInv.start (q : Nat) (U : List Nat) : RdInv q U [] true (mkS []) := ⟨[], U, rfl, rfl, .inl ⟨rfl, rfl⟩⟩
theorem RdInv.len {q : Nat} {U : List Nat} {pre : List Int} {b : Bool} {o : Str} (h : RdInv q U pre b o) : o.length ≤ U.length := by
  obtain ⟨V, R, rfl, rfl, _⟩ := h
  rw [mkS_length, List.length_append]; omega

theorem natmap_inj : ∀ {a b : List Nat}, a.map (fun c : Nat => (c : Int)) = b.map (fun c : Nat => (c : Int)) → a = b
  | [], [], _ => rfl
  | [], _ :: _, h => by simp at h
  | _ :: _, [], h => by simp at h
  | x :: a, y :: b, h => by
    simp only [List.map_cons, List.cons.injEq] at h
    rw [natmap_inj h.2, show x = y by omega]

theorem RdInv.turn {q : Nat} {U : List Nat} {pre post : List Int} {n : Nat} {b : Bool} {o : Str} (hU : Sgn U) (hq : q = 34 ∨ q = 39)
    (hc : (esc q U).map (fun c : Nat => (c : Int)) = pre ++ (n : Int) :: post) (h : RdInv q U pre b o) :
    (b = true ∧ n = 92 ∧ RdInv q U (pre ++ [(n : Int)]) false o) ∨
    (b = true ∧ n ≠ q ∧ (n = 39 ∨ n = 34 ∨ n = 97) ∧ RdInv q U (pre ++ [(n : Int)]) true (o ++ ⟨#[n]⟩)) ∨
    (b = false ∧ (n = 92 ∨ n = q) ∧ RdInv q U (pre ++ [(n : Int)]) true (o ++ ⟨#[n]⟩)) := by
  obtain ⟨V, R, rfl, rfl, h⟩ := h
  rw [esc_append, List.map_append] at hc
  rcases h with ⟨rfl, rfl⟩ | ⟨rfl, c, R', rfl, hcq, rfl⟩
  · have hc := List.append_cancel_left hc
    cases R with
    | nil => simp [esc_nil] at hc
    | cons c R' =>
      have hcs : c = 39 ∨ c = 34 ∨ c = 92 ∨ c = 97 := hU c (by simp)
      rw [esc_cons] at hc
      by_cases hsp : c = q ∨ c = 92
      · left
        have e : escC q c = [92, c] := by unfold escC; rw [if_pos hsp]
        rw [e] at hc
        simp only [List.cons_append, List.map_cons, List.cons.injEq] at hc
        have hn : n = 92 := by omega
        subst hn
        exact ⟨rfl, rfl, V, c :: R', rfl, rfl, .inr ⟨rfl, c, R', rfl, hsp, by rw [List.map_append]; rfl⟩⟩
      · right; left
        have e : escC q c = [c] := by unfold escC; rw [if_neg hsp]
        rw [e] at hc
        simp only [List.cons_append, List.nil_append, List.map_cons, List.cons.injEq] at hc
        have hn : c = n := by omega
        subst hn
        refine ⟨rfl, by omega, by omega, V ++ [c], R', by simp, mkS_snoc V c, .inl ⟨rfl, ?_⟩⟩
        rw [esc_append, List.map_append, esc_cons, e, esc_nil]; rfl
  · right; right
    rw [esc_cons] at hc
    have e : escC q c = [92, c] := by unfold escC; rw [if_pos hcq]
    rw [e] at hc
    simp only [List.map_append, List.append_assoc] at hc
    have hc := List.append_cancel_left hc
    simp only [List.map_cons, List.map_nil, List.cons_append, List.nil_append, List.cons.injEq] at hc
    have hn : c = n := by have := hc.2.1; omega
    subst hn
    refine ⟨rfl, hcq.symm, V ++ [c], R', by simp, mkS_snoc V c, .inl ⟨rfl, ?_⟩⟩
    rw [esc_append, List.map_append, esc_cons, e, esc_nil, List.map_append]; simp
theorem RdInv.done {q : Nat} {U : List Nat} {b : Bool} {o : Str} (h : RdInv q U ((esc q U).map (fun c : Nat => (c : Int))) b o) : b = true ∧ o = mkS U := by
  obtain ⟨V, R, rfl, rfl, h⟩ := h
  rcases h with ⟨rfl, e⟩ | ⟨rfl, c, R', rfl, hcq, e⟩
  · have e := natmap_inj e
    rw [esc_append] at e
    have hl := congrArg List.length e
    rw [List.length_append] at hl
    have := esc_ge q R
    have : R = [] := List.length_eq_zero_iff.mp (by omega)
    subst this
    exact ⟨rfl, by simp⟩
  · have e := natmap_inj e
    have e2 : escC q c = [92, c] := by unfold escC; rw [if_pos hcq]
    rw [esc_append, esc_cons, e2] at e
    have hl := congrArg List.length e
    simp at hl

theorem codes_mkS (l : List Nat) : KStt.codes (mkS l) = l.map (fun c : Nat => (c : Int)) := by simp [KStt.codes, mkS]

/-- slices and items of texts put together -/
theorem slice_mid (a b c : List Nat) (x : Str) (hx : x = mkS (a ++ b ++ c)) (i j : Int) (hi : i = a.length) (hj : j = (a ++ b).length) : Txt.slice x (some i) (some j) = mkS b := by
  subst hi; subst hj
  show StrLaws.sliceText _ _ _ = _
  rw [StrLaws.sliceText_nat x (by rw [List.length_append]; omega) (by rw [hx, mkS_length]; simp only [List.length_append]; omega)]
  rw [hx, mkS_cps]
  show mkS _ = mkS _
  congr 1
  have : (a ++ b).length - a.length = b.length := by rw [List.length_append]; omega
  rw [this, List.append_assoc, List.drop_left, List.take_left]
theorem slice_hi (x : Str) (l : Option Int) (j : Int) (hj : -(x.length : Int) ≤ j) (h0 : j < 0) : Txt.slice x l (some j) = Txt.slice x l (some (j + x.length)) := by
  have e : Builtin.Str.strSliceIndices l (some j) 1 x.length = Builtin.Str.strSliceIndices l (some (j + x.length)) 1 x.length := by
    unfold Builtin.Str.strSliceIndices
    have h1 : ¬ (j + (x.length : Int) < 0) := by omega
    cases l <;> simp [h0, h1] <;> omega
  unfold Txt.slice
  rw [e]
theorem slice_to (x : Str) (u : Option Int) : Txt.slice x none u = Txt.slice x (some 0) u := by
  unfold Txt.slice
  rw [StrLaws.sliceIdx_none_lo]
theorem slice_from (x : Str) (l : Option Int) : Txt.slice x l none = Txt.slice x l (some (x.length : Int)) := by
  unfold Txt.slice
  rw [StrLaws.sliceIdx_none_hi]
theorem item_last (a : List Nat) (n : Nat) (x : Str) (hx : x = mkS (a ++ [n])) : Txt.item x (-1) = mkS [n] := by
  subst hx
  have hl : (mkS (a ++ [n])).length = a.length + 1 := by rw [mkS_length]; simp
  have hi : seqIndex? (-1) (mkS (a ++ [n])).length = some a.length := by
    rw [StrLaws.seqIndex_neg (by omega) (by omega), hl]; congr 1; omega
  show (⟨#[(Txt.charAt _ _).getD 0]⟩ : Str) = _
  unfold Txt.charAt
  rw [hi]
  show (⟨#[((mkS (a ++ [n])).cps[a.length]?).getD 0]⟩ : Str) = _
  have : (mkS (a ++ [n])).cps[a.length]? = some n := by
    rw [← Array.getElem?_toList, mkS_cps]; simp
  rw [this]; rfl

/-- the reader's three views of a written text -/
theorem repr_head (q : Nat) (B : List Nat) : Txt.slice (mkS (q :: (B ++ [q]))) none (some 1) = mkS [q] := by
  rw [slice_to]
  exact slice_mid [] [q] (B ++ [q]) _ (by simp) _ _ rfl rfl
theorem repr_tail (q : Nat) (B : List Nat) : Txt.item (mkS (q :: (B ++ [q]))) (-1) = mkS [q] := item_last (q :: B) q _ (by simp)
theorem repr_mid (q : Nat) (B : List Nat) : Txt.slice (mkS (q :: (B ++ [q]))) (some 1) (some (-1)) = mkS B := by
  rw [slice_hi _ _ _ (by rw [mkS_length]; simp; omega) (by omega)]
  refine slice_mid [q] B [q] _ (by simp) _ _ rfl ?_
  rw [mkS_length]; simp; omega

theorem contains_one (l : List Nat) (y : Str) (c : Nat) (hy : y = ⟨#[c]⟩) : Txt.contains (mkS l) y = decide (c ∈ l) := by
  subst hy
  show (!(Builtin.Str.occurrences (mkS l) ⟨#[c]⟩ 0 (mkS l).length 1).isEmpty) = _
  rw [StrLaws.found_one, mkS_cps]
theorem count_one (l : List Nat) (y : Str) (c : Nat) (hy : y = ⟨#[c]⟩) : Txt.count (mkS l) y = (l.count c : Int) := by
  subst hy
  rw [count_cnt, mkS_cps]
  induction l with
  | nil => rfl
  | cons n r ih =>
    rw [cnt_cons, ih, List.count_cons]
    by_cases h : n = c <;> simp [h] <;> omega

theorem reprChar_sgn {q c : Nat} (h : c = 39 ∨ c = 34 ∨ c = 92 ∨ c = 97) : Builtin.Str.reprChar q c = escC q c := by
  unfold Builtin.Str.reprChar escC
  by_cases hq : c = q ∨ c = 92
  · rw [if_pos hq, if_pos (by simpa [Bool.or_eq_true, beq_iff_eq] using hq)]
  · rw [if_neg hq, if_neg (by simpa [Bool.or_eq_true, beq_iff_eq] using hq)]
    rcases h with rfl | rfl | rfl | rfl
    · decide +kernel
    · decide +kernel
    · exact absurd (Or.inr rfl) hq
    · decide +kernel
theorem reprText_eq {l : List Nat} (h : Sgn l) : reprText (mkS l) = mkS (reprL l) := by
  have hq : reprQuote (mkS l) = qOf l := by
    unfold reprQuote qOf
    simp [mkS]
  unfold reprText
  rw [hq, ← Array.foldl_toList, mkS_cps]
  have key : ∀ (l : List Nat) (acc : Array Nat) (q : Nat), Sgn l → (l.foldl (fun out c => out ++ (Builtin.Str.reprChar q c).toArray) acc).toList = acc.toList ++ esc q l := by
    intro l
    induction l with
    | nil => intro acc q _; simp [esc_nil]
    | cons c r ih =>
      intro acc q h
      rw [List.foldl_cons, ih _ _ (fun d hd => h d (List.mem_cons_of_mem _ hd)), esc_cons, reprChar_sgn (h c (List.mem_cons_self ..))]
      simp
  refine Str.ext' ?_
  rw [← Array.toList_inj, Array.toList_push, key _ _ _ h]
  simp [mkS, reprL]
end Mine
end

/-! C0 -/
section
abbrev Mine.Claim (d u : Nat) (w : World) (p : PySem.Program) (f : Addr) (mean : ExcName → Option Value) (mg mb : Str → Option Value) (vs : List Value) (news : List (Addr × Obj)) (Ret : List (Addr × Obj) → Value → Prop) : Prop :=
  ∀ (dp un : Nat) (gd : Option (List Code)) (cn : Str) (cs : Scope) (a : Addr) (ccd : Value) (cl : List (Str × Addr)) (outer : List Env) (A₀ : Around) (base h₀ : Heap) (L : Addr) (m : Str → Option Value) (s : Shared) (Q E : Value → Shared → Prop),
    Below A₀ base outer h₀ → Fr h₀ L s.heap m → (hd.heap_39 w.params).In h₀ → News h₀ L s.heap news → Top hd.view_39 (looseW hd.view_39 []) mean mg mb h₀ → cs.kind = .function →
    dp + d < recursionLimit → un + u < cLine → (∀ (r : Value) (h' : Heap) (tk' : Nat) news', Ret news' r → Fr h₀ L h' m → News h₀ L h' (news' ++ news) → Q r { s with heap := h', toks := tk' }) →
      wpAny (model p w) (ktrTop dp un gd cn cs L a ccd cl outer) (call (.ref f) vs) Q E s

namespace Mine
def Stop (P : Prop) : Prop := P
theorem stop_here {P : Prop} (h : Stop P) : P := h
section
variable {prog : Program} {w : World} {A : Around} {E : Value → Shared → Prop} {s : Shared} {value slice : Expr} {x y : Str} {t : Tok} {h₀ : Heap} {L : Addr} {m : Str → Option Value} {news : List (Addr × Obj)} {Q : Value → Shared → Prop}
theorem slice_ns_is {j : Int} {uj : Tok} (e : Txt.slice x none (some j) = y) (hF : Fr h₀ L s.heap m) (hN : News h₀ L s.heap news) (hsz : x.length ≤ sizeLine) (h : ∀ h' t' k, Fr h₀ L h' m → News h₀ L h' news → Q (.str y t') { s with heap := h', toks := k })
    (hs : subscripted slice false (.str x t) (.ref s.heap.objs.size) = operate [.ref s.heap.objs.size, .str x t] (getItem (.str x t) (.ref s.heap.objs.size)) := by with_unfolding_all rfl)
    (ht : ∀ r, letTemporaryGo value (.str x t) r = pure () := by intro _; with_unfolding_all rfl) :
    wpAny (model prog w) A (subscriptTail value slice (.str x t) (.ref s.heap.objs.size)) Q E { s with heap := s.heap.push { cls := .type "slice", data := .fields #[.none, .int j uj, .none] } } :=
  slice_strN_ns hF hN (by rw [e]; exact h) hs ht hsz
theorem slice_ss_is {i j : Int} {ui uj : Tok} (e : Txt.slice x (some i) (some j) = y) (hF : Fr h₀ L s.heap m) (hN : News h₀ L s.heap news) (hsz : x.length ≤ sizeLine) (h : ∀ h' t' k, Fr h₀ L h' m → News h₀ L h' news → Q (.str y t') { s with heap := h', toks := k })
    (hs : subscripted slice false (.str x t) (.ref s.heap.objs.size) = operate [.ref s.heap.objs.size, .str x t] (getItem (.str x t) (.ref s.heap.objs.size)) := by with_unfolding_all rfl)
    (ht : ∀ r, letTemporaryGo value (.str x t) r = pure () := by intro _; with_unfolding_all rfl) :
    wpAny (model prog w) A (subscriptTail value slice (.str x t) (.ref s.heap.objs.size)) Q E { s with heap := s.heap.push { cls := .type "slice", data := .fields #[.int i ui, .int j uj, .none] } } :=
  slice_strN_ss hF hN (by rw [e]; exact h) hs ht hsz
theorem item_is {i : Int} {u : Tok} (e : Txt.item x i = y) (hr : fitsSsize i = true) (h1 : -(x.length : Int) ≤ i) (h2 : i < x.length)
    (h : Q (.str y s.toks) { s with toks := s.toks + 1 })
    (hs : subscripted slice false (.str x t) (.int i u) = operate [.str x t, .int i u] (getItem (.str x t) (.int i u)) := by with_unfolding_all rfl)
    (ht : ∀ r, letTemporaryGo value (.str x t) r = pure () := by intro _; with_unfolding_all rfl) :
    wpAny (model prog w) A (subscriptTail value slice (.str x t) (.int i u)) Q E s :=
  item_str hr h1 h2 (fun _ => by rw [e]; exact h) hs ht
theorem in_is {u : Tok} {b : Bool} (e : Txt.contains y x = b) (h : Q (.bool b) s) : wpAny (model prog w) A (compareOp .In (.str x t) (.str y u)) Q E s := in_str (by subst e; exact h)
theorem notin_is {u : Tok} {b : Bool} (e : Txt.contains y x = b) (h : Q (.bool (!b)) s) : wpAny (model prog w) A (compareOp .NotIn (.str x t) (.str y u)) Q E s := notIn_str (by subst e; exact h)
end
end Mine
end

/-! R1 -/
section
local macro_rules | `(tactic| walk_at "subscriptTail Name Slice str ref") => `(tactic| ((with_reducible show wpAny _ _ (subscriptTail _ (Expr.Slice none (some _) none _) _ _) _ _ _); (with_reducible rename Fr _ _ _ _ => F'); (with_reducible rename News _ _ _ _ => N'); (refine Mine.slice_ns_is (s := ⟨_, _, _, _, _⟩) (by assumption) F' N' (by rw [PySem.sizeLine_eq]; omega) ?_); intro _ _ _ _ _))
local macro_rules | `(tactic| walk_at "subscriptTail Name Slice str ref") => `(tactic| ((with_reducible show wpAny _ _ (subscriptTail _ (Expr.Slice (some _) (some _) none _) _ _) _ _ _); (with_reducible rename Fr _ _ _ _ => F'); (with_reducible rename News _ _ _ _ => N'); (refine Mine.slice_ss_is (s := ⟨_, _, _, _, _⟩) (by assumption) F' N' (by rw [PySem.sizeLine_eq]; omega) ?_); intro _ _ _ _ _))
local macro_rules | `(tactic| walk_at "exec For") => `(tactic| (k_here; (rename Fr _ _ _ _ => lF'); (with_unfolding_all refine' For_invVF lF' ?k1 ?k2 ?_; (case k1 => exact rfl); (case k2 => exact rfl); k_whole)))
local macro_rules | `(tactic| walk_at "InvEndN") => `(tactic| refine Mine.stop_here ?_)
local macro_rules | `(tactic| walk_at "pyIter str") => `(tactic| refine Mine.stop_here ?_)
local macro_rules | `(tactic| walk_at "subscriptTail Name UnaryOp str int") => `(tactic| ((with_reducible show wpAny _ _ (subscriptTail _ _ (Value.str _ _) (Value.int _ _)) _ _ _); (refine Mine.item_is (by assumption) (by decide) (by omega) (by omega) ?_)))
local macro_rules | `(tactic| walk_at "compareOp In str str") => `(tactic| (refine Mine.in_is (by assumption) ?_))
local macro_rules | `(tactic| walk_at "compareOp NotIn str str") => `(tactic| (refine Mine.notin_is (by assumption) ?_))

set_option maxRecDepth 100000 in
set_option maxHeartbeats 8000000 in
theorem Mine.read_claim39 (w : World) (mean : ExcName → Option Value) (mg mb : Str → Option Value) (T : Str) (U : List Nat) (tT : Tok) (news : List (Addr × Obj))
   (hT1 : T.length ≤ 1048576) (hT2 : 2 ≤ T.length) (hU : Sgn U) (hUl : U.length ≤ 1048576) (hq : 39 = 34 ∨ 39 = 39)
   (e1 : Txt.slice T none (some 1) = Str.ofString "'") (e2 : Txt.item T (-1) = Str.ofString "'") (e3 : Txt.slice T (some 1) (some (-1)) = mkS (esc 39 U))
   (hi : Txt.contains (mkS U) (Str.ofString "'") = false ∨ (Txt.contains (mkS U) (Str.ofString "'") = true ∧ Txt.contains (mkS U) (Str.ofString "\"") = true)) :
   Mine.Claim 2 16 w PySem.Challenge.rw_ij0067_01.row.prog 118 mean mg mb [.str T tT] news (fun news' r => news' = [] ∧ ∃ t, r = .str (mkS U) t) := by
  w_top off
  unfold Mine.Claim
  k_fill
  have hT3 : ¬ ((T.length : Int) < 2) := by omega
  intro dp un gd cn cs a ccd cl outer A₀ base h₀ L m s Q E B F KX N Tp hcs hdp hun hret
  refine wpAny_call ?_
  k_dflt cell_enter
  k_steps
  unfold Stop
  with_reducible rename Fr _ _ _ _ => lF'
  with_reducible rename News _ _ _ _ => lN'
  refine KStt.kst_text (σ := Bool × Str × Tok) (fun _ => news) (fun c => [(Str.ofString "bare", Value.bool c.1), (Str.ofString "out", Value.str c.2.1 c.2.2)]) (fun _ => True) [] (fun pre c => Mine.RdInv 39 U pre c.1 c.2.1) (true, Str.ofString "", _) (by rfl) lF' (KStt.news_of lN' (by intro p hp; (repeat (first | exact hp | refine List.mem_cons_of_mem _ ?_)))) trivial (List.forall_mem_cons.mpr ⟨by rfl, List.forall_mem_cons.mpr ⟨by rfl, List.forall_mem_nil _⟩⟩) (RdInv.start 39 U) ?_ ?_
  · intro c pre post n tn u h tk own hcodes hoff hfacts hP FT NT
    obtain ⟨b, o, tk1⟩ := c
    dsimp only at hP
    rw [codes_mkS] at hcodes
    have hol : o.length ≤ 1048576 := Nat.le_trans hP.len hUl
    rcases hP.turn hU hq hcodes with ⟨rfl, rfl, hN'⟩ | ⟨rfl, hnq, hn3, hN'⟩ | ⟨rfl, hn2, hN'⟩
    · clear hP hcodes lF' lN'
      try k_fold
      k_steps
      unfold Stop
      with_reducible rename News _ _ _ _ => nE
      refine kst_end (_, _, _) (by assumption) nE (fun p hp => by simp only [List.mem_append, List.mem_cons]; simp [hp]) (fun p hp => by simp only [List.mem_append, List.mem_cons]; simp [hp]) (by rfl) trivial (List.forall_mem_cons.mpr ⟨by rfl, List.forall_mem_cons.mpr ⟨by rfl, List.forall_mem_nil _⟩⟩) (fun z h1 h2 _ => ?_) hN'
      have h3 := h2 _ (List.mem_cons_self ..)
      have h4 := h2 _ (List.mem_cons_of_mem _ (List.mem_cons_self ..))
      dsimp only at h3 h4
      simp only [kstB, if_neg h1, if_neg h3, if_neg h4, List.contains_nil, Bool.false_eq_true, if_false]
    · rcases hn3 with rfl | rfl | rfl
      · exact absurd rfl hnq
      · clear hP hcodes lF' lN'
        try k_fold
        k_steps
        unfold Stop
        with_reducible rename News _ _ _ _ => nE
        refine kst_end (_, _, _) (by assumption) nE (fun p hp => by simp only [List.mem_append, List.mem_cons]; simp [hp]) (fun p hp => by simp only [List.mem_append, List.mem_cons]; simp [hp]) (by rfl) trivial (List.forall_mem_cons.mpr ⟨by rfl, List.forall_mem_cons.mpr ⟨by rfl, List.forall_mem_nil _⟩⟩) (fun z h1 h2 _ => ?_) hN'
        have h3 := h2 _ (List.mem_cons_self ..)
        have h4 := h2 _ (List.mem_cons_of_mem _ (List.mem_cons_self ..))
        dsimp only at h3 h4
        simp only [kstB, if_neg h1, if_neg h3, if_neg h4, List.contains_nil, Bool.false_eq_true, if_false]
      · clear hP hcodes lF' lN'
        try k_fold
        k_steps
        unfold Stop
        with_reducible rename News _ _ _ _ => nE
        refine kst_end (_, _, _) (by assumption) nE (fun p hp => by simp only [List.mem_append, List.mem_cons]; simp [hp]) (fun p hp => by simp only [List.mem_append, List.mem_cons]; simp [hp]) (by rfl) trivial (List.forall_mem_cons.mpr ⟨by rfl, List.forall_mem_cons.mpr ⟨by rfl, List.forall_mem_nil _⟩⟩) (fun z h1 h2 _ => ?_) hN'
        have h3 := h2 _ (List.mem_cons_self ..)
        have h4 := h2 _ (List.mem_cons_of_mem _ (List.mem_cons_self ..))
        dsimp only at h3 h4
        simp only [kstB, if_neg h1, if_neg h3, if_neg h4, List.contains_nil, Bool.false_eq_true, if_false]
    · rcases hn2 with rfl | rfl
      · clear hP hcodes lF' lN'
        try k_fold
        k_steps
        unfold Stop
        with_reducible rename News _ _ _ _ => nE
        refine kst_end (_, _, _) (by assumption) nE (fun p hp => by simp only [List.mem_append, List.mem_cons]; simp [hp]) (fun p hp => by simp only [List.mem_append, List.mem_cons]; simp [hp]) (by rfl) trivial (List.forall_mem_cons.mpr ⟨by rfl, List.forall_mem_cons.mpr ⟨by rfl, List.forall_mem_nil _⟩⟩) (fun z h1 h2 _ => ?_) hN'
        have h3 := h2 _ (List.mem_cons_self ..)
        have h4 := h2 _ (List.mem_cons_of_mem _ (List.mem_cons_self ..))
        dsimp only at h3 h4
        simp only [kstB, if_neg h1, if_neg h3, if_neg h4, List.contains_nil, Bool.false_eq_true, if_false]
      · clear hP hcodes lF' lN'
        try k_fold
        k_steps
        unfold Stop
        with_reducible rename News _ _ _ _ => nE
        refine kst_end (_, _, _) (by assumption) nE (fun p hp => by simp only [List.mem_append, List.mem_cons]; simp [hp]) (fun p hp => by simp only [List.mem_append, List.mem_cons]; simp [hp]) (by rfl) trivial (List.forall_mem_cons.mpr ⟨by rfl, List.forall_mem_cons.mpr ⟨by rfl, List.forall_mem_nil _⟩⟩) (fun z h1 h2 _ => ?_) hN'
        have h3 := h2 _ (List.mem_cons_self ..)
        have h4 := h2 _ (List.mem_cons_of_mem _ (List.mem_cons_self ..))
        dsimp only at h3 h4
        simp only [kstB, if_neg h1, if_neg h3, if_neg h4, List.contains_nil, Bool.false_eq_true, if_false]
  · intro c u h tk hfacts hP FT NT
    obtain ⟨b, o, tk1⟩ := c
    dsimp only at hP
    rw [codes_mkS] at hP
    obtain ⟨rfl, rfl⟩ := hP.done
    clear hP lF' lN'
    rcases hi with i1 | ⟨i1, i2⟩ <;> (
    try k_fold
    k_steps
    exact hret _ _ _ [] ⟨rfl, _, rfl⟩ (by assumption) (by assumption))
set_option maxRecDepth 100000 in
set_option maxHeartbeats 8000000 in
theorem Mine.read_claim34 (w : World) (mean : ExcName → Option Value) (mg mb : Str → Option Value) (T : Str) (U : List Nat) (tT : Tok) (news : List (Addr × Obj))
   (hT1 : T.length ≤ 1048576) (hT2 : 2 ≤ T.length) (hU : Sgn U) (hUl : U.length ≤ 1048576) (hq : 34 = 34 ∨ 34 = 39)
   (e1 : Txt.slice T none (some 1) = Str.ofString "\"") (e2 : Txt.item T (-1) = Str.ofString "\"") (e3 : Txt.slice T (some 1) (some (-1)) = mkS (esc 34 U))
   (i1 : Txt.contains (mkS U) (Str.ofString "'") = true) (i2 : Txt.contains (mkS U) (Str.ofString "\"") = false) :
   Mine.Claim 2 16 w PySem.Challenge.rw_ij0067_01.row.prog 118 mean mg mb [.str T tT] news (fun news' r => news' = [] ∧ ∃ t, r = .str (mkS U) t) := by
  w_top off
  unfold Mine.Claim
  k_fill
  have hT3 : ¬ ((T.length : Int) < 2) := by omega
  intro dp un gd cn cs a ccd cl outer A₀ base h₀ L m s Q E B F KX N Tp hcs hdp hun hret
  refine wpAny_call ?_
  k_dflt cell_enter
  k_steps
  unfold Stop
  with_reducible rename Fr _ _ _ _ => lF'
  with_reducible rename News _ _ _ _ => lN'
  refine KStt.kst_text (σ := Bool × Str × Tok) (fun _ => news) (fun c => [(Str.ofString "bare", Value.bool c.1), (Str.ofString "out", Value.str c.2.1 c.2.2)]) (fun _ => True) [] (fun pre c => Mine.RdInv 34 U pre c.1 c.2.1) (true, Str.ofString "", _) (by rfl) lF' (KStt.news_of lN' (by intro p hp; (repeat (first | exact hp | refine List.mem_cons_of_mem _ ?_)))) trivial (List.forall_mem_cons.mpr ⟨by rfl, List.forall_mem_cons.mpr ⟨by rfl, List.forall_mem_nil _⟩⟩) (RdInv.start 34 U) ?_ ?_
  · intro c pre post n tn u h tk own hcodes hoff hfacts hP FT NT
    obtain ⟨b, o, tk1⟩ := c
    dsimp only at hP
    rw [codes_mkS] at hcodes
    have hol : o.length ≤ 1048576 := Nat.le_trans hP.len hUl
    rcases hP.turn hU hq hcodes with ⟨rfl, rfl, hN'⟩ | ⟨rfl, hnq, hn3, hN'⟩ | ⟨rfl, hn2, hN'⟩
    · clear hP hcodes lF' lN'
      try k_fold
      k_steps
      unfold Stop
      with_reducible rename News _ _ _ _ => nE
      refine kst_end (_, _, _) (by assumption) nE (fun p hp => by simp only [List.mem_append, List.mem_cons]; simp [hp]) (fun p hp => by simp only [List.mem_append, List.mem_cons]; simp [hp]) (by rfl) trivial (List.forall_mem_cons.mpr ⟨by rfl, List.forall_mem_cons.mpr ⟨by rfl, List.forall_mem_nil _⟩⟩) (fun z h1 h2 _ => ?_) hN'
      have h3 := h2 _ (List.mem_cons_self ..)
      have h4 := h2 _ (List.mem_cons_of_mem _ (List.mem_cons_self ..))
      dsimp only at h3 h4
      simp only [kstB, if_neg h1, if_neg h3, if_neg h4, List.contains_nil, Bool.false_eq_true, if_false]
    · rcases hn3 with rfl | rfl | rfl
      · clear hP hcodes lF' lN'
        try k_fold
        k_steps
        unfold Stop
        with_reducible rename News _ _ _ _ => nE
        refine kst_end (_, _, _) (by assumption) nE (fun p hp => by simp only [List.mem_append, List.mem_cons]; simp [hp]) (fun p hp => by simp only [List.mem_append, List.mem_cons]; simp [hp]) (by rfl) trivial (List.forall_mem_cons.mpr ⟨by rfl, List.forall_mem_cons.mpr ⟨by rfl, List.forall_mem_nil _⟩⟩) (fun z h1 h2 _ => ?_) hN'
        have h3 := h2 _ (List.mem_cons_self ..)
        have h4 := h2 _ (List.mem_cons_of_mem _ (List.mem_cons_self ..))
        dsimp only at h3 h4
        simp only [kstB, if_neg h1, if_neg h3, if_neg h4, List.contains_nil, Bool.false_eq_true, if_false]
      · exact absurd rfl hnq
      · clear hP hcodes lF' lN'
        try k_fold
        k_steps
        unfold Stop
        with_reducible rename News _ _ _ _ => nE
        refine kst_end (_, _, _) (by assumption) nE (fun p hp => by simp only [List.mem_append, List.mem_cons]; simp [hp]) (fun p hp => by simp only [List.mem_append, List.mem_cons]; simp [hp]) (by rfl) trivial (List.forall_mem_cons.mpr ⟨by rfl, List.forall_mem_cons.mpr ⟨by rfl, List.forall_mem_nil _⟩⟩) (fun z h1 h2 _ => ?_) hN'
        have h3 := h2 _ (List.mem_cons_self ..)
        have h4 := h2 _ (List.mem_cons_of_mem _ (List.mem_cons_self ..))
        dsimp only at h3 h4
        simp only [kstB, if_neg h1, if_neg h3, if_neg h4, List.contains_nil, Bool.false_eq_true, if_false]
    · rcases hn2 with rfl | rfl
      · clear hP hcodes lF' lN'
        try k_fold
        k_steps
        unfold Stop
        with_reducible rename News _ _ _ _ => nE
        refine kst_end (_, _, _) (by assumption) nE (fun p hp => by simp only [List.mem_append, List.mem_cons]; simp [hp]) (fun p hp => by simp only [List.mem_append, List.mem_cons]; simp [hp]) (by rfl) trivial (List.forall_mem_cons.mpr ⟨by rfl, List.forall_mem_cons.mpr ⟨by rfl, List.forall_mem_nil _⟩⟩) (fun z h1 h2 _ => ?_) hN'
        have h3 := h2 _ (List.mem_cons_self ..)
        have h4 := h2 _ (List.mem_cons_of_mem _ (List.mem_cons_self ..))
        dsimp only at h3 h4
        simp only [kstB, if_neg h1, if_neg h3, if_neg h4, List.contains_nil, Bool.false_eq_true, if_false]
      · clear hP hcodes lF' lN'
        try k_fold
        k_steps
        unfold Stop
        with_reducible rename News _ _ _ _ => nE
        refine kst_end (_, _, _) (by assumption) nE (fun p hp => by simp only [List.mem_append, List.mem_cons]; simp [hp]) (fun p hp => by simp only [List.mem_append, List.mem_cons]; simp [hp]) (by rfl) trivial (List.forall_mem_cons.mpr ⟨by rfl, List.forall_mem_cons.mpr ⟨by rfl, List.forall_mem_nil _⟩⟩) (fun z h1 h2 _ => ?_) hN'
        have h3 := h2 _ (List.mem_cons_self ..)
        have h4 := h2 _ (List.mem_cons_of_mem _ (List.mem_cons_self ..))
        dsimp only at h3 h4
        simp only [kstB, if_neg h1, if_neg h3, if_neg h4, List.contains_nil, Bool.false_eq_true, if_false]
  · intro c u h tk hfacts hP FT NT
    obtain ⟨b, o, tk1⟩ := c
    dsimp only at hP
    rw [codes_mkS] at hP
    obtain ⟨rfl, rfl⟩ := hP.done
    clear hP lF' lN'
    try k_fold
    k_steps
    exact hret _ _ _ [] ⟨rfl, _, rfl⟩ (by assumption) (by assumption)

theorem Mine.read_claim (w : World) (mean : ExcName → Option Value) (mg mb : Str → Option Value) (U : List Nat) (tT : Tok) (news : List (Addr × Obj)) (hU : Sgn U) (hUl : U.length ≤ 1000) :
   Mine.Claim 2 16 w PySem.Challenge.rw_ij0067_01.row.prog 118 mean mg mb [.str (mkS (reprL U)) tT] news (fun news' r => news' = [] ∧ ∃ t, r = .str (mkS U) t) := by
  have hl := reprL_le U
  have hg := reprL_ge U
  have c1 := contains_one U (Str.ofString "'") 39 (by decide +kernel)
  have c2 := contains_one U (Str.ofString "\"") 34 (by decide +kernel)
  by_cases hq : 39 ∈ U ∧ ¬ 34 ∈ U
  · have e : qOf U = 34 := if_pos hq
    have er : reprL U = 34 :: (esc 34 U ++ [34]) := by unfold reprL; rw [e]
    refine Mine.read_claim34 w mean mg mb _ U tT news (by rw [mkS_length]; omega) (by rw [mkS_length]; omega) hU (by omega) (by decide) ?_ ?_ ?_ ?_ ?_
    · rw [er, repr_head]; decide +kernel
    · rw [er, repr_tail]; decide +kernel
    · rw [er, repr_mid]
    · rw [c1]; exact decide_eq_true hq.1
    · rw [c2]; exact decide_eq_false hq.2
  · have e : qOf U = 39 := if_neg hq
    have er : reprL U = 39 :: (esc 39 U ++ [39]) := by unfold reprL; rw [e]
    refine Mine.read_claim39 w mean mg mb _ U tT news (by rw [mkS_length]; omega) (by rw [mkS_length]; omega) hU (by omega) (by decide) ?_ ?_ ?_ ?_
    · rw [er, repr_head]; decide +kernel
    · rw [er, repr_tail]; decide +kernel
    · rw [er, repr_mid]
    · rw [c1, c2]
      by_cases h39 : 39 ∈ U
      · right
        refine ⟨decide_eq_true h39, decide_eq_true ?_⟩
        exact Classical.byContradiction fun h => hq ⟨h39, h⟩
      · left
        exact decide_eq_false h39
end

/-! T1 -/
section
namespace Mine
/-- what a laid layer shows: fill ahead, the text, fill behind -/
def Laid (k : Int) (f : Nat) (U T : List Nat) : Prop :=
  ∃ l r : Nat, T = List.replicate l f ++ U ++ List.replicate r f ∧ (k = 2 ∧ l = 0 ∨ k = 3 ∧ r = 0 ∨ k = 4 ∧ (l : Int) = Int.fdiv ((l + r : Nat) : Int) 2)
def LayerIs (k : Int) (f : Nat) (U T : List Nat) : Prop := ((k = 0 ∨ k = 1) ∧ T = reprL U) ∨ Laid k f U T
end Mine
namespace Mine
def SlTo (T : Str) (l : Int) (y : Str) : Prop := ∀ j, j = l → Txt.slice T none (some j) = y
def SlFrom (T : Str) (l : Int) (y : Str) : Prop := ∀ j, j = l → Txt.slice T (some j) none = y
def SlMid (T : Str) (l m : Int) (y : Str) : Prop := ∀ i j, i = l → j = m → Txt.slice T (some i) (some j) = y
theorem SlTo.at {T y : Str} {l j : Int} (S : SlTo T l y) (h : j = l) : Txt.slice T none (some j) = y := S j h
theorem SlFrom.at {T y : Str} {l j : Int} (S : SlFrom T l y) (h : j = l) : Txt.slice T (some j) none = y := S j h
theorem SlMid.at {T y : Str} {l m i j : Int} (S : SlMid T l m y) (h : i = l) (h2 : j = m) : Txt.slice T (some i) (some j) = y := S i j h h2
theorem slTo_of (a b : List Nat) : SlTo (mkS (a ++ b)) a.length (mkS a) := by
  intro j hj; subst hj
  rw [slice_to]
  exact slice_mid [] a b _ (by simp) _ _ rfl (by simp)
theorem slMid_of (a b c : List Nat) : SlMid (mkS (a ++ b ++ c)) a.length (a.length + b.length : Nat) (mkS b) := by
  intro i j hi hj; subst hi; subst hj
  exact slice_mid a b c _ rfl _ _ rfl (by simp)
theorem slFrom_of (a b : List Nat) : SlFrom (mkS (a ++ b)) a.length (mkS b) := by
  intro j hj; subst hj
  rw [slice_from]
  exact slice_mid a b [] _ (by simp) _ _ rfl (by rw [mkS_length])
section
variable {prog : Program} {w : World} {A : Around} {E : Value → Shared → Prop} {s : Shared} {value slice : Expr} {x y : Str} {t : Tok} {h₀ : Heap} {L : Addr} {m : Str → Option Value} {news : List (Addr × Obj)} {Q : Value → Shared → Prop}
theorem slice_sn_is {i : Int} {ui : Tok} (e : Txt.slice x (some i) none = y) (hF : Fr h₀ L s.heap m) (hN : News h₀ L s.heap news) (hsz : x.length ≤ sizeLine) (h : ∀ h' t' k, Fr h₀ L h' m → News h₀ L h' news → Q (.str y t') { s with heap := h', toks := k })
    (hs : subscripted slice false (.str x t) (.ref s.heap.objs.size) = operate [.ref s.heap.objs.size, .str x t] (getItem (.str x t) (.ref s.heap.objs.size)) := by with_unfolding_all rfl)
    (ht : ∀ r, letTemporaryGo value (.str x t) r = pure () := by intro _; with_unfolding_all rfl) :
    wpAny (model prog w) A (subscriptTail value slice (.str x t) (.ref s.heap.objs.size)) Q E { s with heap := s.heap.push { cls := .type "slice", data := .fields #[.int i ui, .none, .none] } } :=
  slice_strN_sn hF hN (by rw [e]; exact h) hs ht hsz
end
def MulN (n : Nat) : Prop := n ≤ 1000
theorem foldl_rep (f : Nat) : ∀ (n : Nat) (acc : Array Nat), ((List.replicate n #[f]).foldl (· ++ ·) acc).toList = acc.toList ++ List.replicate n f
  | 0, acc => by simp
  | n + 1, acc => by
    rw [List.replicate_succ, List.foldl_cons, foldl_rep f n, List.replicate_succ]; simp
theorem txt_mul (f n : Nat) : Txt.mul (mkS [f]) (n : Int) = mkS (List.replicate n f) := by
  unfold Txt.mul
  split
  · rename_i h
    have : n = 0 := by omega
    subst this; rfl
  · split
    · rename_i h1 h
      have : n = 1 := by
        rcases Bool.or_eq_true_iff.mp h with h | h
        · have := of_decide_eq_true h; omega
        · exact absurd h (by simp [mkS, Str.length])
      subst this; rfl
    · refine Str.ext' (Array.toList_inj.mp ?_)
      rw [mkS_cps, Int.toNat_natCast]
      show ((List.replicate n #[f]).foldl (· ++ ·) #[]).toList = _
      rw [foldl_rep]; rfl
section
variable {prog : Program} {w : World} {A : Around} {E : Value → Shared → Prop} {s : Shared} {t u : Tok} {Q : Value → Shared → Prop}
theorem mul_is {f n : Nat} {i : Int} (hn : MulN n) (hi : i = (n : Int)) (h : ∀ t' k, Q (.str (mkS (List.replicate n f)) t') { s with toks := k }) : wpAny (model prog w) A (binaryOp .Mult (.str (mkS [f]) t) (.int i u)) Q E s := by
  subst hi
  refine SB.mul (mulOk_of 1 1000 (Nat.le_of_eq rfl) (by unfold MulN at hn; omega) (by omega) (by decide) (by decide)) fun t' k => ?_
  rw [txt_mul]
  exact h t' k
theorem ne_rep {f l r : Nat} (h : Q (.bool false) s) : wpAny (model prog w) A (compareOp .NotEq (.str (mkS (List.replicate l f) ++ mkS (List.replicate r f)) t) (.str (mkS (List.replicate (l + r) f)) u)) Q E s := by
  refine ne_str ?_
  rw [← mkS_append, List.replicate_append_replicate]
  have : (mkS (List.replicate (l + r) f) != mkS (List.replicate (l + r) f)) = false := by simp
  rw [this]; exact h
end
theorem fdiv2 (a : Int) : Int.fdiv a 2 = a / 2 := Int.fdiv_eq_ediv_of_nonneg _ (by decide)
end Mine
local macro_rules | `(tactic| walk_at "subscriptTail Name Slice str ref") => `(tactic| ((with_reducible show wpAny _ _ (subscriptTail _ (Expr.Slice none (some _) none _) _ _) _ _ _); (with_reducible rename Fr _ _ _ _ => F'); (with_reducible rename News _ _ _ _ => N'); (with_reducible rename SlTo _ _ _ => S'); (refine Mine.slice_ns_is (s := ⟨_, _, _, _, _⟩) (S'.at (by (try rw [fdiv2]); omega)) F' N' (by rw [PySem.sizeLine_eq]; omega) ?_); intro _ _ _ _ _))
local macro_rules | `(tactic| walk_at "subscriptTail Name Slice str ref") => `(tactic| ((with_reducible show wpAny _ _ (subscriptTail _ (Expr.Slice (some _) none none _) _ _) _ _ _); (with_reducible rename Fr _ _ _ _ => F'); (with_reducible rename News _ _ _ _ => N'); (with_reducible rename SlFrom _ _ _ => S'); (refine Mine.slice_sn_is (s := ⟨_, _, _, _, _⟩) (S'.at (by (try rw [fdiv2]); omega)) F' N' (by rw [PySem.sizeLine_eq]; omega) ?_); intro _ _ _ _ _))
local macro_rules | `(tactic| walk_at "subscriptTail Name Slice str ref") => `(tactic| ((with_reducible show wpAny _ _ (subscriptTail _ (Expr.Slice (some _) (some _) none _) _ _) _ _ _); refine Mine.stop_here ?_))
local macro_rules | `(tactic| walk_at "binaryOp Mult str int") => `(tactic| ((with_reducible rename MulN _ => M'); (refine Mine.mul_is M' (by omega) ?_); intro _ _))
local macro_rules | `(tactic| walk_at "compareOp NotEq str str") => `(tactic| (refine Mine.ne_rep ?_))
local macro_rules | `(tactic| walk_at "call ref") => `(tactic| refine Mine.stop_here ?_)

set_option maxRecDepth 100000 in
set_option maxHeartbeats 8000000 in
theorem Mine.off_claim01 (w : World) (mean : ExcName → Option Value) (mg mb : Str → Option Value) (k size : Int) (f U : List Nat) (tT tk tf ts : Tok) (news : List (Addr × Obj)) (hk : k = 0 ∨ k = 1) (hU : Sgn U) (hUl : U.length ≤ 1000) :
   Mine.Claim 4 40 w PySem.Challenge.rw_ij0067_01.row.prog 125 mean mg mb [.str (mkS (reprL U)) tT, .int k tk, .str (mkS f) tf, .int size ts] news (fun news' r => news' = [] ∧ ∃ t, r = .str (mkS U) t) := by
  w_top off
  unfold Mine.Claim
  k_fill
  have hk2 : k < 2 := by omega
  have hk3 : 0 ≤ k := by omega
  intro dp un gd cn cs a ccd cl outer A₀ base h₀ L m s Q E B F KX N Tp hcs hdp hun hret
  refine wpAny_call ?_
  k_dflt cell_enter
  k_steps
  unfold Stop
  k_dflt refine' Mine.read_claim w mean mg mb U _ news hU hUl _ _ _ _ _ _ _ _ _ _ _ _ _ _ _ _ _ ?k1 ?k2 ?k3 ?k4 ?k5 ?k6 ?k7 ?k8 ?k9
  case k1 => k_asm
  case k2 => k_asm
  case k3 => k_asm
  case k4 => k_asm
  case k5 => k_asm
  case k6 => rfl
  case k7 => ktr_room
  case k8 => ktr_units
  case k9 =>
    rintro r h' tk' news' ⟨rfl, t, rfl⟩ F9 N9
    k_steps
    exact hret _ _ _ [] ⟨rfl, _, rfl⟩ (by assumption) (by assumption)

set_option maxRecDepth 100000 in
set_option maxHeartbeats 8000000 in
theorem Mine.off_claim24 (w : World) (mean : ExcName → Option Value) (mg mb : Str → Option Value) (k size : Int) (f : Nat) (U T : List Nat) (tT tk tf ts : Tok) (news : List (Addr × Obj)) (l r : Nat)
   (hT : T = List.replicate l f ++ U ++ List.replicate r f) (hk : k = 2 ∧ l = 0 ∨ k = 3 ∧ r = 0 ∨ k = 4 ∧ (l : Int) = Int.fdiv ((l + r : Nat) : Int) 2) (hsz : size = U.length) (hTl : T.length ≤ 1000) :
   Mine.Claim 4 40 w PySem.Challenge.rw_ij0067_01.row.prog 125 mean mg mb [.str (mkS T) tT, .int k tk, .str (mkS [f]) tf, .int size ts] news (fun news' r => news' = [] ∧ ∃ t, r = .str (mkS U) t) := by
  w_top off
  unfold Mine.Claim
  k_fill
  have hlen : (mkS T).length = l + U.length + r := by rw [mkS_length, hT]; simp only [List.length_append, List.length_replicate]
  have hlen2 : (mkS T).length ≤ 1048576 := by rw [mkS_length]; omega
  have hsz2 : 0 ≤ size ∧ size ≤ 1000 := by
    have : T.length = l + U.length + r := by rw [hT]; simp only [List.length_append, List.length_replicate]
    omega
  have s1 : SlTo (mkS T) l (mkS (List.replicate l f)) := by
    have := slTo_of (List.replicate l f) (U ++ List.replicate r f)
    rwa [← List.append_assoc, ← hT, List.length_replicate] at this
  have s2 : SlMid (mkS T) l (l + U.length : Nat) (mkS U) := by
    have := slMid_of (List.replicate l f) U (List.replicate r f)
    rwa [← hT, List.length_replicate] at this
  have s3 : SlFrom (mkS T) (l + U.length : Nat) (mkS (List.replicate r f)) := by
    have := slFrom_of (List.replicate l f ++ U) (List.replicate r f)
    rwa [← hT, List.length_append, List.length_replicate] at this
  have hl1 : (mkS (List.replicate l f)).length = l := by rw [mkS_length, List.length_replicate]
  have hl2 : (mkS (List.replicate r f)).length = r := by rw [mkS_length, List.length_replicate]
  have hlr : l + r ≤ 1000 := by rw [mkS_length] at hlen; omega
  have hf1 : (mkS [f]).length = 1 := rfl
  have hm : MulN (l + r) := hlr
  clear hT
  intro dp un gd cn cs a ccd cl outer A₀ base h₀ L m s Q E B F KX N Tp hcs hdp hun hret
  rcases hk with ⟨rfl, rfl⟩ | ⟨rfl, rfl⟩ | ⟨rfl, hl⟩
  · refine wpAny_call ?_
    k_dflt cell_enter
    k_steps
    unfold Stop
    (with_reducible rename Fr _ _ _ _ => F')
    (with_reducible rename News _ _ _ _ => N')
    (with_reducible rename SlMid _ _ _ _ => S')
    refine Mine.slice_ss_is (s := ⟨_, _, _, _, _⟩) (S'.at (by (try rw [fdiv2]); omega) (by (try rw [fdiv2]); omega)) F' N' (by rw [PySem.sizeLine_eq]; omega) ?_
    intro h9 t9 k9 F9 N9
    k_steps
    (with_reducible rename News _ _ _ _ => N8)
    exact hret _ _ _ [] ⟨rfl, _, rfl⟩ (by assumption) (fun p hp => N8 p (List.mem_cons_of_mem _ hp))
  · refine wpAny_call ?_
    k_dflt cell_enter
    k_steps
    unfold Stop
    (with_reducible rename Fr _ _ _ _ => F')
    (with_reducible rename News _ _ _ _ => N')
    (with_reducible rename SlMid _ _ _ _ => S')
    refine Mine.slice_ss_is (s := ⟨_, _, _, _, _⟩) (S'.at (by (try rw [fdiv2]); omega) (by (try rw [fdiv2]); omega)) F' N' (by rw [PySem.sizeLine_eq]; omega) ?_
    intro h9 t9 k9 F9 N9
    k_steps
    (with_reducible rename News _ _ _ _ => N8)
    exact hret _ _ _ [] ⟨rfl, _, rfl⟩ (by assumption) (fun p hp => N8 p (List.mem_cons_of_mem _ hp))
  · rw [fdiv2] at hl
    refine wpAny_call ?_
    k_dflt cell_enter
    k_steps
    unfold Stop
    (with_reducible rename Fr _ _ _ _ => F')
    (with_reducible rename News _ _ _ _ => N')
    (with_reducible rename SlMid _ _ _ _ => S')
    refine Mine.slice_ss_is (s := ⟨_, _, _, _, _⟩) (S'.at (by (try rw [fdiv2]); omega) (by (try rw [fdiv2]); omega)) F' N' (by rw [PySem.sizeLine_eq]; omega) ?_
    intro h9 t9 k9 F9 N9
    k_steps
    (with_reducible rename News _ _ _ _ => N8)
    exact hret _ _ _ [] ⟨rfl, _, rfl⟩ (by assumption) (fun p hp => N8 p (List.mem_cons_of_mem _ hp))

theorem Mine.off_claim (w : World) (mean : ExcName → Option Value) (mg mb : Str → Option Value) (k size : Int) (f : Nat) (U T : List Nat) (tT tk tf ts : Tok) (news : List (Addr × Obj))
   (hT : LayerIs k f U T) (hU : Sgn U) (hsz : size = U.length) (hUl : U.length ≤ 1000) (hTl : T.length ≤ 1000) :
   Mine.Claim 4 40 w PySem.Challenge.rw_ij0067_01.row.prog 125 mean mg mb [.str (mkS T) tT, .int k tk, .str (mkS [f]) tf, .int size ts] news (fun news' r => news' = [] ∧ ∃ t, r = .str (mkS U) t) := by
  rcases hT with ⟨hk, rfl⟩ | ⟨l, r, rfl, hk⟩
  · exact Mine.off_claim01 w mean mg mb k size [f] U tT tk tf ts news hk hU hUl
  · exact Mine.off_claim24 w mean mg mb k size f U _ tT tk tf ts news l r rfl hk hsz hTl
end

/-! K1 -/
section
namespace Mine
/-- the next four sizes by the law's reckoning -/
def CN (c0 c1 c2 c3 k f wd d0 d1 d2 d3 : Int) : Prop :=
  (1 < k ∧ ∃ more : Int, more = (if wd - (c0 + (c1 + (c2 + (c3 + 0)))) > 0 then wd - (c0 + (c1 + (c2 + (c3 + 0)))) else 0) ∧
     d0 = c0 + (if f = 0 then more else 0) ∧ d1 = c1 + (if f = 1 then more else 0) ∧ d2 = c2 + (if f = 2 then more else 0) ∧ d3 = c3 + (if f = 3 then more else 0)) ∨
  (¬ 1 < k ∧ 0 < c0 ∧ c1 = 0 ∧ d0 = c0 ∧ d1 = 2 ∧ d2 = 2 * c2 ∧ d3 = c3) ∨
  (¬ 1 < k ∧ ¬ (0 < c0 ∧ c1 = 0) ∧ d0 = c0 + 2 ∧ d1 = c1 ∧ d2 = 2 * c2 + c0 ∧ d3 = c3)
theorem intsAre4 {ys : List Value} {a b c d : Int} (h : IntsAre ys [a, b, c, d]) : ∃ t0 t1 t2 t3, ys = [.int a t0, .int b t1, .int c t2, .int d t3] := by
  cases h with
  | cons _ t0 h => cases h with
    | cons _ t1 h => cases h with
      | cons _ t2 h => cases h with
        | cons _ t3 h => cases h; exact ⟨t0, t1, t2, t3, rfl⟩
theorem news_skip3 {h₀ h : Heap} {L : Addr} {x a b c : Addr × Obj} {l : List (Addr × Obj)} (N : News h₀ L h (x :: a :: b :: c :: l)) : News h₀ L h ([x] ++ l) := fun p hp => N p (by
  simp only [List.mem_append, List.mem_cons, List.not_mem_nil, or_false] at hp ⊢
  rcases hp with rfl | hp
  · exact .inl rfl
  · exact .inr (.inr (.inr (.inr hp))))
theorem off1_mem {D : Addr} : ∀ {l : List (Addr × Obj)}, LCg.Off1 D l → ∀ p ∈ l, @Ne Nat p.1 D
  | [], _, _, h => nomatch h
  | q :: r, x, p, h => by
    rcases List.mem_cons.mp h with rfl | h
    · exact x.1
    · exact off1_mem x.2 p h
theorem lt_mem {D : Addr} : ∀ {l : List (Addr × Obj)}, AllLt D l → ∀ p ∈ l, @Ne Nat p.1 D
  | [], _, _, h => nomatch h
  | q :: r, x, p, h => by
    rcases List.mem_cons.mp h with rfl | h
    · exact Nat.ne_of_lt x.1
    · exact lt_mem x.2 p h
def CRet (d0 d1 d2 d3 : Int) (news news' : List (Addr × Obj)) (r : Value) : Prop :=
  ∃ (D : Addr) (t0 t1 t2 t3 : Tok) (n : Nat), r = .ref D ∧ news' = [(D, PySem.W.listOf #[Value.int d0 t0, Value.int d1 t1, Value.int d2 t2, Value.int d3 t3] n)] ∧ (∀ p ∈ news, @Ne Nat p.1 D)
end Mine
set_option maxRecDepth 100000 in
set_option maxHeartbeats 8000000 in
theorem Mine.counts_claim (w : World) (mean : ExcName → Option Value) (mg mb : Str → Option Value) (c0 c1 c2 c3 k f wd d0 d1 d2 d3 : Int) (t0 t1 t2 t3 tk tf tw : Tok) (ca : Addr) (nn : Nat) (rest : List (Addr × Obj))
   (h0 : 0 ≤ c0 ∧ c0 ≤ 1000) (h1 : 0 ≤ c1 ∧ c1 ≤ 1000) (h2 : 0 ≤ c2 ∧ c2 ≤ 1000) (h3 : 0 ≤ c3 ∧ c3 ≤ 1000) (hw : 0 ≤ wd ∧ wd ≤ 1000) (hf : 0 ≤ f ∧ f < 4) (hk0 : 0 ≤ k ∧ k < 5)
   (hC : CN c0 c1 c2 c3 k f wd d0 d1 d2 d3) :
   Mine.Claim 2 16 w PySem.Challenge.rw_ij0067_01.row.prog 111 mean mg mb [.ref ca, .int k tk, .int f tf, .int wd tw] ((ca, PySem.W.listOf #[Value.int c0 t0, Value.int c1 t1, Value.int c2 t2, Value.int c3 t3] nn) :: rest)
    (CRet d0 d1 d2 d3 ((ca, PySem.W.listOf #[Value.int c0 t0, Value.int c1 t1, Value.int c2 t2, Value.int c3 t3] nn) :: rest)) := by
  w_top off
  unfold Mine.Claim
  k_fill
  intro dp un gd cn cs a ccd cl outer A₀ base h₀ L m s Q E B F KX N Tp hcs hdp hun hret
  refine wpAny_call ?_
  k_dflt (
    refine' code_defC ?k1 ?k2 ?k3 ?k4 ?k5 ?kA ?kF ?kK ?k6 ?k7 ?k8 ?k9 ?kB ?kD ?_ ?c2 ?c3 ?c4
    (case kA => exact rfl)
    (case kF => exact rfl)
    (case kK => assumption)
    (case k1 => k_asm)
    (case k2 => k_asm)
    (case k3 => k_asm)
    (case k4 => k_asm)
    (case k5 => k_asm)
    (case k6 => k_is)
    (case k7 => k_is)
    (case k8 => ktr_room)
    (case k9 => exact BindsTo.of_eq rfl)
    (case kB => exact rfl)
    (case kD => decide +kernel)
    (case c2 => exact rfl)
    (case c3 => exact rfl)
    (case c4 => exact rfl)
    k_whole
    intro g' L' h' tk' cells' FG' F' N' Y' B' X' T' l1
    (try k_lt l1)
    k_cells Y'
    (try simp only [List.cons_append, List.nil_append] at N')
    (try dsimp only)
    (try k_lift B')
    (try k_fold))
  have hMk := kstMark
  have l2 : ∀ p ∈ rest, p.1 < L' + 1 := fun p hp => Nat.lt_of_lt_of_le (kst_ltOf l1.2 p hp) (Nat.le_add_right _ 1)
  have l3 : ∀ p ∈ rest, p.1 < L' + 1 + 1 := fun p hp => Nat.lt_of_lt_of_le (kst_ltOf l1.2 p hp) (Nat.le_add_right _ 2)
  have l4 : ∀ p ∈ rest, p.1 < L' + 1 + 1 + 1 := fun p hp => Nat.lt_of_lt_of_le (kst_ltOf l1.2 p hp) (Nat.le_add_right _ 3)
  have l5 : @LT.lt Nat _ ca L' := l1.1
  rcases hC with ⟨hk, more, hmore, e0, e1, e2, e3⟩ | ⟨hk, ha, hb, e0, e1, e2, e3⟩ | ⟨hk, ha, e0, e1, e2, e3⟩
  · k_steps
    (with_reducible rename IntsAre _ _ => hI)
    rw [show rangeKs 0 (4 - 0 : Int).toNat = [0, 1, 2, 3] from rfl] at hI
    have hI2 : IntsAre ys [d0, d1, d2, d3] := by
      refine (congrArg (IntsAre ys) ?_).mp hI
      rw [← hmore]
      simp only [List.map_cons, List.map_nil, List.cons.injEq, and_true]
      refine ⟨?_, ?_, ?_, ?_⟩
      · rw [e0]; by_cases h : f = 0 <;> simp [h, eq_comm]
      · rw [e1]; by_cases h : f = 1 <;> simp [h, eq_comm]
      · rw [e2]; by_cases h : f = 2 <;> simp [h, eq_comm]
      · rw [e3]; by_cases h : f = 3 <;> simp [h, eq_comm]
    obtain ⟨q0, q1, q2, q3, rfl⟩ := intsAre4 hI2
    (with_reducible rename News _ _ _ _ => N8)
    (with_reducible rename _ ∧ _ ∧ _ ∧ _ ∧ LCg.Off1 _ rest => o9)
    refine hret _ _ _ _ ?_ (by assumption) (news_skip3 N8)
    exact ⟨_, _, _, _, _, _, rfl, rfl, off1_mem (l := _ :: rest) ⟨o9.2.2.2.1, o9.2.2.2.2⟩⟩
  · have g0 : [c0, c1, c2, c3].getD (Int.toNat 0) 0 = c0 := rfl
    have g1 : [c0, c1, c2, c3].getD (Int.toNat 1) 0 = c1 := rfl
    k_steps
    all_goals first
    | (exfalso; omega)
    | (subst e0 e1 e2 e3
       (with_reducible rename News _ _ _ _ => N8)
       (with_reducible rename _ ∧ _ ∧ _ ∧ _ ∧ AllLt _ rest => l9)
       refine hret _ _ _ _ ?_ (by assumption) (news_skip3 N8)
       exact ⟨_, _, _, _, _, _, rfl, rfl, lt_mem (l := _ :: rest) ⟨l9.2.2.2.1, l9.2.2.2.2⟩⟩)
  · have g0 : [c0, c1, c2, c3].getD (Int.toNat 0) 0 = c0 := rfl
    have g1 : [c0, c1, c2, c3].getD (Int.toNat 1) 0 = c1 := rfl
    k_steps
    all_goals first
    | (exfalso; omega)
    | (subst e0 e1 e2 e3
       (with_reducible rename News _ _ _ _ => N8)
       (with_reducible rename _ ∧ _ ∧ _ ∧ _ ∧ AllLt _ rest => l9)
       refine hret _ _ _ _ ?_ (by assumption) (news_skip3 N8)
       exact ⟨_, _, _, _, _, _, rfl, rfl, lt_mem (l := _ :: rest) ⟨l9.2.2.2.1, l9.2.2.2.2⟩⟩)
end

/-! P2 -/
section
namespace Mine
/-- the sign that a number draws -/
def sgc (k : Int) : Nat := [39, 34, 92, 97].getD (k.fmod 4).toNat 0
def sgAt (k : Int) : Str := [Str.ofString "'", Str.ofString "\"", Str.ofString "\\", Str.ofString "a"].getD (k.fmod 4).toNat Str.empty
theorem fmod4 (k : Int) : 0 ≤ k.fmod 4 ∧ k.fmod 4 < 4 := ⟨Int.fmod_nonneg_of_pos _ (by decide), Int.fmod_lt_of_pos _ (by decide)⟩
theorem fmod4_cases (k : Int) : k.fmod 4 = 0 ∨ k.fmod 4 = 1 ∨ k.fmod 4 = 2 ∨ k.fmod 4 = 3 := by have := fmod4 k; omega
theorem sgAt_eq (k : Int) : sgAt k = ⟨#[sgc k]⟩ := by
  unfold sgAt sgc
  rcases fmod4_cases k with h | h | h | h <;> rw [h] <;> decide +kernel
theorem sgAt_len (k : Int) : (sgAt k).length = 1 := by rw [sgAt_eq]; rfl
theorem sgc_sgn (k : Int) : sgc k = 39 ∨ sgc k = 34 ∨ sgc k = 92 ∨ sgc k = 97 := by
  unfold sgc
  rcases fmod4_cases k with h | h | h | h <;> rw [h] <;> decide
theorem join_mkS : ∀ l : List Nat, Str.join (Str.ofString "") (l.map fun c => (⟨#[c]⟩ : Str)) = mkS l
  | [] => rfl
  | [c] => rfl
  | c :: d :: r => by
    have ih := join_mkS (d :: r)
    rw [List.map_cons] at ih
    show (⟨#[c]⟩ : Str) ++ Str.ofString "" ++ Str.join (Str.ofString "") ((⟨#[d]⟩ : Str) :: r.map fun c => (⟨#[c]⟩ : Str)) = _
    rw [ih]
    have e : Str.ofString "" = Str.empty := by decide +kernel
    rw [e, Str.append_empty]
    exact (mkS_append [c] (d :: r)).symm
theorem join_sg (l : List Int) : Txt.join (Str.ofString "") (l.map sgAt) = mkS (l.map sgc) := by
  show Builtin.Str.glued (Str.ofString "") (l.map sgAt) = _
  rw [StrLaws.glued_eq_join]
  have : l.map sgAt = (l.map sgc).map fun c => (⟨#[c]⟩ : Str) := by
    rw [List.map_map]
    exact List.map_congr_left fun k _ => sgAt_eq k
  rw [this, join_mkS]
theorem sgn_map (l : List Int) : Sgn (l.map sgc) := by
  intro c hc
  obtain ⟨k, _, rfl⟩ := List.mem_map.mp hc
  exact sgc_sgn k
section
variable {prog : Program} {w : World} {A : Around} {E : Value → Shared → Prop} {s : Shared} {t : Tok} {Q : Value → Shared → Prop} {D : Addr} {ys : List Value} {l : List Int}
theorem join_is (hl : s.heap.IsList D ys.toArray) (hc : CarriedAll ys (l.map fun a => PyData.str (sgAt a))) (hn : l.length ≤ 1048576)
    (h : ∀ t' k, (mkS (l.map sgc)).length = l.length → Q (.str (mkS (l.map sgc)) t') { s with toks := k }) :
    wpAny (model prog w) A (call (.builtin "str.join") [.str (Str.ofString "") t, .ref D]) Q E s :=
  KT.join_1 hl hc (fun a _ => sgAt_len a) hn fun t' k e => by
    rw [join_sg] at e ⊢
    exact h t' k e
theorem count_39 {l : List Nat} {u : Tok} (h : Q (.int (l.count 39 : Nat) s.toks) { s with toks := s.toks + 1 }) : wpAny (model prog w) A (call (.builtin "str.count") [.str (mkS l) t, .str (Str.ofString "'") u]) Q E s :=
  SC.count (by rw [count_one l _ 39 (by decide +kernel)]; exact h)
theorem count_34 {l : List Nat} {u : Tok} (h : Q (.int (l.count 34 : Nat) s.toks) { s with toks := s.toks + 1 }) : wpAny (model prog w) A (call (.builtin "str.count") [.str (mkS l) t, .str (Str.ofString "\"") u]) Q E s :=
  SC.count (by rw [count_one l _ 34 (by decide +kernel)]; exact h)
theorem count_92 {l : List Nat} {u : Tok} (h : Q (.int (l.count 92 : Nat) s.toks) { s with toks := s.toks + 1 }) : wpAny (model prog w) A (call (.builtin "str.count") [.str (mkS l) t, .str (Str.ofString "\\") u]) Q E s :=
  SC.count (by rw [count_one l _ 92 (by decide +kernel)]; exact h)
theorem count_97 {l : List Nat} {u : Tok} (h : Q (.int (l.count 97 : Nat) s.toks) { s with toks := s.toks + 1 }) : wpAny (model prog w) A (call (.builtin "str.count") [.str (mkS l) t, .str (Str.ofString "a") u]) Q E s :=
  SC.count (by rw [count_one l _ 97 (by decide +kernel)]; exact h)
end
theorem srcAt {h₀ : Heap} {ax : Addr} {its : Array Value} {n : Nat} {news : List (Addr × Obj)} (hm : (ax, PySem.W.listOf its n) ∈ news) : LCg.SrcAt h₀ ax its news := Or.inr ⟨_, hm, rfl, _, rfl⟩
end Mine
end

/-! P3 -/
section
namespace Mine
theorem count_escC (q c d : Nat) (hd : d ≠ 92) : (escC q c).count d = [c].count d := by
  unfold escC
  split
  · rw [List.count_cons_of_ne (by omega)]
  · rfl
theorem count_esc (q d : Nat) (hd : d ≠ 92) : ∀ U : List Nat, (esc q U).count d = U.count d
  | [] => rfl
  | c :: r => by
    rw [esc_cons, List.count_append, count_esc q d hd r, count_escC q c d hd, ← List.count_append]; rfl
theorem count_escC92 (q c : Nat) (hq : q ≠ 92) : (escC q c).count 92 = 2 * [c].count 92 + [c].count q := by
  unfold escC
  by_cases h1 : c = q
  · subst h1
    rw [if_pos (.inl rfl)]
    simp [List.count_cons, hq]
  · by_cases h2 : c = 92
    · subst h2
      rw [if_pos (.inr rfl)]
      simp [List.count_cons, h1]
    · rw [if_neg (by omega)]
      simp [List.count_cons, h1, h2]
theorem count_esc92 (q : Nat) (hq : q ≠ 92) : ∀ U : List Nat, (esc q U).count 92 = 2 * U.count 92 + U.count q
  | [] => rfl
  | c :: r => by
    have e1 : (c :: r).count 92 = [c].count 92 + r.count 92 := by rw [← List.count_append]; rfl
    have e2 : (c :: r).count q = [c].count q + r.count q := by rw [← List.count_append]; rfl
    rw [esc_cons, List.count_append, count_esc92 q hq r, count_escC92 q c hq, e1, e2]; omega
theorem sgn_sum : ∀ U : List Nat, Sgn U → U.count 39 + U.count 34 + U.count 92 + U.count 97 = U.length
  | [], _ => rfl
  | c :: r, h => by
    have ih := sgn_sum r fun d hd => h d (List.mem_cons_of_mem _ hd)
    have hc := h c (List.mem_cons_self ..)
    simp only [List.count_cons, List.length_cons]
    rcases hc with rfl | rfl | rfl | rfl <;> simp <;> omega
theorem count_repr (U : List Nat) (d : Nat) : (reprL U).count d = (esc (qOf U) U).count d + 2 * [qOf U].count d := by
  have e : reprL U = [qOf U] ++ (esc (qOf U) U ++ [qOf U]) := rfl
  rw [e, List.count_append, List.count_append]; omega
/-- the fill's code -/
def fcOf (f : Int) : Nat := [39, 34, 92, 97].getD f.toNat 0
def padL (k : Int) (fc wd : Nat) (U : List Nat) : List Nat :=
  let more := wd - U.length
  let l := if k = 2 then 0 else if k = 3 then more else more / 2
  List.replicate l fc ++ U ++ List.replicate (more - l) fc
/-- the text behind a turn -/
def layer (k : Int) (fc wd : Nat) (U : List Nat) : List Nat := if k < 2 then reprL U else padL k fc wd U
theorem layerIs_layer {k : Int} (hk : 0 ≤ k ∧ k < 5) (fc wd : Nat) (U : List Nat) : LayerIs k fc U (layer k fc wd U) := by
  unfold LayerIs layer
  by_cases h : k < 2
  · left; rw [if_pos h]; exact ⟨by omega, rfl⟩
  · right
    rw [if_neg h]
    refine ⟨_, _, rfl, ?_⟩
    by_cases h2 : k = 2
    · left; exact ⟨h2, if_pos h2⟩
    · by_cases h3 : k = 3
      · right; left
        refine ⟨h3, ?_⟩
        rw [if_neg h2, if_pos h3]; omega
      · right; right
        refine ⟨by omega, ?_⟩
        rw [if_neg h2, if_neg h3, fdiv2]; omega
theorem padL_count (k : Int) (fc wd : Nat) (U : List Nat) (d : Nat) : (padL k fc wd U).count d = U.count d + (if fc = d then wd - U.length else 0) := by
  unfold padL
  simp only [List.count_append, List.count_replicate]
  have hl : (if k = 2 then 0 else if k = 3 then wd - U.length else (wd - U.length) / 2) ≤ wd - U.length := by split; omega; split <;> omega
  by_cases h : fc = d
  · simp only [h, beq_self_eq_true, if_true]; omega
  · have : (fc == d) = false := by simpa using h
    simp [this, h]
theorem padL_length (k : Int) (fc wd : Nat) (U : List Nat) : (padL k fc wd U).length = U.length + (wd - U.length) := by
  unfold padL
  simp only [List.length_append, List.length_replicate]
  have hl : (if k = 2 then 0 else if k = 3 then wd - U.length else (wd - U.length) / 2) ≤ wd - U.length := by split; omega; split <;> omega
  omega
theorem fcOf_sgn {f : Int} (hf : 0 ≤ f ∧ f < 4) : fcOf f = 39 ∨ fcOf f = 34 ∨ fcOf f = 92 ∨ fcOf f = 97 := by
  have : f = 0 ∨ f = 1 ∨ f = 2 ∨ f = 3 := by omega
  rcases this with rfl | rfl | rfl | rfl <;> decide
theorem layer_sgn {k f : Int} (hf : 0 ≤ f ∧ f < 4) (wd : Nat) {U : List Nat} (hU : Sgn U) : Sgn (layer k (fcOf f) wd U) := by
  unfold layer
  split
  · exact hU.repr
  · unfold padL
    have hr : ∀ n, Sgn (List.replicate n (fcOf f)) := fun n c hc => by
      rw [(List.mem_replicate.mp hc).2]; exact fcOf_sgn hf
    exact ((hr _).append hU).append (hr _)
theorem layer_len {k : Int} (fc wd : Nat) (U : List Nat) (hw : wd ≤ U.length + 3) (hl : 1 ≤ U.length) : (layer k fc wd U).length ≤ 2 * U.length + 2 := by
  unfold layer
  split
  · exact reprL_le U
  · rw [padL_length]; omega
theorem layer_ge {k : Int} (fc wd : Nat) (U : List Nat) : U.length ≤ (layer k fc wd U).length := by
  unfold layer
  split
  · rw [reprL_length]; have := esc_ge (qOf U) U; omega
  · rw [padL_length]; omega
theorem layer_CN {k f : Int} (hk : 0 ≤ k ∧ k < 5) (hf : 0 ≤ f ∧ f < 4) (wd : Nat) {U : List Nat} (hU : Sgn U) :
    CN (U.count 39 : Nat) (U.count 34 : Nat) (U.count 92 : Nat) (U.count 97 : Nat) k f wd
      ((layer k (fcOf f) wd U).count 39 : Nat) ((layer k (fcOf f) wd U).count 34 : Nat) ((layer k (fcOf f) wd U).count 92 : Nat) ((layer k (fcOf f) wd U).count 97 : Nat) := by
  have hs := sgn_sum U hU
  unfold layer
  by_cases h : k < 2
  · rw [if_pos h]
    right
    simp only [count_repr]
    have m39 : 0 < U.count 39 ↔ 39 ∈ U := List.count_pos_iff
    have m34 : 0 < U.count 34 ↔ 34 ∈ U := List.count_pos_iff
    by_cases hq : 39 ∈ U ∧ ¬ 34 ∈ U
    · left
      have e : qOf U = 34 := if_pos hq
      have h0 := m39.mpr hq.1
      have h1 : U.count 34 = 0 := by
        rcases Nat.eq_zero_or_pos (U.count 34) with h | h
        · exact h
        · exact absurd (m34.mp h) hq.2
      rw [e, count_esc 34 39 (by decide), count_esc 34 34 (by decide), count_esc 34 97 (by decide), count_esc92 34 (by decide)]
      have a1 : [34].count 39 = 0 := rfl
      have a2 : [34].count 34 = 1 := rfl
      have a3 : [34].count 92 = 0 := rfl
      have a4 : [34].count 97 = 0 := rfl
      omega
    · right
      have e : qOf U = 39 := if_neg hq
      have hn : ¬ (0 < U.count 39 ∧ U.count 34 = 0) := fun hh => hq ⟨m39.mp hh.1, fun h => by have := m34.mpr h; omega⟩
      rw [e, count_esc 39 39 (by decide), count_esc 39 34 (by decide), count_esc 39 97 (by decide), count_esc92 39 (by decide)]
      have a1 : [39].count 39 = 1 := rfl
      have a2 : [39].count 34 = 0 := rfl
      have a3 : [39].count 92 = 0 := rfl
      have a4 : [39].count 97 = 0 := rfl
      omega
  · rw [if_neg h]
    left
    refine ⟨by omega, ((wd - U.length : Nat) : Int), ?_, ?_⟩
    · split <;> omega
    · simp only [padL_count]
      have : f = 0 ∨ f = 1 ∨ f = 2 ∨ f = 3 := by omega
      rcases this with rfl | rfl | rfl | rfl <;> simp [fcOf]
end Mine
end

/-! FM -/
section
set_option maxRecDepth 100000
namespace Mine
theorem kind_ascii : builtinKind "ascii" = none := by decide +kernel
theorem plain_ascii : plainId "ascii" = true := by decide +kernel
theorem entry_ascii : entryFor table "ascii" = some Builtin.«ascii» := PySem.entryFor_of_fast (by kernel_rfl)
theorem args_ascii (a : Value) : argsOk "ascii" ⟨[a], []⟩ := by unfold argsOk; kernel_rfl
section
variable {prog : Program} {w : World} {A : Around} {E : Value → Shared → Prop} {s : Shared} {t : Tok} {Q : Value → Shared → Prop}
theorem repr_is {U : List Nat} (hU : Sgn U) (hl : U.length ≤ 1000) (h : Q (.str (mkS (reprL U)) s.toks) { s with toks := s.toks + 1 }) : wpAny (model prog w) A (call (.builtin "repr") [.str (mkS U) t]) Q E s := by
  have e := reprText_eq hU
  refine P.repr_of_str ?_ ?_
  · rw [e]; exact h
  · rw [e, mkS_length, sizeLine_eq]; have := reprL_le U; omega
theorem ascii_is {U : List Nat} (hU : Sgn U) (hl : U.length ≤ 1000) (h : Q (.str (mkS (reprL U)) s.toks) { s with toks := s.toks + 1 }) : wpAny (model prog w) A (call (.builtin "ascii") [.str (mkS U) t]) Q E s := by
  have e := reprText_eq hU
  have hx : (reprText (mkS U)).length ≤ sizeLine := by rw [e, mkS_length, sizeLine_eq]; have := reprL_le U; omega
  refine Calls.call_function_entry kind_ascii plain_ascii entry_ascii (args_ascii _) ?_
  unfold Builtin.«ascii»
  refine wpAny_bind (m := oneArg "ascii" _) (wpAny_pure ?_)
  have hv : [Value.str (mkS U) t].any Value.onHeap = false := rfl
  simp only [cRoomFor, hv, Bool.false_eq_true, if_false, pure_bind]
  refine wpAny_bind (m := callSpecialIfBound? _ (Str.ofString "__repr__")) (wpAny_callSpecialIfBound?_slot (name := Str.ofString "__repr__") (typeIs_str s _ t) F.slot_str_repr (call_gives F.slot_str_repr (typeIs_str s _ t) F.entry_str_repr (F.args_str_repr_1 _) (gives_str_repr _ t) ⟨hx, ?_⟩))
  rw [e]
  refine wpAny_bind (wpAny_of_eq (a := some _) rfl ?_)
  have hall : (mkS (reprL U)).cps.all (· < 128) = true := by
    rw [Array.all_eq_true']
    intro c hc
    have hc' : c ∈ reprL U := by
      have : c ∈ (mkS (reprL U)).cps.toList := Array.mem_toList_iff.mpr hc
      rwa [mkS_cps] at this
    have := hU.repr c hc'
    simp only [decide_eq_true_eq]; omega
  refine wpAny_ite ?_
  rw [if_pos hall]
  refine wpAny_bind (wpAny_rule ?_)
  exact wpAny_pure ⟨_, rfl, h⟩
/-- the digits of a width -/
def digs (n : Nat) : List Nat := (Str.ofString (toString (n : Int))).cps.toList
def okSpec (fc al w : Nat) : Bool := match Builtin.Float.parseFormatSpec (fc :: al :: digs w) "str" 60 with
  | .ok f => f.fill == fc && f.align == al && f.sign == none && f.noNeg0 == false && f.alt == false && f.width == some w && f.grouping == none && f.precision == none && f.type == none
  | .error _ => false
theorem okSpec_all : ((List.range 100).all fun w => [39, 34, 92, 97].all fun fc => [60, 62, 94].all fun al => okSpec fc al w) = true := by decide +kernel
end
def okRest (fc al w : Nat) : Bool := !((mkS (fc :: al :: digs w)).cps.back? == some 0) && !((mkS (fc :: al :: digs w)).cps.toList.drop 1).any (· ≥ 128) && (mkS (fc :: al :: digs w)).cps.getD 0 0 < 128 && !((mkS (fc :: al :: digs w)).length == 0) && (mkS (fc :: al :: digs w)).length ≤ 20
theorem okRest_all : ((List.range 100).all fun w => [39, 34, 92, 97].all fun fc => [60, 62, 94].all fun al => okRest fc al w) = true := by decide +kernel
theorem of_all {P : Nat → Nat → Nat → Bool} (h : ((List.range 100).all fun w => [39, 34, 92, 97].all fun fc => [60, 62, 94].all fun al => P fc al w) = true) {fc al w : Nat} (hw : w < 100)
    (hf : fc = 39 ∨ fc = 34 ∨ fc = 92 ∨ fc = 97) (ha : al = 60 ∨ al = 62 ∨ al = 94) : P fc al w = true := by
  have h1 := List.all_eq_true.mp h w (List.mem_range.mpr hw)
  have h2 := List.all_eq_true.mp h1 fc (by simp; omega)
  exact List.all_eq_true.mp h2 al (by simp; omega)
theorem parse_is {fc al w : Nat} (hw : w < 100) (hf : fc = 39 ∨ fc = 34 ∨ fc = 92 ∨ fc = 97) (ha : al = 60 ∨ al = 62 ∨ al = 94) :
    Builtin.Float.parseFormatSpec (fc :: al :: digs w) "str" 60 = .ok { fill := fc, align := al, width := some w } := by
  have h := of_all okSpec_all hw hf ha
  unfold okSpec at h
  split at h
  · rename_i f hfe
    rw [hfe]
    obtain ⟨a1, a2, a3, a4, a5, a6, a7, a8, a9⟩ := f
    simp only [Bool.and_eq_true, beq_iff_eq] at h
    obtain ⟨⟨⟨⟨⟨⟨⟨⟨rfl, rfl⟩, rfl⟩, rfl⟩, rfl⟩, rfl⟩, rfl⟩, rfl⟩, rfl⟩ := h
    rfl
  · exact absurd h (by decide)
def alOf (k : Int) : Nat := if k = 2 then 60 else if k = 3 then 62 else 94
theorem strField_is (U : List Nat) (k : Int) (fc w : Nat) (hk : k = 2 ∨ k = 3 ∨ k = 4) :
    Builtin.Str.strField (mkS U) { fill := fc, align := alOf k, width := some w } "str" = .ok (if w ≤ U.length then none else some (mkS (padL k fc w U))) := by
  have hsub : Builtin.Str.strSub (mkS U) 0 (mkS U).length = mkS U := by
    refine Str.ext' (Array.toList_inj.mp ?_)
    rw [StrLaws.strSub_toList, mkS_cps, mkS_length]; simp
  unfold Builtin.Str.strField
  simp only [mkS_length] at hsub ⊢
  have hal : (alOf k == 61) = false := by rcases hk with rfl | rfl | rfl <;> rfl
  simp only [bind, Except.bind, pure, Except.pure, Option.all_some, Option.all_none, Bool.and_true, Option.getD_none, Option.getD_some, hsub, Option.isSome_none, hal, Bool.false_eq_true, if_false, decide_eq_true_eq]
  rw [if_neg (by decide)]
  by_cases hw : w ≤ U.length
  · rw [if_pos hw, if_pos hw]
  · rw [if_neg hw, if_neg hw, mkS_length]
    congr 2
    refine Str.ext' (Array.toList_inj.mp ?_)
    unfold Builtin.Str.padded padL
    rw [mkS_cps]
    simp only [Array.toList_append, Array.toList_replicate, mkS_cps]
    rcases hk with rfl | rfl | rfl
    · simp [alOf]
    · simp [alOf]
    · simp [alOf]
theorem format_meets {U : List Nat} {k : Int} {fc w : Nat} (t u : Tok) (hk : k = 2 ∨ k = 3 ∨ k = 4) (hw : w < 100) (hf : fc = 39 ∨ fc = 34 ∨ fc = 92 ∨ fc = 97) (hl : U.length ≤ 1000) :
    Meets (Builtin.«str.__format__» ⟨[.str (mkS U) t, .str (mkS (fc :: alOf k :: digs w)) u], []⟩) (fun _ R s => ∀ t' k', R (.ok (.ret (.str (mkS (padL k fc w U)) t'))) { s with toks := k' }) := by
  apply KPc.meets_of
  intro prog w' A s Q E h
  unfold Builtin.«str.__format__»
  refine wpAny_bind (wpAny_of_eq (a := (_, _, _)) rfl ?_)
  refine wpAny_bind (wpAny_of_eq (a := some _) rfl ?_)
  have hal : alOf k = 60 ∨ alOf k = 62 ∨ alOf k = 94 := by rcases hk with rfl | rfl | rfl <;> decide
  have hr := of_all okRest_all hw hf hal
  have hp := parse_is hw hf hal
  have hs := strField_is U k fc w hk
  have hpl := padL_length k fc w U
  generalize alOf k = al at *
  unfold okRest at hr
  simp only [Bool.and_eq_true, Bool.not_eq_true', decide_eq_true_eq] at hr
  obtain ⟨⟨⟨⟨r1, r2⟩, r3⟩, r4⟩, r5⟩ := hr
  dsimp only
  refine wpAny_ite ?_
  rw [if_neg (by rw [r4]; decide)]
  refine wpAny_ite ?_
  have r3' : decide ((mkS (fc :: al :: digs w)).cps.getD 0 0 ≥ 128) = false := decide_eq_false (by omega)
  rw [if_neg (by rw [r2, r3']; simp)]
  refine wpAny_bind (KXf.cut_str ?_)
  rw [mkS_cps, hp]
  have r1' : ((none : Option Nat).isNone && (mkS (fc :: al :: digs w)).cps.back? == some 0) = false := by rw [r1]; rfl
  simp only [bind, Except.bind, r1', Bool.false_eq_true, if_false, Option.getD_some]
  have htl : Builtin.Str.tooLong w = false := by
    unfold Builtin.Str.tooLong
    simp only [decide_eq_false_iff_not, sizeLine_eq]; omega
  rw [htl]
  simp only [Bool.false_eq_true, if_false]
  rw [hs]
  by_cases hwl : w ≤ U.length
  · rw [if_pos hwl]
    have e : padL k fc w U = U := by
      unfold padL
      have : w - U.length = 0 := by omega
      rw [this]
      rcases hk with rfl | rfl | rfl <;> simp
    rw [e] at h
    refine wpAny_bind (wpAny_rule ?_)
    exact wpAny_pure (h t s.toks)
  · rw [if_neg hwl]
    refine KXf.ret_text rfl ?_ h
    rw [mkS_length, sizeLine_eq]; omega
end Mine
namespace Mine
section
variable {prog : Program} {w : World} {A : Around} {E : Value → Shared → Prop} {s : Shared} {t u : Tok} {Q : Value → Shared → Prop}
theorem format_is {U : List Nat} {k : Int} {fc n : Nat} {sp : Str} (hsp : sp = mkS (fc :: alOf k :: digs n)) (hk : k = 2 ∨ k = 3 ∨ k = 4) (hw : n < 100) (hf : fc = 39 ∨ fc = 34 ∨ fc = 92 ∨ fc = 97) (hl : U.length ≤ 1000)
    (h : ∀ t' k', Q (.str (mkS (padL k fc n U)) t') { s with toks := k' }) : wpAny (model prog w) A (call (.builtin "format") [.str (mkS U) t, .str sp u]) Q E s := by
  have hal : alOf k = 60 ∨ alOf k = 62 ∨ alOf k = 94 := by rcases hk with rfl | rfl | rfl <;> decide
  have hr := of_all okRest_all hw hf hal
  have hne : (sp.length == 0) = false := by
    rw [hsp]
    unfold okRest at hr
    simp only [Bool.and_eq_true, Bool.not_eq_true', decide_eq_true_eq] at hr
    exact hr.1.2
  refine Calls.call_function_entry Flt.kind_format Flt.plain_format Flt.entry_format (Flt.args_format _ _) ?_
  unfold Builtin.«format»
  refine wpAny_bind (m := someArgs "format" 1 2 _) (wpAny_pure ?_)
  show wpAny _ _ (typeNameOf (.str sp u) >>= fun specType => (if (sp.length == 0) = true then _ else _)) _ _ s
  rw [hne]
  refine wpAny_bind (wpAny_of_eq (a := "str") rfl ?_)
  show wpAny _ _ (callSpecial? (.str (mkS U) t) (Str.ofString "__format__") [.str sp u] >>= _) _ _ s
  subst hsp
  refine wpAny_bind (wpAny_callSpecial?_slot (name := Str.ofString "__format__") (T := "str") (typeIs_str s _ t) F.slot_str_format
    (call_meets F.slot_str_format (typeIs_str s _ t) F.entry_str_format (F.args_str_format_2 _ _) (format_meets t u hk hw hf hl) fun t' k' => ?_))
  exact wpAny_bind (wpAny_isInstance (T := "str") (b := true) rfl isSubtype_str_str (wpAny_pure ⟨_, rfl, h _ _⟩))
theorem item_lit {x y : Str} {value slice : Expr} {i : Int} (e : Txt.item x i = y) (hr : fitsSsize i = true) (h1 : -(x.length : Int) ≤ i) (h2 : i < x.length)
    (h : Q (.str y s.toks) { s with toks := s.toks + 1 })
    (hs : subscripted slice false (.str x t) (.int i u) = operate [.str x t, .int i u] (getItem (.str x t) (.int i u)) := by with_unfolding_all rfl)
    (ht : ∀ r, letTemporaryGo value (.str x t) r = pure () := by intro _; with_unfolding_all rfl) :
    wpAny (model prog w) A (subscriptTail value slice (.str x t) (.int i u)) Q E s :=
  item_str hr h1 h2 (fun _ => by rw [e]; exact h) hs ht
end
theorem fill_eq {f : Int} (hf : 0 ≤ f ∧ f < 4) : [Str.ofString "'", Str.ofString "\"", Str.ofString "\\", Str.ofString "a"].getD f.toNat Str.empty = mkS [fcOf f] := by
  have : f = 0 ∨ f = 1 ∨ f = 2 ∨ f = 3 := by omega
  rcases this with rfl | rfl | rfl | rfl <;> decide +kernel
theorem digs_len {n : Nat} (hw : n < 100) : (Str.ofString (toString (n : Int))).length ≤ 100 := by
  have hr := of_all okRest_all hw (fc := 39) (al := 60) (.inl rfl) (.inl rfl)
  unfold okRest at hr
  simp only [Bool.and_eq_true, decide_eq_true_eq] at hr
  have := hr.2
  rw [mkS_length, List.length_cons, List.length_cons] at this
  have e : (digs n).length = (Str.ofString (toString (n : Int))).length := by unfold digs; rw [Array.length_toList]; rfl
  omega
theorem spec_eq {f : Int} (hf : 0 ≤ f ∧ f < 4) {k j : Int} (hk : k = 2 ∨ k = 3 ∨ k = 4) (hj : j = k - 2) (n : Nat) :
    ([Str.ofString "'", Str.ofString "\"", Str.ofString "\\", Str.ofString "a"].getD f.toNat Str.empty ++ Txt.item (Str.ofString "<>^") j) ++ Str.ofString (toString (n : Int)) = mkS (fcOf f :: alOf k :: digs n) := by
  have e1 : Txt.item (Str.ofString "<>^") j = mkS [alOf k] := by
    subst hj
    rcases hk with rfl | rfl | rfl <;> decide +kernel
  have e2 : Str.ofString (toString (n : Int)) = mkS (digs n) := mkS_of _
  rw [fill_eq hf, e1, e2, ← mkS_append, ← mkS_append]; rfl
end Mine
end

/-! LB -/
section
namespace Mine
/-- the body and the scope of the text's last def -/
def lastBody : List Stmt → List Stmt
  | [] => []
  | .FunctionDef _ _ b _ _ _ _ _ _ _ :: [] => b
  | _ :: r => lastBody r
def lastScope : List Stmt → Scope
  | [] => { kind := .function, names := [], isGenerator := false, isCoroutine := false }
  | .FunctionDef _ _ _ _ _ _ s _ _ _ :: [] => s
  | _ :: r => lastScope r
def lawBody : List Stmt := lastBody PySem.Challenge.pw_ij0067_01.main.body
def lawScope : Scope := lastScope PySem.Challenge.pw_ij0067_01.main.body
abbrev LawBody (w : World) (Body : List Stmt) (Sc : Scope) : Prop :=
  ∀ (mean : ExcName → Option Value) (mg mb : Str → Option Value) (h₀ : Heap) (fa : Addr) (cd : Value) (L : Addr) (s : Shared) (m0 : Str → Option Value) (sl : Addr) (vs : List Value) (ns : List Int) (oA oB : Obj) (Q : Flow → Shared → Prop) (E : Value → Shared → Prop),
    (hd.heap_39 w.params).In h₀ → Top hd.view_39 (looseW hd.view_39 []) mean mg mb h₀ → Below callerA h₀ [] h₀ → h₀.IsList sl vs.toArray → IntsAre vs ns → ns.length ≤ 63 →
    Fr h₀ L s.heap (fun y => if y = Str.ofString "script" then some (.ref sl) else m0 y) → News h₀ L s.heap [(L + 1 + 1, oA), (L + 1, oB)] → oA.data = .cell none → oB.data = .cell none → @LT.lt Nat _ 0 L →
    PassesOwn (model PySem.Challenge.rw_ij0067_01.row.prog w) (callerA.deeper (envOfC (Str.ofString "law") Sc L fa cd)) (envOfC (Str.ofString "law") Sc L fa cd) E →
    (∀ (h' : Heap) (tk' : Nat) (m' : Str → Option Value), Fr h₀ L h' m' → Q (.ret (.bool true)) { s with heap := h', toks := tk' }) →
    wpAny (model PySem.Challenge.rw_ij0067_01.row.prog w) (callerA.deeper (envOfC (Str.ofString "law") Sc L fa cd)) (execs Body (envOfC (Str.ofString "law") Sc L fa cd)) Q E s
end Mine
end

/-! LC -/
section
namespace Mine
def TBody : List Stmt := match lawBody with
  | _ :: _ :: _ :: _ :: _ :: _ :: .For _ _ b _ _ :: _ => b
  | _ => []
def IfStmt : Stmt := match TBody with
  | _ :: _ :: _ :: _ :: i :: _ => i
  | _ => .Pass ⟨0, 0, 0, 0⟩
abbrev signsObj (s0 s1 s2 s3 : Tok) : Obj := PySem.W.listOf #[Value.str (Str.ofString "'") s0, Value.str (Str.ofString "\"") s1, Value.str (Str.ofString "\\") s2, Value.str (Str.ofString "a") s3] 0
abbrev ifMap (k f wd : Int) (tk tf tw : Tok) (pk : Addr) (m0 : Str → Option Value) : Str → Option Value :=
  fun y => if y = Str.ofString "kind" then some (Value.int k tk) else if y = Str.ofString "fill" then some (Value.int f tf) else if y = Str.ofString "width" then some (Value.int wd tw) else if y = Str.ofString "packer" then some (Value.ref pk) else m0 y
abbrev IfPart (w : World) (I : Stmt) (Sc : Scope) : Prop :=
  ∀ (mean : ExcName → Option Value) (mg mb : Str → Option Value) (h₀ : Heap) (fa : Addr) (cd : Value) (L : Addr) (s : Shared) (m0 : Str → Option Value) (k f wd : Int) (tk tf tw : Tok) (pk dx sg : Addr) (U : List Nat) (tU s0 s1 s2 s3 : Tok) (oT oS : Obj) (own : List (Addr × Obj)) (Q : Flow → Shared → Prop) (E : Value → Shared → Prop),
    (hd.heap_39 w.params).In h₀ → Top hd.view_39 (looseW hd.view_39 []) mean mg mb h₀ → Below callerA h₀ [] h₀ →
    Fr h₀ L s.heap (ifMap k f wd tk tf tw pk m0) →
    News h₀ L s.heap ((L + 1 + 1, oT) :: (pk, instObj 102 dx) :: (dx, dictOf [] 0) :: (sg, signsObj s0 s1 s2 s3) :: (L + 1, oS) :: own) →
    oT.data = .cell (some (.str (mkS U) tU)) → oS.data = .cell (some (.ref sg)) → @Ne Nat pk (L + 1 + 1) → @Ne Nat dx (L + 1 + 1) → @Ne Nat sg (L + 1 + 1) → OwnOff own [L + 1 + 1] →
    Sgn U → U.length ≤ 86 → 1 ≤ U.length → 0 ≤ k ∧ k < 5 → 0 ≤ f ∧ f < 4 → 0 ≤ wd ∧ wd < 100 →
    (∀ (h' : Heap) (tk' : Nat) (oT' : Obj) (t' : Tok), oT'.data = .cell (some (.str (mkS (layer k (fcOf f) wd.toNat U)) t')) → Fr h₀ L h' (ifMap k f wd tk tf tw pk m0) →
      News h₀ L h' ((L + 1 + 1, oT') :: (pk, instObj 102 dx) :: (dx, dictOf [] 0) :: (sg, signsObj s0 s1 s2 s3) :: (L + 1, oS) :: own) → Q .next { s with heap := h', toks := tk' }) →
    wpAny (model PySem.Challenge.rw_ij0067_01.row.prog w) (callerA.deeper (envOfC (Str.ofString "law") Sc L fa cd)) (exec I (envOfC (Str.ofString "law") Sc L fa cd)) Q E s
end Mine
end

/-! TC -/
section
namespace Mine
def kOf (x : Int) : Int := (x.fdiv 4).fmod 5
def fOf (x : Int) : Int := (x.fdiv 20).fmod 4
def eOf (x : Int) : Int := (x.fdiv 80).fmod 5
theorem kOf_b (x : Int) : 0 ≤ kOf x ∧ kOf x < 5 := ⟨Int.fmod_nonneg_of_pos _ (by decide), Int.fmod_lt_of_pos _ (by decide)⟩
theorem fOf_b (x : Int) : 0 ≤ fOf x ∧ fOf x < 4 := ⟨Int.fmod_nonneg_of_pos _ (by decide), Int.fmod_lt_of_pos _ (by decide)⟩
theorem eOf_b (x : Int) : 0 ≤ eOf x ∧ eOf x < 5 := ⟨Int.fmod_nonneg_of_pos _ (by decide), Int.fmod_lt_of_pos _ (by decide)⟩
/-- the text behind the turn for x -/
def stepT (x : Int) (U : List Nat) : List Nat := layer (kOf x) (fcOf (fOf x)) ((U.length : Int) - 1 + eOf x).toNat U
abbrev cntObj (U : List Nat) (q0 q1 q2 q3 : Tok) (n : Nat) : Obj := PySem.W.listOf #[Value.int (U.count 39 : Nat) q0, Value.int (U.count 34 : Nat) q1, Value.int (U.count 92 : Nat) q2, Value.int (U.count 97 : Nat) q3] n
abbrev layObj (x : Int) (U : List Nat) (q0 q1 q2 q3 : Tok) (n : Nat) : Obj := PySem.W.listOf #[Value.int (kOf x) q0, Value.str (mkS [fcOf (fOf x)]) q1, Value.int (U.length : Nat) q2, Value.str (mkS U) q3] n
abbrev turnMap (x : Int) (tx : Tok) (la ca pk : Addr) (m0 : Str → Option Value) : Str → Option Value :=
  fun y => if y = Str.ofString "x" then some (Value.int x tx) else if y = Str.ofString "layers" then some (Value.ref la) else if y = Str.ofString "counts" then some (Value.ref ca) else if y = Str.ofString "packer" then some (Value.ref pk) else m0 y
abbrev Turn (w : World) (I : List Stmt) (Sc : Scope) : Prop :=
  ∀ (mean : ExcName → Option Value) (mg mb : Str → Option Value) (h₀ : Heap) (fa : Addr) (cd : Value) (L : Addr) (s : Shared) (m0 : Str → Option Value) (x : Int) (tx : Tok) (la ca pk dx sg : Addr) (lrefs : List Value) (nL nn : Nat) (U : List Nat) (tU q0 q1 q2 q3 s0 s1 s2 s3 : Tok) (oT oS : Obj) (own : List (Addr × Obj)) (Q : Flow → Shared → Prop) (E : Value → Shared → Prop),
    (hd.heap_39 w.params).In h₀ → Top hd.view_39 (looseW hd.view_39 []) mean mg mb h₀ → Below callerA h₀ [] h₀ →
    Fr h₀ L s.heap (turnMap x tx la ca pk m0) →
    News h₀ L s.heap ((la, PySem.W.listOf lrefs.toArray nL) :: (ca, cntObj U q0 q1 q2 q3 nn) :: (L + 1 + 1, oT) :: (pk, instObj 102 dx) :: (dx, dictOf [] 0) :: (sg, signsObj s0 s1 s2 s3) :: (L + 1, oS) :: own) →
    oT.data = .cell (some (.str (mkS U) tU)) → oS.data = .cell (some (.ref sg)) →
    OwnOff own [la, L + 1 + 1] → ((@Ne Nat la ca) ∧ (@Ne Nat la (L + 1 + 1)) ∧ (@Ne Nat la pk) ∧ (@Ne Nat la dx) ∧ (@Ne Nat la sg) ∧ (@Ne Nat la (L + 1))) → ((@Ne Nat ca (L + 1 + 1)) ∧ (@Ne Nat pk (L + 1 + 1)) ∧ (@Ne Nat dx (L + 1 + 1)) ∧ (@Ne Nat sg (L + 1 + 1))) →
    Sgn U → U.length ≤ 86 → 3 ≤ U.length → lrefs.length ≤ 10 →
    (∀ (h' : Heap) (tk' : Nat) (m' : Str → Option Value) (na ca' : Addr) (nL' nn' nl' : Nat) (tU' r0 r1 r2 r3 z0 z1 z2 z3 : Tok) (oT' : Obj),
      Fr h₀ L h' m' → m' (Str.ofString "layers") = some (.ref la) → m' (Str.ofString "counts") = some (.ref ca') → m' (Str.ofString "packer") = some (.ref pk) →
      oT'.data = .cell (some (.str (mkS (stepT x U)) tU')) →
      ((@Ne Nat la ca') ∧ (@Ne Nat la na) ∧ (@Ne Nat ca' (L + 1 + 1)) ∧ (@Ne Nat na (L + 1 + 1))) → (∀ p ∈ own, @Ne Nat p.1 na) → (∀ p ∈ own, @Ne Nat p.1 ca') →
      News h₀ L h' ((la, PySem.W.listOf (lrefs ++ [Value.ref na]).toArray nL') :: (ca', cntObj (stepT x U) r0 r1 r2 r3 nn') :: (L + 1 + 1, oT') :: (pk, instObj 102 dx) :: (dx, dictOf [] 0) :: (sg, signsObj s0 s1 s2 s3) :: (L + 1, oS) :: (na, layObj x U z0 z1 z2 z3 nl') :: own) →
      Q .next { s with heap := h', toks := tk' }) →
    wpAny (model PySem.Challenge.rw_ij0067_01.row.prog w) (callerA.deeper (envOfC (Str.ofString "law") Sc L fa cd)) (execs I (envOfC (Str.ofString "law") Sc L fa cd)) Q E s
section
variable {prog : Program} {w : World} {A : Around} {E : Value → Shared → Prop} {s : Shared} {t u : Tok} {Q : Value → Shared → Prop} {h₀ : Heap} {L : Addr} {m : Str → Option Value} {news : List (Addr × Obj)}
theorem mod_is {a b c : Int} (hb : b ≠ 0) (e : a.fmod b = c) (h : Q (.int c s.toks) { s with toks := s.toks + 1 }) : wpAny (model prog w) A (binaryOp .Mod (.int a t) (.int b u)) Q E s := mod_int' hb (by rw [e]; exact h)
theorem sum_is {l : Addr} {vs : List Value} {ns : List Int} {n : Int} (e : ns.sum = n) (hh : A.handled = none) (F : Fr h₀ L s.heap m) (N : News h₀ L s.heap news) (hl : s.heap.IsList l vs.toArray) (hi : IntsAre vs ns)
    (h : ∀ h' tk t', Fr h₀ L h' m → News h₀ L h' news → Q (.int n t') { s with heap := h', toks := tk }) :
    wpAny (model prog w) A (call (.builtin "sum") [.ref l]) Q E s := sumK hh F N hl hi (by rw [e]; exact h)
end
theorem ne_eq {prog : Program} {w : World} {A : Around} {E : Value → Shared → Prop} {s : Shared} {t u : Tok} {Q : Value → Shared → Prop} {a b : Int} (e : a = b) (h : Q (.bool false) s) : wpAny (model prog w) A (compareOp .NotEq (.int a t) (.int b u)) Q E s :=
  ne_int (by subst e; simpa using h)
theorem ifMap_eq {k f wd : Int} {tk tf tw : Tok} {pk : Addr} {m : Str → Option Value} (h1 : m (Str.ofString "kind") = some (.int k tk)) (h2 : m (Str.ofString "fill") = some (.int f tf)) (h3 : m (Str.ofString "width") = some (.int wd tw)) (h4 : m (Str.ofString "packer") = some (.ref pk)) :
    ifMap k f wd tk tf tw pk m = m := by
  funext y
  unfold ifMap
  split
  · rename_i e; rw [e, h1]
  · split
    · rename_i e; rw [e, h2]
    · split
      · rename_i e; rw [e, h3]
      · split
        · rename_i e; rw [e, h4]
        · rfl
theorem fr_ifMap {h₀ h : Heap} {L : Addr} {k f wd : Int} {tk tf tw : Tok} {pk : Addr} {m : Str → Option Value} (F : Fr h₀ L h m) (h1 : m (Str.ofString "kind") = some (.int k tk)) (h2 : m (Str.ofString "fill") = some (.int f tf)) (h3 : m (Str.ofString "width") = some (.int wd tw)) (h4 : m (Str.ofString "packer") = some (.ref pk)) :
    Fr h₀ L h (ifMap k f wd tk tf tw pk m) := by rw [ifMap_eq h1 h2 h3 h4]; exact F
theorem off_one {own : List (Addr × Obj)} {d b : Addr} (h : OwnOff own [d, b]) : OwnOff own [b] := fun p hp c hc => h p hp c (List.mem_cons_of_mem _ hc)
theorem news_perm8 {h₀ h : Heap} {L : Addr} {a b c d e f g i : Addr × Obj} {own : List (Addr × Obj)} (N : News h₀ L h (a :: b :: c :: d :: e :: f :: g :: i :: own)) : News h₀ L h (d :: e :: f :: g :: i :: a :: b :: c :: own) := fun p hp => N p (by
  simp only [List.mem_cons] at hp ⊢; grind)
theorem news_sub {h₀ h : Heap} {L : Addr} {l l' : List (Addr × Obj)} (N : News h₀ L h l) (hs : ∀ p ∈ l', p ∈ l) : News h₀ L h l' := fun p hp => N p (hs p hp)
theorem news_perm_ca {h₀ h : Heap} {L : Addr} {t a b c d e f ca : Addr × Obj} {own : List (Addr × Obj)} (N : News h₀ L h (t :: a :: b :: c :: d :: e :: f :: ca :: own)) : News h₀ L h (ca :: t :: a :: b :: c :: d :: e :: f :: own) := fun p hp => N p (by
  simp only [List.mem_cons] at hp ⊢; grind)
theorem news_final {h₀ h : Heap} {L : Addr} {x D ca t a b c d na la : Addr × Obj} {own : List (Addr × Obj)} (N : News h₀ L h (x :: D :: ca :: t :: a :: b :: c :: d :: na :: la :: own)) : News h₀ L h (la :: D :: t :: a :: b :: c :: d :: na :: own) := fun p hp => N p (by
  simp only [List.mem_cons] at hp ⊢; grind)
end Mine
end

/-! IFP -/
section
local macro_rules | `(tactic| walk_at "subscriptTail Constant Name str int") => `(tactic| first | (refine Mine.item_lit (y := Str.ofString "r") (by decide +kernel) (by decide) (by decide) (by decide) ?_) | (refine Mine.item_lit (y := Str.ofString "a") (by decide +kernel) (by decide) (by decide) (by decide) ?_))
local macro_rules | `(tactic| walk_at "subscriptTail Constant BinOp str int") => `(tactic| first | (refine Mine.item_lit (y := Str.ofString "<") (by decide +kernel) (by decide) (by decide) (by decide) ?_) | (refine Mine.item_lit (y := Str.ofString ">") (by decide +kernel) (by decide) (by decide) (by decide) ?_) | (refine Mine.item_lit (y := Str.ofString "^") (by decide +kernel) (by decide) (by decide) (by decide) ?_))
local macro_rules | `(tactic| walk_at "call builtin:repr") => `(tactic| (refine Mine.repr_is (by assumption) (by omega) ?_))
local macro_rules | `(tactic| walk_at "call builtin:ascii") => `(tactic| (refine Mine.ascii_is (by assumption) (by omega) ?_))
local macro_rules | `(tactic| walk_at "call builtin:format") => `(tactic| refine Mine.stop_here ?_)

set_option maxRecDepth 100000 in
set_option maxHeartbeats 8000000 in
theorem Mine.if_part (w : World) : IfPart w IfStmt lawScope := by
  w_top off
  k_with "table" => skip
  unfold IfPart
  k_fill
  intro mean mg mb h₀ fa cd L s m0 k f wd tk tf tw pk dx sg U tU s0 s1 s2 s3 oT oS own Q E KX T B F N dT dS n1 n2 n3 hoff hU hl1 hl2 hk hf hw hret
  have hMk := kstMark
  have hUl : (mkS U).length = U.length := mkS_length U
  conv in IfStmt => whnf
  conv in lawScope => whnf
  unfold ifMap at F
  obtain ⟨n, rfl⟩ := Int.eq_ofNat_of_zero_le hw.1
  have hz1 := digs_len (n := n) (by omega)
  have hz2 : ([Str.ofString "'", Str.ofString "\"", Str.ofString "\\", Str.ofString "a"].getD f.toNat Str.empty).length ≤ 1 := by rw [fill_eq hf]; exact Nat.le_refl _
  have hfs := fcOf_sgn hf
  have hk5 : k = 0 ∨ k = 1 ∨ k = 2 ∨ k = 3 ∨ k = 4 := by omega
  rcases hk5 with rfl | rfl | rfl | rfl | rfl
  · k_steps
    exact hret _ _ _ _ (by assumption) (by assumption) (by assumption)
  · k_steps
    exact hret _ _ _ _ (by assumption) (by assumption) (by assumption)
  · have e2 : layer 2 (fcOf f) ((n : Int)).toNat U = padL 2 (fcOf f) n U := if_neg (by decide)
    rw [e2] at hret
    k_steps
    unfold Stop
    refine format_is (k := 2) (n := n) (fc := fcOf f) (spec_eq hf (by decide) (by decide) n) (by decide) (by omega) hfs (by omega) ?_
    intro t' k'
    k_steps
    exact hret _ _ _ _ (by assumption) (by assumption) (by assumption)
  · have e2 : layer 3 (fcOf f) ((n : Int)).toNat U = padL 3 (fcOf f) n U := if_neg (by decide)
    rw [e2] at hret
    k_steps
    unfold Stop
    refine format_is (k := 3) (n := n) (fc := fcOf f) (spec_eq hf (by decide) (by decide) n) (by decide) (by omega) hfs (by omega) ?_
    intro t' k'
    k_steps
    exact hret _ _ _ _ (by assumption) (by assumption) (by assumption)
  · have e2 : layer 4 (fcOf f) ((n : Int)).toNat U = padL 4 (fcOf f) n U := if_neg (by decide)
    rw [e2] at hret
    k_steps
    unfold Stop
    refine format_is (k := 4) (n := n) (fc := fcOf f) (spec_eq hf (by decide) (by decide) n) (by decide) (by omega) hfs (by omega) ?_
    intro t' k'
    k_steps
    exact hret _ _ _ _ (by assumption) (by assumption) (by assumption)
end

/-! TN -/
section
local macro_rules | `(tactic| walk_at "binaryOp Mod int int") => `(tactic| ((with_reducible refine Mine.mod_is (by decide) (by assumption) ?_); (try dsimp only)))
local macro_rules | `(tactic| walk_at "call builtin:sum") => `(tactic| (k_here; (with_reducible show wpAny _ _ (call (Value.builtin "sum") [Value.ref _]) _ _ _); (with_unfolding_all refine' Mine.sum_is (by assumption) ?k0 ?k1 ?k2 ?k3 ?k4 ?_; (case k0 => with_unfolding_all rfl); (case k1 => k_asm); (case k2 => k_asm); (case k3 => is_list); (case k4 => first | l_ints | l_intsW); k_whole); intro h' tk' t' F' N'; (try dsimp only)))
local macro_rules | `(tactic| walk_at "CompEnd") => `(tactic| ((with_reducible rename Fr _ _ _ _ => F'); (with_reducible rename News _ _ _ _ => N'); (refine LCg.CompEnd.intro F' N' _ (fun _ hp => hp) ?off ?hS ?_); (case off => first | assumption | (simp only [LCg.Off3, and_true]; assumption)); (case hS => (refine Mine.srcAt (n := ?nn) ?hm; case hm => k_mem))))
local macro_rules | `(tactic| walk_at "call builtin:str.count") => `(tactic| with_reducible first | refine Mine.count_39 ?_ | refine Mine.count_34 ?_ | refine Mine.count_92 ?_ | refine Mine.count_97 ?_)
local macro_rules | `(tactic| walk_at "compareOp NotEq int int") => `(tactic| (refine Mine.ne_eq (by first | rfl | omega) ?_))
local macro_rules | `(tactic| walk_at "exec If") => `(tactic| refine Mine.stop_here ?_)
local macro_rules | `(tactic| walk_at "call ref") => `(tactic| refine Mine.stop_here ?_)

local macro_rules | `(tactic| walk_at "execs cons") => `(tactic| first | (k_here; k_gentoks) | ((with_reducible refine wpAny_execs_cons ?_); try dsimp only))
set_option maxRecDepth 100000 in
set_option maxHeartbeats 2000000 in
theorem Mine.turn (w : World) : Turn w TBody lawScope := by
  w_top off
  k_with "table" => skip
  unfold Turn
  k_fill
  intro mean mg mb h₀ fa cd L s m0 x tx la ca pk dx sg lrefs nL nn U tU q0 q1 q2 q3 s0 s1 s2 s3 oT oS own Q E KX T B F N dT dS hoff hne1 hne2 hU hl1 hl2 hlr hret
  have hMk := kstMark
  have hUl : (mkS U).length = U.length := mkS_length U
  have hsum : [((U.count 39 : Nat) : Int), ((U.count 34 : Nat) : Int), ((U.count 92 : Nat) : Int), ((U.count 97 : Nat) : Int)].sum = (U.length : Int) := by
    have := sgn_sum U hU
    simp only [List.sum_cons, List.sum_nil]; omega
  have hk : (x.fdiv 4).fmod 5 = kOf x := rfl
  have hf : (x.fdiv 20).fmod 4 = fOf x := rfl
  have he : (x.fdiv 80).fmod 5 = eOf x := rfl
  have hkb := kOf_b x
  have hfb := fOf_b x
  have heb := eOf_b x
  have b39 : 0 ≤ ((U.count 39 : Nat) : Int) ∧ ((U.count 39 : Nat) : Int) ≤ 1000 := by have := List.count_le_length (a := 39) (l := U); omega
  have b34 : 0 ≤ ((U.count 34 : Nat) : Int) ∧ ((U.count 34 : Nat) : Int) ≤ 1000 := by have := List.count_le_length (a := 34) (l := U); omega
  have b92 : 0 ≤ ((U.count 92 : Nat) : Int) ∧ ((U.count 92 : Nat) : Int) ≤ 1000 := by have := List.count_le_length (a := 92) (l := U); omega
  have b97 : 0 ≤ ((U.count 97 : Nat) : Int) ∧ ((U.count 97 : Nat) : Int) ≤ 1000 := by have := List.count_le_length (a := 97) (l := U); omega
  conv in TBody => whnf
  conv in lawScope => whnf
  unfold turnMap at F
  k_steps
  unfold Stop
  (with_reducible rename Fr _ _ _ _ => F1)
  (with_reducible rename News _ _ _ _ => N1)
  dsimp only at F1
  (with_reducible rename _ ∧ _ ∧ _ ∧ _ ∧ _ ∧ _ ∧ _ ∧ AllLt _ own => l1)
  have F2 := Mine.fr_ifMap F1 rfl rfl rfl rfl
  clear F1
  rw [fill_eq hfb] at N1
  have hoff2 : OwnOff own [L + 1 + 1] := off_one hoff
  k_dflt refine' if_part w mean mg mb h₀ fa cd L _ _ (kOf x) (fOf x) ((U.length : Int) - 1 + eOf x) _ _ _ pk dx sg U tU s0 s1 s2 s3 oT oS ((_, _) :: (la, _) :: (ca, _) :: own) _ _ KX T B F2 (news_perm8 N1) dT dS hne2.2.1 hne2.2.2.1 hne2.2.2.2 ?hoff hU hl1 (by omega) hkb hfb (by omega) ?_
  case hoff =>
    intro p hp b hb
    simp only [List.mem_cons, List.not_mem_nil, or_false] at hp hb
    subst hb
    rcases hp with rfl | rfl | rfl | hp
    · exact Nat.ne_of_gt l1.2.2.1
    · exact hne1.2.1
    · exact hne2.1
    · exact hoff2 p hp _ (List.mem_cons_self ..)
  intro h2 tk2 oT2 t2 dT2 F3 N3
  dsimp only
  clear F2 N1
  have hwd : ((U.length : Int) - 1 + eOf x) = (((U.length : Int) - 1 + eOf x).toNat : Int) := by omega
  have hCN : CN (U.count 39 : Nat) (U.count 34 : Nat) (U.count 92 : Nat) (U.count 97 : Nat) (kOf x) (fOf x) ((U.length : Int) - 1 + eOf x) ((stepT x U).count 39 : Nat) ((stepT x U).count 34 : Nat) ((stepT x U).count 92 : Nat) ((stepT x U).count 97 : Nat) := by
    have := layer_CN hkb hfb (((U.length : Int) - 1 + eOf x).toNat) hU
    rw [← hwd] at this
    exact this
  have dT3 : oT2.data = .cell (some (.str (mkS (stepT x U)) t2)) := dT2
  have hsT : Sgn (stepT x U) := layer_sgn hfb _ hU
  have hlT : (stepT x U).length ≤ 200 := by
    have := layer_len (k := kOf x) (fcOf (fOf x)) (((U.length : Int) - 1 + eOf x).toNat) U (by omega) (by omega)
    exact Nat.le_trans this (by omega)
  clear dT2 dT
  generalize stepT x U = T' at *
  have hTl : (mkS T').length = T'.length := mkS_length T'
  have hsum2 : [((T'.count 39 : Nat) : Int), ((T'.count 34 : Nat) : Int), ((T'.count 92 : Nat) : Int), ((T'.count 97 : Nat) : Int)].sum = ((mkS T').length : Int) := by
    have := sgn_sum T' hsT
    simp only [List.sum_cons, List.sum_nil]; omega
  k_steps
  unfold Stop
  k_dflt refine' counts_claim w mean mg mb _ _ _ _ (kOf x) (fOf x) ((U.length : Int) - 1 + eOf x) _ _ _ _ q0 q1 q2 q3 _ _ _ ca nn _ b39 b34 b92 b97 (by omega) hfb hkb hCN _ _ _ _ _ _ _ _ _ _ _ _ _ _ _ _ _ ?k1 ?k2 ?k3 ?k4 ?k5 ?k6 ?k7 ?k8 ?k9
  case k1 => k_asm
  case k2 => exact F3
  case k3 => k_asm
  case k4 => exact news_perm_ca N3
  case k5 => k_asm
  case k6 => rfl
  case k7 => ktr_room
  case k8 => ktr_units
  case k9 =>
    rintro r h5 tk5 news5 ⟨D, r0, r1, r2, r3, n5, rfl, rfl, hD⟩ F5 N5
    clear F3 N3
    simp only [List.cons_append, List.nil_append] at N5
    dsimp only
    k_steps
    unfold Stop
    refine wpAny_If ?_
    k_steps
    (with_reducible rename Fr _ _ _ _ => F8)
    (with_reducible rename News _ _ _ _ => N8)
    rw [List.push_toArray] at N8
    refine hret _ _ _ _ D _ _ _ _ _ _ _ _ _ _ _ _ oT2 F8 rfl rfl rfl dT3 ⟨?_, ?_, ?_, ?_⟩ ?_ ?_ (news_final N8)
    · exact hD _ (List.mem_cons_of_mem _ (List.mem_cons_of_mem _ (List.mem_cons_of_mem _ (List.mem_cons_of_mem _ (List.mem_cons_of_mem _ (List.mem_cons_of_mem _ (List.mem_cons_of_mem _ (List.mem_cons_self ..))))))))
    · exact Nat.ne_of_lt l1.1
    · exact Ne.symm (hD _ (List.mem_cons_of_mem _ (List.mem_cons_self ..)))
    · exact Nat.ne_of_gt l1.2.2.1
    · exact lt_mem l1.2.2.2.2.2.2.2
    · exact fun p hp => hD p (List.mem_cons_of_mem _ (List.mem_cons_of_mem _ (List.mem_cons_of_mem _ (List.mem_cons_of_mem _ (List.mem_cons_of_mem _ (List.mem_cons_of_mem _ (List.mem_cons_of_mem _ (List.mem_cons_of_mem _ hp))))))))
end

/-! LL -/
section
namespace Mine
section
variable {prog : Program} {w : World} {A : Around} {E : Value → Shared → Prop} {s : Shared} {env : Env} {h₀ : Heap} {x : Str} {body : List Stmt} {Q : Flow → Shared → Prop}
/-- what a turn must leave -/
def LEnd (h₀ : Heap) (L : Addr) (J : (Str → Option Value) → List (Addr × Obj) → Prop) (I : Addr) (it : Obj) (s₁ : Shared) (f : Flow) (s₂ : Shared) : Prop :=
  f = .next ∧ ∃ h' tk m' nx, s₂ = { s₁ with heap := h', toks := tk } ∧ Fr h₀ L h' m' ∧ News h₀ L h' (nx ++ [(I, it)]) ∧ (∀ p ∈ nx, @Ne Nat p.1 I) ∧ J m' nx
theorem loop_list {ax : Addr} {vs : List Value} {ns : List Int} {nn : Nat} {m₀ : Str → Option Value} {news : List (Addr × Obj)} (J : Nat → (Str → Option Value) → List (Addr × Obj) → Prop)
    (hh : A.handled = none) (hm : (ax, PySem.W.listOf vs.toArray nn) ∈ news) (hi : IntsAre vs ns) (F : Fr h₀ env.locals s.heap m₀) (N : News h₀ env.locals s.heap news) (hj : J 0 m₀ news)
    (hJm : ∀ i m nx, J i m nx → (ax, PySem.W.listOf vs.toArray nn) ∈ nx)
    (turn : ∀ i n t m₁ news₁ h tk I it, ns[i]? = some n → J i m₁ news₁ → (∀ p ∈ news₁, @Ne Nat p.1 I) → Fr h₀ env.locals h (fun y => if y = x then some (.int n t) else m₁ y) → News h₀ env.locals h (news₁ ++ [(I, it)]) →
      wpAny (model prog w) A (execs body env) (LEnd h₀ env.locals (J (i + 1)) I it { s with heap := h, toks := tk }) E { s with heap := h, toks := tk })
    (done : ∀ m₁ news₁ h tk, J ns.length m₁ news₁ → Fr h₀ env.locals h m₁ → News h₀ env.locals h news₁ → Q .next { s with heap := h, toks := tk }) :
    wpAny (model prog w) A (pyIter (.ref ax)) (fun it s₂ => LoopAtV prog w A h₀ env x body Q E it s₂) E s := by
  have hax := N _ hm
  have hl : s.heap.IsList ax vs.toArray := ⟨_, hax.1, rfl, nn, rfl⟩
  have hlt : ax < s.heap.objs.size := Heap.lt_size hax.1
  have hne : ax ≠ s.heap.objs.size := Nat.ne_of_lt hlt
  refine wpAny_pyIter_list hl ?_
  have W := Walks.list (prog := prog) (w := w) hh s.heap.objs.size ax hne vs.toArray
  have hnew := next_is_new F
  have hlen : vs.toArray.size = ns.length := by simp [hi.length]
  rw [hlen] at W
  refine ⟨_, _, _, ns.length, _, _, m₀, news, J, rfl, W, ?_, ?_, ?_, ⟨⟨_, Heap.get?_push_size _ rfl, rfl, rfl⟩, hl.at fun o e => Heap.get?_push_of_some _ e⟩, F.push _, (fun p hp => ⟨Heap.get?_push_of_some _ (N p hp).1, (N p hp).2⟩), hj, ?_, ?_⟩
  · intro hmm
    rcases List.mem_cons.mp hmm with e | hmm
    · exact absurd F.ns.lt (e ▸ Nat.lt_irrefl _)
    · exact hax.2.1 (List.mem_singleton.mp hmm).symm
  · intro b hb
    rw [List.mem_singleton.mp hb]
    exact hnew
  · intro p hp hI
    exact absurd (Heap.lt_size (N p hp).1) ((List.mem_singleton.mp hI) ▸ Nat.lt_irrefl _)
  · rintro i v m₁ news₁ s₁ own ⟨hh', tk', rfl⟩ hin hP hJ hoff hown hget hall hst F₁ N₁
    obtain ⟨it, hit, hic, hid⟩ := hst.1
    have hmem₁ := hJm i m₁ news₁ hJ
    have hmemI := hall s.heap.objs.size (List.mem_cons_self ..) hnew _ hit
    have hlt' : i < ns.length := hin
    obtain ⟨t, hx⟩ := hi.get i ns[i] (by simp [hlt'])
    have hv : v = .int ns[i] t := by
      have hP' : vs[i]? = some v := by simpa using hP
      rw [hx] at hP'; exact (Option.some.inj hP').symm
    subst hv
    have N₂ : News h₀ env.locals hh' (news₁ ++ [(s.heap.objs.size, it)]) := fun p hp => by
      rcases List.mem_append.mp hp with hp | hp
      · exact N₁ _ (List.mem_append_right _ hp)
      · rw [List.mem_singleton.mp hp]; exact N₁ _ (List.mem_append_left _ hmemI)
    refine wpAny_mono (turn i ns[i] t m₁ news₁ hh' tk' s.heap.objs.size it (by simp [hlt']) hJ (fun p hp e => hoff p hp (List.mem_singleton.mpr e)) F₁ N₂) (fun f s₂ p => ?_) fun _ _ e => e
    obtain ⟨rfl, h', tk, m', nx, e, F', N', ho, hj'⟩ := p
    refine .next ⟨rfl, h', tk, m', nx, e, F', fun p hp => ?_, fun p hp hI => ho p hp (List.mem_singleton.mp hI), hj'⟩
    rcases List.mem_append.mp hp with hp | hp
    · have h2 : hh'.get? p.1 = some p.2 := hget p hp
      rcases List.mem_cons.mp (hown p hp) with h1 | h1
      · have h3 : p = (s.heap.objs.size, it) := by
          rw [h1, hit] at h2
          exact Prod.ext h1 (Option.some.inj h2).symm
        rw [h3]; exact N' _ (List.mem_append_right _ (List.mem_singleton.mpr rfl))
      · have h1' : p.1 = ax := List.mem_singleton.mp h1
        have h3 : p = (ax, PySem.W.listOf vs.toArray nn) := by
          rw [h1', (N₁ _ (List.mem_append_right _ hmem₁)).1] at h2
          exact Prod.ext h1' (Option.some.inj h2).symm
        rw [h3]; exact N' _ (List.mem_append_left _ (hJm _ _ _ hj'))
    · exact N' _ (List.mem_append_left _ hp)
  · intro h' tk m' news' F' N' _ hJ
    exact done m' news' h' tk hJ F' N'
end
end Mine
end

/-! LO -/
section
namespace Mine
abbrev Lay := Addr × Int × List Nat
def RCh : List Lay → List Nat → Prop
  | [], _ => True
  | l :: r, U => U = stepT l.2.1 l.2.2 ∧ RCh r l.2.2
def refsOf (rl : List Lay) : List Value := rl.reverse.map fun l => Value.ref l.1
theorem refsOf_cons (l : Lay) (rl : List Lay) : refsOf (l :: rl) = refsOf rl ++ [Value.ref l.1] := by simp [refsOf]
theorem refsOf_len (rl : List Lay) : (refsOf rl).length = rl.length := by simp [refsOf]
def J1 (L la pk dx sg ax : Addr) (s0 s1 s2 s3 : Tok) (oS lo : Obj) (i : Nat) (m : Str → Option Value) (nx : List (Addr × Obj)) : Prop :=
  ∃ (U : List Nat) (rl : List Lay) (ca : Addr) (q0 q1 q2 q3 tU : Tok) (nn nL : Nat) (oT : Obj) (tl : List (Addr × Obj)),
    nx = (la, PySem.W.listOf (refsOf rl).toArray nL) :: (ca, cntObj U q0 q1 q2 q3 nn) :: (L + 1 + 1, oT) :: (pk, instObj 102 dx) :: (dx, dictOf [] 0) :: (sg, signsObj s0 s1 s2 s3) :: (L + 1, oS) :: tl ∧
    oT.data = .cell (some (.str (mkS U) tU)) ∧ RCh rl U ∧ rl.length = i ∧
    (∀ l ∈ rl, (∃ z0 z1 z2 z3 n, (l.1, layObj l.2.1 l.2.2 z0 z1 z2 z3 n) ∈ tl) ∧ Sgn l.2.2 ∧ l.2.2.length ≤ 200 ∧ @Ne Nat l.1 (L + 1 + 1)) ∧
    (ax, lo) ∈ tl ∧ OwnOff tl [la, L + 1 + 1] ∧ (@Ne Nat la ca) ∧ (@Ne Nat ca (L + 1 + 1)) ∧ Sgn U ∧ 3 ≤ U.length ∧ U.length + 2 ≤ 11 * 2 ^ i ∧
    m (Str.ofString "layers") = some (.ref la) ∧ m (Str.ofString "counts") = some (.ref ca) ∧ m (Str.ofString "packer") = some (.ref pk)
theorem turnMap_eq {x : Int} {tx : Tok} {la ca pk : Addr} {m : Str → Option Value} (h1 : m (Str.ofString "layers") = some (.ref la)) (h2 : m (Str.ofString "counts") = some (.ref ca)) (h3 : m (Str.ofString "packer") = some (.ref pk)) :
    (fun y => if y = Str.ofString "x" then some (Value.int x tx) else m y) = turnMap x tx la ca pk m := by
  funext y
  unfold turnMap
  by_cases h : y = Str.ofString "x"
  · rw [if_pos h, if_pos h]
  · rw [if_neg h, if_neg h]
    split
    · rename_i e; rw [e, h1]
    · split
      · rename_i e; rw [e, h2]
      · split
        · rename_i e; rw [e, h3]
        · rfl
theorem stepT_sgn (x : Int) {U : List Nat} (hU : Sgn U) : Sgn (stepT x U) := layer_sgn (fOf_b x) _ hU
theorem stepT_ge (x : Int) (U : List Nat) : U.length ≤ (stepT x U).length := layer_ge _ _ _
theorem stepT_le (x : Int) (U : List Nat) (h : 3 ≤ U.length) : (stepT x U).length ≤ 2 * U.length + 2 := by
  have := eOf_b x
  exact layer_len _ _ _ (by omega) (by omega)
abbrev PRG : Program := PySem.Challenge.rw_ij0067_01.row.prog
theorem loop1 (w : World) (mean : ExcName → Option Value) (mg mb : Str → Option Value) (h₀ : Heap) (fa : Addr) (cd : Value) (L : Addr) (s : Shared) (la pk dx sg ax : Addr) (s0 s1 s2 s3 : Tok) (oS : Obj) (vs : List Value) (xs : List Int) (nX : Nat) (m₀ : Str → Option Value) (news : List (Addr × Obj)) (Q : Flow → Shared → Prop) (E : Value → Shared → Prop)
    (KX : (hd.heap_39 w.params).In h₀) (T : Top hd.view_39 (looseW hd.view_39 []) mean mg mb h₀) (B : Below callerA h₀ [] h₀)
    (F : Fr h₀ L s.heap m₀) (N : News h₀ L s.heap news) (hj : J1 L la pk dx sg ax s0 s1 s2 s3 oS (PySem.W.listOf vs.toArray nX) 0 m₀ news) (hi : IntsAre vs xs) (hx : xs.length ≤ 4)
    (dS : oS.data = .cell (some (.ref sg)))
    (hne1 : (@Ne Nat la (L + 1 + 1)) ∧ (@Ne Nat la pk) ∧ (@Ne Nat la dx) ∧ (@Ne Nat la sg) ∧ (@Ne Nat la (L + 1))) (hne2 : (@Ne Nat pk (L + 1 + 1)) ∧ (@Ne Nat dx (L + 1 + 1)) ∧ (@Ne Nat sg (L + 1 + 1)))
    (done : ∀ m₁ nx h tk, J1 L la pk dx sg ax s0 s1 s2 s3 oS (PySem.W.listOf vs.toArray nX) xs.length m₁ nx → Fr h₀ L h m₁ → News h₀ L h nx → Q .next { s with heap := h, toks := tk }) :
    wpAny (model PRG w) (callerA.deeper (envOfC (Str.ofString "law") lawScope L fa cd)) (pyIter (.ref ax))
      (fun it s₂ => LoopAtV PRG w (callerA.deeper (envOfC (Str.ofString "law") lawScope L fa cd)) h₀ (envOfC (Str.ofString "law") lawScope L fa cd) (Str.ofString "x") TBody Q E it s₂) E s := by
  have hm : (ax, PySem.W.listOf vs.toArray nX) ∈ news := by
    obtain ⟨U, rl, ca, q0, q1, q2, q3, tU, nn, nL, oT, tl, rfl, h⟩ := hj
    simp only [List.mem_cons]
    exact .inr (.inr (.inr (.inr (.inr (.inr (.inr h.2.2.2.2.1))))))
  refine loop_list (J1 L la pk dx sg ax s0 s1 s2 s3 oS (PySem.W.listOf vs.toArray nX)) rfl hm hi F N hj ?_ ?_ done
  · rintro i m nx ⟨U, rl, ca, q0, q1, q2, q3, tU, nn, nL, oT, tl, rfl, h⟩
    simp only [List.mem_cons]
    exact .inr (.inr (.inr (.inr (.inr (.inr (.inr h.2.2.2.2.1))))))
  · rintro i n t m₁ nx h tk I it hn ⟨U, rl, ca, q0, q1, q2, q3, tU, nn, nL, oT, tl, rfl, dT, hch, hrl, hlay, hax, hoff, hlc, hct, hU, h3, hlen, hm1, hm2, hm3⟩ hnI F₁ N₁
    have hi4 : i < 4 := by
      obtain ⟨hlt, _⟩ := List.getElem?_eq_some_iff.mp hn
      omega
    have hU86 : U.length ≤ 86 := by
      have : i = 0 ∨ i = 1 ∨ i = 2 ∨ i = 3 := by omega
      rcases this with rfl | rfl | rfl | rfl <;> omega
    have F₂ : Fr h₀ L h (turnMap n t la ca pk m₁) := by
      rw [← turnMap_eq hm1 hm2 hm3]; exact F₁
    have hI1 : @Ne Nat la I := hnI _ (List.mem_cons_self ..)
    have hI2 : @Ne Nat (L + 1 + 1) I := hnI _ (List.mem_cons_of_mem _ (List.mem_cons_of_mem _ (List.mem_cons_self ..)))
    have hoffI : OwnOff (tl ++ [(I, it)]) [la, L + 1 + 1] := by
      intro p hp b hb
      rcases List.mem_append.mp hp with hp | hp
      · exact hoff p hp b hb
      · rw [List.mem_singleton.mp hp]
        rcases List.mem_cons.mp hb with rfl | hb
        · exact Ne.symm hI1
        · rw [List.mem_singleton.mp hb]; exact Ne.symm hI2
    refine turn w mean mg mb h₀ fa cd L { s with heap := h, toks := tk } m₁ n t la ca pk dx sg (refsOf rl) nL nn U tU q0 q1 q2 q3 s0 s1 s2 s3 oT oS (tl ++ [(I, it)]) _ E KX T B F₂ N₁ dT dS hoffI ⟨hlc, hne1.1, hne1.2.1, hne1.2.2.1, hne1.2.2.2.1, hne1.2.2.2.2⟩ ⟨hct, hne2.1, hne2.2.1, hne2.2.2⟩ hU hU86 h3 (by rw [refsOf_len]; omega) ?_
    intro h' tk' m' na ca' nL' nn' nl' tU' r0 r1 r2 r3 z0 z1 z2 z3 oT' F' e1 e2 e3 dT' hf hna hca N'
    refine ⟨rfl, h', tk', m', (la, PySem.W.listOf (refsOf rl ++ [Value.ref na]).toArray nL') :: (ca', cntObj (stepT n U) r0 r1 r2 r3 nn') :: (L + 1 + 1, oT') :: (pk, instObj 102 dx) :: (dx, dictOf [] 0) :: (sg, signsObj s0 s1 s2 s3) :: (L + 1, oS) :: (na, layObj n U z0 z1 z2 z3 nl') :: tl, rfl, F', N', ?_, ?_⟩
    · have memI : (I, it) ∈ tl ++ [(I, it)] := List.mem_append_right _ (List.mem_singleton.mpr rfl)
      intro p hp
      simp only [List.mem_cons] at hp
      rcases hp with rfl | rfl | rfl | rfl | rfl | rfl | rfl | rfl | hp
      · exact hI1
      · exact Ne.symm (hca _ memI)
      · exact hI2
      · exact hnI (pk, _) (by simp)
      · exact hnI (dx, _) (by simp)
      · exact hnI (sg, _) (by simp)
      · exact hnI (L + 1, _) (by simp)
      · exact Ne.symm (hna _ memI)
      · exact hnI p (by simp only [List.mem_cons]; exact .inr (.inr (.inr (.inr (.inr (.inr (.inr hp)))))))
    · refine ⟨stepT n U, (na, n, U) :: rl, ca', r0, r1, r2, r3, tU', nn', nL', oT', (na, layObj n U z0 z1 z2 z3 nl') :: tl, ?_, dT', ⟨rfl, hch⟩, by rw [List.length_cons, hrl], ?_, List.mem_cons_of_mem _ hax, ?_, hf.1, hf.2.2.1, stepT_sgn n hU, ?_, ?_, e1, e2, e3⟩
      · rw [refsOf_cons]
      · intro l hl
        rcases List.mem_cons.mp hl with rfl | hl
        · exact ⟨⟨z0, z1, z2, z3, nl', List.mem_cons_self ..⟩, hU, by show U.length ≤ 200; omega, hf.2.2.2⟩
        · obtain ⟨⟨y0, y1, y2, y3, ny, hy⟩, hrest⟩ := hlay l hl
          exact ⟨⟨y0, y1, y2, y3, ny, List.mem_cons_of_mem _ hy⟩, hrest⟩
      · intro p hp b hb
        rcases List.mem_cons.mp hp with rfl | hp
        · rcases List.mem_cons.mp hb with rfl | hb
          · exact Ne.symm hf.2.1
          · rw [List.mem_singleton.mp hb]; exact hf.2.2.2
        · exact hoff p hp b hb
      · have := stepT_ge n U; omega
      · have := stepT_le n U h3
        rw [Nat.pow_succ]; omega
end Mine
end

/-! L2 -/
section
namespace Mine
theorem ne_same {prog : Program} {w : World} {A : Around} {E : Value → Shared → Prop} {s : Shared} {t u : Tok} {Q : Value → Shared → Prop} {x : Str} (h : Q (.bool false) s) : wpAny (model prog w) A (compareOp .NotEq (.str x t) (.str x u)) Q E s :=
  ne_str (by have : (x != x) = false := by simp
             rw [this]; exact h)
def Rest2 : List Stmt := match lawBody with
  | _ :: _ :: _ :: _ :: _ :: _ :: _ :: r => r
  | _ => []
end Mine
local macro_rules | `(tactic| walk_at "exec For") => `(tactic| refine Mine.stop_here ?_)
local macro_rules | `(tactic| walk_at "compareOp NotEq str str") => `(tactic| (refine Mine.ne_same ?_))
local macro_rules | `(tactic| walk_at "call ref") => `(tactic| refine Mine.stop_here ?_)

set_option maxRecDepth 100000 in
set_option maxHeartbeats 4000000 in
theorem Mine.loop2_3 (w : World) (Sc : Scope) (hSc : Sc = lawScope) (mean : ExcName → Option Value) (mg mb : Str → Option Value) (h₀ : Heap) (fa : Addr) (cd : Value) (L : Addr) (s : Shared) (m0 : Str → Option Value) (la a0 a1 a2 : Addr) (x0 x1 x2 : Int) (U0 U1 U2 : List Nat) (tU p0 p1 p2 p3 q0 q1 q2 q3 r0 r1 r2 r3 : Tok) (oT : Obj) (nL n0 n1 n2 : Nat) (Q : Flow → Shared → Prop) (E : Value → Shared → Prop)
    (KX : (hd.heap_39 w.params).In h₀) (T : Top hd.view_39 (looseW hd.view_39 []) mean mg mb h₀) (B : Below callerA h₀ [] h₀)
    (F : Fr h₀ L s.heap (fun y => if y = Str.ofString "layers" then some (Value.ref la) else m0 y))
    (N : News h₀ L s.heap [(la, PySem.W.listOf #[Value.ref a0, Value.ref a1, Value.ref a2] nL), (L + 1 + 1, oT), (a0, layObj x0 U0 p0 p1 p2 p3 n0), (a1, layObj x1 U1 q0 q1 q2 q3 n1), (a2, layObj x2 U2 r0 r1 r2 r3 n2)])
    (dT : oT.data = .cell (some (.str (mkS (stepT x2 U2)) tU))) (e1 : U1 = stepT x0 U0) (e2 : U2 = stepT x1 U1)
    (hne : (@Ne Nat la (L + 1 + 1)) ∧ (@Ne Nat a0 (L + 1 + 1)) ∧ (@Ne Nat a1 (L + 1 + 1)) ∧ (@Ne Nat a2 (L + 1 + 1)))
    (hU0 : Sgn U0) (hU1 : Sgn U1) (hU2 : Sgn U2) (hl : U0.length ≤ 200 ∧ U1.length ≤ 200 ∧ U2.length ≤ 200 ∧ (stepT x2 U2).length ≤ 200)
    (hE : PassesOwn (model PySem.Challenge.rw_ij0067_01.row.prog w) (callerA.deeper (envOfC (Str.ofString "law") Sc L fa cd)) (envOfC (Str.ofString "law") Sc L fa cd) E)
    (hret : ∀ (h' : Heap) (tk' : Nat) (m' : Str → Option Value), Fr h₀ L h' m' → Q (.ret (.bool true)) { s with heap := h', toks := tk' }) :
    wpAny (model PySem.Challenge.rw_ij0067_01.row.prog w) (callerA.deeper (envOfC (Str.ofString "law") Sc L fa cd)) (execs Rest2 (envOfC (Str.ofString "law") Sc L fa cd)) Q E s := by
  w_top off
  revert KX
  k_fill
  intro KX
  subst hSc
  conv in Rest2 => whnf
  have hsc : lawScope = lawScope := rfl
  conv at hsc => rhs; whnf
  rw [hsc] at hE ⊢
  have hMk := kstMark
  k_steps
  unfold Stop
  (with_unfolding_all refine' For_turns (by assumption) ?_ (hE := hE))
  k_steps
  unfold Stop
  k_dflt refine' Mine.off_claim w mean mg mb (kOf x2) _ (fcOf (fOf x2)) U2 (stepT x2 U2) _ _ _ _ _ (layerIs_layer (kOf_b x2) _ _ U2) hU2 rfl (by omega) (by omega) _ _ _ _ _ _ _ _ _ _ _ _ _ _ _ _ _ ?k1 ?k2 ?k3 ?k4 ?k5 ?k6 ?k7 ?k8 ?k9
  case k1 => k_asm
  case k2 => k_asm
  case k3 => k_asm
  case k4 => k_asm
  case k5 => k_asm
  case k6 => rfl
  case k7 => ktr_room
  case k8 => ktr_units
  case k9 =>
    rintro r h5 tk5 news5 ⟨rfl, t5, rfl⟩ F5 N5
    simp only [List.nil_append] at N5
    dsimp only
    k_steps
    unfold Stop
    k_dflt refine' Mine.off_claim w mean mg mb (kOf x1) _ (fcOf (fOf x1)) U1 U2 _ _ _ _ _ (by rw [e2]; exact layerIs_layer (kOf_b x1) _ _ U1) hU1 rfl (by omega) (by omega) _ _ _ _ _ _ _ _ _ _ _ _ _ _ _ _ _ ?k1 ?k2 ?k3 ?k4 ?k5 ?k6 ?k7 ?k8 ?k9
    case k1 => k_asm
    case k2 => k_asm
    case k3 => k_asm
    case k4 => k_asm
    case k5 => k_asm
    case k6 => rfl
    case k7 => ktr_room
    case k8 => ktr_units
    case k9 =>
      rintro r h5 tk5 news5 ⟨rfl, t5, rfl⟩ F5 N5
      simp only [List.nil_append] at N5
      dsimp only
      k_steps
      unfold Stop
      k_dflt refine' Mine.off_claim w mean mg mb (kOf x0) _ (fcOf (fOf x0)) U0 U1 _ _ _ _ _ (by rw [e1]; exact layerIs_layer (kOf_b x0) _ _ U0) hU0 rfl (by omega) (by omega) _ _ _ _ _ _ _ _ _ _ _ _ _ _ _ _ _ ?k1 ?k2 ?k3 ?k4 ?k5 ?k6 ?k7 ?k8 ?k9
      case k1 => k_asm
      case k2 => k_asm
      case k3 => k_asm
      case k4 => k_asm
      case k5 => k_asm
      case k6 => rfl
      case k7 => ktr_room
      case k8 => ktr_units
      case k9 =>
        rintro r h5 tk5 news5 ⟨rfl, t5, rfl⟩ F5 N5
        simp only [List.nil_append] at N5
        dsimp only
        k_steps
        exact hret _ _ _ (by assumption)

set_option maxRecDepth 100000 in
set_option maxHeartbeats 4000000 in
theorem Mine.loop2_4 (w : World) (Sc : Scope) (hSc : Sc = lawScope) (mean : ExcName → Option Value) (mg mb : Str → Option Value) (h₀ : Heap) (fa : Addr) (cd : Value) (L : Addr) (s : Shared) (m0 : Str → Option Value) (la a0 a1 a2 a3 : Addr) (x0 x1 x2 x3 : Int) (U0 U1 U2 U3 : List Nat) (tU p0 p1 p2 p3 q0 q1 q2 q3 r0 r1 r2 r3 v0 v1 v2 v3 : Tok) (oT : Obj) (nL n0 n1 n2 n3 : Nat) (Q : Flow → Shared → Prop) (E : Value → Shared → Prop)
    (KX : (hd.heap_39 w.params).In h₀) (T : Top hd.view_39 (looseW hd.view_39 []) mean mg mb h₀) (B : Below callerA h₀ [] h₀)
    (F : Fr h₀ L s.heap (fun y => if y = Str.ofString "layers" then some (Value.ref la) else m0 y))
    (N : News h₀ L s.heap [(la, PySem.W.listOf #[Value.ref a0, Value.ref a1, Value.ref a2, Value.ref a3] nL), (L + 1 + 1, oT), (a0, layObj x0 U0 p0 p1 p2 p3 n0), (a1, layObj x1 U1 q0 q1 q2 q3 n1), (a2, layObj x2 U2 r0 r1 r2 r3 n2), (a3, layObj x3 U3 v0 v1 v2 v3 n3)])
    (dT : oT.data = .cell (some (.str (mkS (stepT x3 U3)) tU))) (e1 : U1 = stepT x0 U0) (e2 : U2 = stepT x1 U1) (e3 : U3 = stepT x2 U2)
    (hne : (@Ne Nat la (L + 1 + 1)) ∧ (@Ne Nat a0 (L + 1 + 1)) ∧ (@Ne Nat a1 (L + 1 + 1)) ∧ (@Ne Nat a2 (L + 1 + 1)) ∧ (@Ne Nat a3 (L + 1 + 1)))
    (hU0 : Sgn U0) (hU1 : Sgn U1) (hU2 : Sgn U2) (hU3 : Sgn U3) (hl : U0.length ≤ 200 ∧ U1.length ≤ 200 ∧ U2.length ≤ 200 ∧ U3.length ≤ 200 ∧ (stepT x3 U3).length ≤ 200)
    (hE : PassesOwn (model PySem.Challenge.rw_ij0067_01.row.prog w) (callerA.deeper (envOfC (Str.ofString "law") Sc L fa cd)) (envOfC (Str.ofString "law") Sc L fa cd) E)
    (hret : ∀ (h' : Heap) (tk' : Nat) (m' : Str → Option Value), Fr h₀ L h' m' → Q (.ret (.bool true)) { s with heap := h', toks := tk' }) :
    wpAny (model PySem.Challenge.rw_ij0067_01.row.prog w) (callerA.deeper (envOfC (Str.ofString "law") Sc L fa cd)) (execs Rest2 (envOfC (Str.ofString "law") Sc L fa cd)) Q E s := by
  w_top off
  revert KX
  k_fill
  intro KX
  subst hSc
  conv in Rest2 => whnf
  have hsc : lawScope = lawScope := rfl
  conv at hsc => rhs; whnf
  rw [hsc] at hE ⊢
  have hMk := kstMark
  k_steps
  unfold Stop
  (with_unfolding_all refine' For_turns (by assumption) ?_ (hE := hE))
  k_steps
  unfold Stop
  k_dflt refine' Mine.off_claim w mean mg mb (kOf x3) _ (fcOf (fOf x3)) U3 (stepT x3 U3) _ _ _ _ _ (layerIs_layer (kOf_b x3) _ _ U3) hU3 rfl (by omega) (by omega) _ _ _ _ _ _ _ _ _ _ _ _ _ _ _ _ _ ?k1 ?k2 ?k3 ?k4 ?k5 ?k6 ?k7 ?k8 ?k9
  case k1 => k_asm
  case k2 => k_asm
  case k3 => k_asm
  case k4 => k_asm
  case k5 => k_asm
  case k6 => rfl
  case k7 => ktr_room
  case k8 => ktr_units
  case k9 =>
    rintro r h5 tk5 news5 ⟨rfl, t5, rfl⟩ F5 N5
    simp only [List.nil_append] at N5
    dsimp only
    k_steps
    unfold Stop
    k_dflt refine' Mine.off_claim w mean mg mb (kOf x2) _ (fcOf (fOf x2)) U2 U3 _ _ _ _ _ (by rw [e3]; exact layerIs_layer (kOf_b x2) _ _ U2) hU2 rfl (by omega) (by omega) _ _ _ _ _ _ _ _ _ _ _ _ _ _ _ _ _ ?k1 ?k2 ?k3 ?k4 ?k5 ?k6 ?k7 ?k8 ?k9
    case k1 => k_asm
    case k2 => k_asm
    case k3 => k_asm
    case k4 => k_asm
    case k5 => k_asm
    case k6 => rfl
    case k7 => ktr_room
    case k8 => ktr_units
    case k9 =>
      rintro r h5 tk5 news5 ⟨rfl, t5, rfl⟩ F5 N5
      simp only [List.nil_append] at N5
      dsimp only
      k_steps
      unfold Stop
      k_dflt refine' Mine.off_claim w mean mg mb (kOf x1) _ (fcOf (fOf x1)) U1 U2 _ _ _ _ _ (by rw [e2]; exact layerIs_layer (kOf_b x1) _ _ U1) hU1 rfl (by omega) (by omega) _ _ _ _ _ _ _ _ _ _ _ _ _ _ _ _ _ ?k1 ?k2 ?k3 ?k4 ?k5 ?k6 ?k7 ?k8 ?k9
      case k1 => k_asm
      case k2 => k_asm
      case k3 => k_asm
      case k4 => k_asm
      case k5 => k_asm
      case k6 => rfl
      case k7 => ktr_room
      case k8 => ktr_units
      case k9 =>
        rintro r h5 tk5 news5 ⟨rfl, t5, rfl⟩ F5 N5
        simp only [List.nil_append] at N5
        dsimp only
        k_steps
        unfold Stop
        k_dflt refine' Mine.off_claim w mean mg mb (kOf x0) _ (fcOf (fOf x0)) U0 U1 _ _ _ _ _ (by rw [e1]; exact layerIs_layer (kOf_b x0) _ _ U0) hU0 rfl (by omega) (by omega) _ _ _ _ _ _ _ _ _ _ _ _ _ _ _ _ _ ?k1 ?k2 ?k3 ?k4 ?k5 ?k6 ?k7 ?k8 ?k9
        case k1 => k_asm
        case k2 => k_asm
        case k3 => k_asm
        case k4 => k_asm
        case k5 => k_asm
        case k6 => rfl
        case k7 => ktr_room
        case k8 => ktr_units
        case k9 =>
          rintro r h5 tk5 news5 ⟨rfl, t5, rfl⟩ F5 N5
          simp only [List.nil_append] at N5
          dsimp only
          k_steps
          exact hret _ _ _ (by assumption)
end

/-! LP -/
section
namespace Mine
theorem start_news {h₀ h : Heap} {L : Addr} {ax la pk dx ca b1 b2 b3 b4 b5 sg t sB : Addr × Obj} (N : News h₀ L h [ax, la, pk, dx, ca, b1, b2, b3, b4, b5, sg, t, sB]) : News h₀ L h (la :: ca :: t :: pk :: dx :: sg :: sB :: [ax]) := fun p hp => N p (by
  simp only [List.mem_cons, List.not_mem_nil, or_false] at hp ⊢; grind)
theorem layers_eq {la : Addr} {m : Str → Option Value} (h1 : m (Str.ofString "layers") = some (.ref la)) : (fun y => if y = Str.ofString "layers" then some (Value.ref la) else m y) = m := by
  funext y
  split
  · rename_i e; rw [e, h1]
  · rfl
/-- behind loop 1, with three or four layers, the rest of the law ends in True -/
theorem rest2 (w : World) (mean : ExcName → Option Value) (mg mb : Str → Option Value) (h₀ : Heap) (fa : Addr) (cd : Value) (L : Addr) (s : Shared) (la pk dx sg ax : Addr) (s0 s1 s2 s3 : Tok) (oS lo : Obj) (i : Nat) (m : Str → Option Value) (nx : List (Addr × Obj)) (Q : Flow → Shared → Prop) (E : Value → Shared → Prop)
    (KX : (hd.heap_39 w.params).In h₀) (T : Top hd.view_39 (looseW hd.view_39 []) mean mg mb h₀) (B : Below callerA h₀ [] h₀)
    (hJ : J1 L la pk dx sg ax s0 s1 s2 s3 oS lo i m nx) (F : Fr h₀ L s.heap m) (N : News h₀ L s.heap nx) (hi : i = 3 ∨ i = 4) (hla : @Ne Nat la (L + 1 + 1))
    (hE : PassesOwn (model PRG w) (callerA.deeper (envOfC (Str.ofString "law") lawScope L fa cd)) (envOfC (Str.ofString "law") lawScope L fa cd) E)
    (hret : ∀ (h' : Heap) (tk' : Nat) (m' : Str → Option Value), Fr h₀ L h' m' → Q (.ret (.bool true)) { s with heap := h', toks := tk' }) :
    wpAny (model PRG w) (callerA.deeper (envOfC (Str.ofString "law") lawScope L fa cd)) (execs Rest2 (envOfC (Str.ofString "law") lawScope L fa cd)) Q E s := by
  obtain ⟨U, rl, ca, q0, q1, q2, q3, tU, nn, nL, oT, tl, rfl, dT, hch, hrl, hlay, hax, hoff, hlc, hct, hU, h3, hlen, hm1, hm2, hm3⟩ := hJ
  have hU200 : U.length ≤ 200 := by rcases hi with rfl | rfl <;> omega
  rw [← layers_eq hm1] at F
  have memL := List.mem_cons_self (a := (la, PySem.W.listOf (refsOf rl).toArray nL)) (l := (ca, cntObj U q0 q1 q2 q3 nn) :: (L + 1 + 1, oT) :: (pk, instObj 102 dx) :: (dx, dictOf [] 0) :: (sg, signsObj s0 s1 s2 s3) :: (L + 1, oS) :: tl)
  have inTl : ∀ p ∈ tl, p ∈ (la, PySem.W.listOf (refsOf rl).toArray nL) :: (ca, cntObj U q0 q1 q2 q3 nn) :: (L + 1 + 1, oT) :: (pk, instObj 102 dx) :: (dx, dictOf [] 0) :: (sg, signsObj s0 s1 s2 s3) :: (L + 1, oS) :: tl := fun p hp => by
    simp only [List.mem_cons]; exact .inr (.inr (.inr (.inr (.inr (.inr (.inr hp))))))
  have inT : (L + 1 + 1, oT) ∈ (la, PySem.W.listOf (refsOf rl).toArray nL) :: (ca, cntObj U q0 q1 q2 q3 nn) :: (L + 1 + 1, oT) :: (pk, instObj 102 dx) :: (dx, dictOf [] 0) :: (sg, signsObj s0 s1 s2 s3) :: (L + 1, oS) :: tl :=
    List.mem_cons_of_mem _ (List.mem_cons_of_mem _ (List.mem_cons_self ..))
  rcases hi with rfl | rfl
  · match rl, hrl, hch, hlay, N with
    | [l2, l1, l0], _, hch, hlay, N =>
      obtain ⟨c2, c1, c0, _⟩ := hch
      obtain ⟨⟨z0, z1, z2, z3, nz, hz⟩, g2, k2, v2⟩ := hlay l2 (by simp)
      obtain ⟨⟨y0, y1, y2, y3, ny, hy⟩, g1, k1, v1⟩ := hlay l1 (by simp)
      obtain ⟨⟨x0, x1, x2, x3, nx0, hx0⟩, g0, k0, v0⟩ := hlay l0 (by simp)
      subst c2
      refine loop2_3 w lawScope rfl mean mg mb h₀ fa cd L s m la l0.1 l1.1 l2.1 l0.2.1 l1.2.1 l2.2.1 l0.2.2 l1.2.2 l2.2.2 tU x0 x1 x2 x3 y0 y1 y2 y3 z0 z1 z2 z3 oT nL nx0 ny nz Q E KX T B F ?_ dT c0 c1 ⟨hla, v0, v1, v2⟩ g0 g1 g2 ⟨k0, k1, k2, hU200⟩ hE hret
      intro p hp
      simp only [List.mem_cons, List.not_mem_nil, or_false] at hp
      rcases hp with rfl | rfl | rfl | rfl | rfl
      · exact N _ (List.mem_cons_self ..)
      · exact N _ (List.mem_cons_of_mem _ (List.mem_cons_of_mem _ (List.mem_cons_self ..)))
      · exact N _ (by simp only [List.mem_cons]; exact .inr (.inr (.inr (.inr (.inr (.inr (.inr hx0)))))))
      · exact N _ (by simp only [List.mem_cons]; exact .inr (.inr (.inr (.inr (.inr (.inr (.inr hy)))))))
      · exact N _ (by simp only [List.mem_cons]; exact .inr (.inr (.inr (.inr (.inr (.inr (.inr hz)))))))
  · match rl, hrl, hch, hlay, N with
    | [l3, l2, l1, l0], _, hch, hlay, N =>
      obtain ⟨c3, c2, c1, c0, _⟩ := hch
      obtain ⟨⟨u0, u1, u2, u3, nu, hu⟩, g3, k3, v3⟩ := hlay l3 (by simp)
      obtain ⟨⟨z0, z1, z2, z3, nz, hz⟩, g2, k2, v2⟩ := hlay l2 (by simp)
      obtain ⟨⟨y0, y1, y2, y3, ny, hy⟩, g1, k1, v1⟩ := hlay l1 (by simp)
      obtain ⟨⟨x0, x1, x2, x3, nx0, hx0⟩, g0, k0, v0⟩ := hlay l0 (by simp)
      subst c3
      refine loop2_4 w lawScope rfl mean mg mb h₀ fa cd L s m la l0.1 l1.1 l2.1 l3.1 l0.2.1 l1.2.1 l2.2.1 l3.2.1 l0.2.2 l1.2.2 l2.2.2 l3.2.2 tU x0 x1 x2 x3 y0 y1 y2 y3 z0 z1 z2 z3 u0 u1 u2 u3 oT nL nx0 ny nz nu Q E KX T B F ?_ dT c0 c1 c2 ⟨hla, v0, v1, v2, v3⟩ g0 g1 g2 g3 ⟨k0, k1, k2, k3, hU200⟩ hE hret
      intro p hp
      simp only [List.mem_cons, List.not_mem_nil, or_false] at hp
      rcases hp with rfl | rfl | rfl | rfl | rfl | rfl
      · exact N _ (List.mem_cons_self ..)
      · exact N _ (List.mem_cons_of_mem _ (List.mem_cons_of_mem _ (List.mem_cons_self ..)))
      · exact N _ (by simp only [List.mem_cons]; exact .inr (.inr (.inr (.inr (.inr (.inr (.inr hx0)))))))
      · exact N _ (by simp only [List.mem_cons]; exact .inr (.inr (.inr (.inr (.inr (.inr (.inr hy)))))))
      · exact N _ (by simp only [List.mem_cons]; exact .inr (.inr (.inr (.inr (.inr (.inr (.inr hz)))))))
      · exact N _ (by simp only [List.mem_cons]; exact .inr (.inr (.inr (.inr (.inr (.inr (.inr hu)))))))
theorem j1_start {L la pk dx sg ax ca : Addr} {s0 s1 s2 s3 q0 q1 q2 q3 tU : Tok} {oS oT lo : Obj} {nL nn : Nat} {U : List Nat} {m : Str → Option Value} (dT : oT.data = .cell (some (.str (mkS U) tU))) (hU : Sgn U) (h3 : 3 ≤ U.length ∧ U.length ≤ 9)
    (n1 : @Ne Nat ax la) (n2 : @Ne Nat ax (L + 1 + 1)) (n3 : @Ne Nat la ca) (n4 : @Ne Nat ca (L + 1 + 1))
    (hm1 : m (Str.ofString "layers") = some (.ref la)) (hm2 : m (Str.ofString "counts") = some (.ref ca)) (hm3 : m (Str.ofString "packer") = some (.ref pk)) :
    J1 L la pk dx sg ax s0 s1 s2 s3 oS lo 0 m ((la, PySem.W.listOf #[] nL) :: (ca, cntObj U q0 q1 q2 q3 nn) :: (L + 1 + 1, oT) :: (pk, instObj 102 dx) :: (dx, dictOf [] 0) :: (sg, signsObj s0 s1 s2 s3) :: (L + 1, oS) :: [(ax, lo)]) := by
  refine ⟨U, [], ca, q0, q1, q2, q3, tU, nn, nL, oT, [(ax, lo)], rfl, dT, trivial, rfl, (fun l hl => nomatch hl), List.mem_cons_self .., ?_, n3, n4, hU, h3.1, by omega, hm1, hm2, hm3⟩
  intro p hp b hb
  rw [List.mem_singleton.mp hp]
  rcases List.mem_cons.mp hb with rfl | hb
  · exact n1
  · rw [List.mem_singleton.mp hb]; exact n2
theorem loops (w : World) (mean : ExcName → Option Value) (mg mb : Str → Option Value) (h₀ : Heap) (fa : Addr) (cd : Value) (L : Addr) (s : Shared) (la pk dx sg ax ca : Addr) (b1 b2 b3 b4 b5 : Addr × Obj) (s0 s1 s2 s3 q0 q1 q2 q3 tU : Tok) (oS oT : Obj) (vs : List Value) (xs : List Int) (nX nL nn : Nat) (U : List Nat) (m₀ : Str → Option Value) (Q Q' : Flow → Shared → Prop) (E : Value → Shared → Prop)
    (KX : (hd.heap_39 w.params).In h₀) (T : Top hd.view_39 (looseW hd.view_39 []) mean mg mb h₀) (B : Below callerA h₀ [] h₀)
    (F : Fr h₀ L s.heap m₀)
    (N : News h₀ L s.heap [(ax, PySem.W.listOf vs.toArray nX), (la, PySem.W.listOf #[] nL), (pk, instObj 102 dx), (dx, dictOf [] 0), (ca, cntObj U q0 q1 q2 q3 nn), b1, b2, b3, b4, b5, (sg, signsObj s0 s1 s2 s3), (L + 1 + 1, oT), (L + 1, oS)])
    (hm1 : m₀ (Str.ofString "layers") = some (.ref la)) (hm2 : m₀ (Str.ofString "counts") = some (.ref ca)) (hm3 : m₀ (Str.ofString "packer") = some (.ref pk))
    (hi : IntsAre vs xs) (hx : xs.length = 3 ∨ xs.length = 4) (dT : oT.data = .cell (some (.str (mkS U) tU))) (dS : oS.data = .cell (some (.ref sg))) (hU : Sgn U) (h3 : 3 ≤ U.length ∧ U.length ≤ 9)
    (hne1 : (@Ne Nat la (L + 1 + 1)) ∧ (@Ne Nat la pk) ∧ (@Ne Nat la dx) ∧ (@Ne Nat la sg) ∧ (@Ne Nat la (L + 1))) (hne2 : (@Ne Nat pk (L + 1 + 1)) ∧ (@Ne Nat dx (L + 1 + 1)) ∧ (@Ne Nat sg (L + 1 + 1)))
    (hne3 : (@Ne Nat ax la) ∧ (@Ne Nat ax (L + 1 + 1)) ∧ (@Ne Nat la ca) ∧ (@Ne Nat ca (L + 1 + 1)))
    (hE : PassesOwn (model PRG w) (callerA.deeper (envOfC (Str.ofString "law") lawScope L fa cd)) (envOfC (Str.ofString "law") lawScope L fa cd) E)
    (hQ : ∀ s', wpAny (model PRG w) (callerA.deeper (envOfC (Str.ofString "law") lawScope L fa cd)) (execs Rest2 (envOfC (Str.ofString "law") lawScope L fa cd)) Q E s' → Q' .next s')
    (hret : ∀ (h' : Heap) (tk' : Nat) (m' : Str → Option Value), Fr h₀ L h' m' → Q (.ret (.bool true)) { s with heap := h', toks := tk' }) :
    wpAny (model PRG w) (callerA.deeper (envOfC (Str.ofString "law") lawScope L fa cd)) (pyIter (.ref ax))
      (fun it s₂ => LoopAtV PRG w (callerA.deeper (envOfC (Str.ofString "law") lawScope L fa cd)) h₀ (envOfC (Str.ofString "law") lawScope L fa cd) (Str.ofString "x") TBody Q' E it s₂) E s := by
  refine loop1 w mean mg mb h₀ fa cd L s la pk dx sg ax s0 s1 s2 s3 oS vs xs nX m₀ _ Q' E KX T B F (start_news N) (j1_start dT hU h3 hne3.1 hne3.2.1 hne3.2.2.1 hne3.2.2.2 hm1 hm2 hm3) hi (by omega) dS hne1 hne2 ?_
  intro m₁ nx h9 tk9 hJ F9 N9
  exact hQ _ (rest2 w mean mg mb h₀ fa cd L { s with heap := h9, toks := tk9 } la pk dx sg ax s0 s1 s2 s3 oS _ _ m₁ nx Q E KX T B hJ F9 N9 hx hne1.1 hE hret)
theorem ds_len (ns : List Int) : 3 ≤ (List.map sgc (List.map (fun k' => Int.fmod k' 1000000) (List.take 6 ns) ++ [0, 338, 7])).length ∧ (List.map sgc (List.map (fun k' => Int.fmod k' 1000000) (List.take 6 ns) ++ [0, 338, 7])).length ≤ 9 := by
  simp only [List.length_map, List.length_append, List.length_take, List.length_cons, List.length_nil]; omega
theorem ds_len4 (ns : List Int) : (List.take 4 (List.map (fun k' => Int.fmod k' 1000000) (List.take 6 ns) ++ [0, 338, 7])).length = 3 ∨ (List.take 4 (List.map (fun k' => Int.fmod k' 1000000) (List.take 6 ns) ++ [0, 338, 7])).length = 4 := by
  simp only [List.length_map, List.length_append, List.length_take, List.length_cons, List.length_nil]; omega
end Mine
end

/-! L1 -/
section
local macro_rules | `(tactic| walk_at "CompEnd") => `(tactic| ((with_reducible rename Fr _ _ _ _ => F'); (with_reducible rename News _ _ _ _ => N'); (refine LCg.CompEnd.intro F' N' _ (fun _ hp => hp) ?off ?hS ?_); (case off => first | assumption | (simp only [LCg.Off3, and_true]; assumption)); (case hS => (refine Mine.srcAt (n := ?nn) ?hm; case hm => k_mem))))
local macro_rules | `(tactic| walk_at "CompSrc") => `(tactic| (k_here; (with_reducible show LCg.CompSrc _ _ _ _ _ _ _ (Expr.Subscript _ _ _) _ _ _ _ _ _); (try k_fmods); (try kcf_lens); k_dflt (refine LCg.CompSrc.ledger (by rfl) (by k_asm) (by k_asm) (by k_mem) (by kcf_size) ?_; intro g'; (refine' kct_list Mine.sgAt (by first | assumption | l_ints) (fun k' t' I' oI' C' oC' D' m' ys' h' tk' E' hk' hC' hx' F' N' off' ne' hMark' => ?_) ?_); (all_goals (try (simp only [LCg.Off3, and_true] at off'))); kcf_last)))
local macro_rules | `(tactic| walk_at "KCtEl") => `(tactic| exact ⟨by with_unfolding_all rfl, _, by with_unfolding_all rfl⟩)
local macro_rules | `(tactic| walk_at "call builtin:str.join") => `(tactic| refine Mine.stop_here ?_)
local macro_rules | `(tactic| walk_at "call builtin:str.count") => `(tactic| with_reducible first | refine Mine.count_39 ?_ | refine Mine.count_34 ?_ | refine Mine.count_92 ?_ | refine Mine.count_97 ?_)
local macro_rules | `(tactic| walk_at "pyIter ref") => `(tactic| refine Mine.stop_here ?_)
local macro_rules | `(tactic| walk_at "exec For") => `(tactic| refine Mine.stop_here ?_)

set_option maxRecDepth 100000 in
set_option maxHeartbeats 2000000 in
theorem Mine.law_body (w : World) : LawBody w lawBody lawScope := by
  w_top off
  k_with "table" => skip
  unfold LawBody
  k_fill
  intro mean mg mb h₀ fa cd L s m0 sl vs ns oA oB Q E KX T B hL hI hlen F N dA dB hL0 hE hret
  conv in lawBody => whnf
  have hsc : lawScope = lawScope := rfl
  conv at hsc => rhs; whnf
  rw [hsc] at hE ⊢
  k_steps
  unfold Stop
  (with_reducible rename CarriedAll _ _ => ktC)
  (refine Mine.join_is (by first | assumption | is_list | exact News.isList (by k_asm) (by k_mem)) ktC (by simp only [List.length_append, List.length_map, List.length_take, List.length_cons, List.length_nil]; omega) ?_)
  intro _ _ ktE
  k_steps
  unfold Stop
  (with_reducible rename Fr _ _ _ _ => F1)
  (with_unfolding_all refine' For_invVF F1 ?k1 ?k2 ?_ (hE := hE))
  case k1 => exact rfl
  case k2 => exact rfl
  k_steps
  unfold Stop
  (with_reducible rename News _ _ _ _ => N2)
  (with_reducible rename Fr _ _ _ _ => F2)
  (with_reducible rename IntsAre _ (List.take 4 _) => hI4)
  k_dflt refine' loops w mean mg mb h₀ fa cd L _ _ _ _ _ _ _ _ _ _ _ _ _ _ _ _ _ _ _ _ _ _ _ _ _ _ _ _ _ _ Q _ E KX T B F2 N2 rfl rfl rfl hI4 (ds_len4 ns) ?dT ?dS (sgn_map _) (ds_len ns) ?n1 ?n2 ?n3 hE (fun _ h => h) ?done
  case dT => assumption
  case dS => assumption
  case n1 =>
    clear ktC ktE
    refine ⟨neN ?_, neN ?_, neN ?_, neN ?_, neN ?_⟩
    · omega
    · omega
    · omega
    · omega
    · omega
  case n2 =>
    refine ⟨neN ?_, neN ?_, neN ?_⟩
    · omega
    · omega
    · omega
  case n3 =>
    refine ⟨neN ?_, neN ?_, neN ?_, neN ?_⟩
    · omega
    · omega
    · omega
    · omega
  case done => exact hret
end

/-! MN -/
section
namespace Mine
theorem script_eq {v : Value} {m : Str → Option Value} (h1 : m (Str.ofString "script") = some v) : (fun y => if y = Str.ofString "script" then some v else m y) = m := by
  funext y
  split
  · rename_i e; rw [e, h1]
  · rfl
theorem fr_script {h₀ h : Heap} {L : Addr} {v : Value} {m : Str → Option Value} (F : Fr h₀ L h m) (h1 : m (Str.ofString "script") = some v) : Fr h₀ L h (fun y => if y = Str.ofString "script" then some v else m y) := by rw [script_eq h1]; exact F
theorem pos_of_list {h : Heap} {a : Addr} {vs : Array Value} (hl : h.IsList a vs) : @LT.lt Nat _ 0 h.objs.size := by
  obtain ⟨o, ho, _⟩ := hl
  exact Nat.lt_of_le_of_lt (Nat.zero_le _) (Heap.lt_size ho)
end Mine
end
set_option maxRecDepth 100000 in
set_option maxHeartbeats 4000000 in
theorem PySem.Challenge.cw_ij0067_01_holds : PySem.Challenge.rw_ij0067_01.Holds := by
  refine hd ?_
  k_go0
  (with_reducible rename Frag.In _ _ => KX)
  (with_reducible rename Top _ _ _ _ _ _ => T)
  (with_reducible rename Below _ _ _ _ => B)
  (with_reducible rename Fr _ _ _ _ => F)
  (with_reducible rename News _ _ _ _ => N)
  (with_reducible rename IntsAre _ _ => hI)
  (with_reducible rename Heap.IsList _ _ _ => hL)
  (with_reducible rename ¬ (_ < (_ : Int)) => h63)
  k_dflt refine' Mine.law_body _ _ _ _ _ _ _ _ _ _ _ _ _ _ _ _ _ KX T B hL hI ?hlen (Mine.fr_script F ?hs) N ?dA ?dB (Mine.pos_of_list hL) ?hE ?hret
  case hs => with_unfolding_all rfl
  case hlen => omega
  case dA => with_unfolding_all assumption
  case dB => with_unfolding_all assumption
  case hE => passes_own
  case hret =>
    intro h' tk' m' F'
    wrow_close
