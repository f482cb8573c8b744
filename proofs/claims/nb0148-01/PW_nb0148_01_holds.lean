import PyProof.Rows.All
import Wide.All
import OpenK.AllK
import Wide.FinOn
import Lean
import PySem.Challenge.RW_nb0148_01
open PySem PySem.W PyProof.Rows
set_option Elab.async false
namespace Mine
set_option maxRecDepth 100000 in
set_option maxHeartbeats 8000000 in
open_top hd for PySem.Challenge.rw_nb0148_01
/-! ### C1 -/
section
theorem gentoks {α : Type} {M : Model} {A : Around} {t : Sem α} {Q : α → Shared → Prop} {E : Value → Shared → Prop} {h g d o} {X : Nat} (H : ∀ tk, wpAny M A t Q E ⟨h, g, d, tk, o⟩) : wpAny M A t Q E ⟨h, g, d, X, o⟩ := H X
local macro_rules | `(tactic| walk_at "execs cons") => `(tactic| ((with_reducible refine gentoks ?_); intro tk9; (with_reducible refine wpAny_execs_cons ?_); try dsimp only))
local macro_rules | `(tactic| walk_at "ite") => `(tactic| first | with_reducible refine ite_tt ?_ | with_reducible refine ite_ff ?_ | with_reducible refine split_not ?_ | (with_reducible refine split_dec ?_ ?_ <;> intro _) | (with_reducible refine split_bool ?_ ?_ <;> intro _))

/-- what stands in every heap of the call: the text's own objects and the top's facts -/
def Gd (w : World) (h : Heap) : Prop := (∃ p loose mean mg mb, Top p loose mean mg mb h) ∧ (hd.heap_39 w.params).In h
theorem Gd.keeps {w : World} {h h' : Heap} (G : Gd w h) (k : ∀ b o, h.get? b = some o → h'.get? b = some o) : Gd w h' :=
  let ⟨⟨p, l, m, a, b, T⟩, X⟩ := G
  ⟨⟨p, l, m, a, b, T.keeps k⟩, X.keeps k⟩
theorem fill : PySem.Challenge.rw_nb0148_01 = PySem.Challenge.rw_nb0148_01 ∧ hd.heap_39 = hd.heap_39 := by
  k_fill
  exact ⟨rfl, rfl⟩
def isPrivate (c n : Str) : Bool := decide (3 + c.length < n.length) && (Txt.startswith n (Str.ofString "_" ++ c ++ Str.ofString "__") && (Txt.item n (-1) != Str.ofString "_" || Txt.item n (-2) != Str.ofString "_"))
def isDunder (n : Str) : Bool := decide ((4 : Int) < (n.length : Int)) && ((Txt.slice n none (some 2) == Txt.slice n (some (-2)) none) && (Txt.slice n (some (-2)) none == Str.ofString "__") && ((Txt.item n 2 != Str.ofString "_") && (Txt.item n (-3) != Str.ofString "_")))
def isSunder (n : Str) : Bool := decide ((2 : Int) < (n.length : Int)) && ((Txt.item n 0 == Txt.item n (-1)) && (Txt.item n (-1) == Str.ofString "_") && ((Txt.item n 1 != Str.ofString "_") && (Txt.item n (-2) != Str.ofString "_")))
theorem keepsOf {s : Shared} {L : Addr} {h' : Heap} {m : Str → Option Value} (F : Fr s.heap L h' m) {tk : Nat} : Keeps s { s with heap := h', toks := tk } := ⟨h', tk, rfl, F.keep⟩
theorem len1 : (Str.ofString "_").length = 1 := by decide +kernel
theorem len2 : (Str.ofString "__").length = 2 := by decide +kernel
section
variable {prog : Program} {w : World} {A : Around} {E : Value → Shared → Prop} {s : Shared} {Q : Value → Shared → Prop}
set_option maxRecDepth 100000 in
set_option maxHeartbeats 8000000 in
theorem is_private_pure' {c n : Str} {t t' : Tok} (G : Gd w s.heap) (hroom : A.depth < recursionLimit) (hu : A.units + 8 < cLine) (hc : c.length ≤ 10000000) (hn : n.length ≤ 10000000)
    (hQ : ∀ b s', b = isPrivate c n → Keeps s s' → Q (.bool b) s') : wpAny (model prog w) A (call (.ref 35) [.str c t, .str n t']) Q E s := by
  obtain ⟨⟨p, loose, mean, mg, mb, T⟩, X⟩ := G
  refine wpAny_call (call_plain_ret hroom (X _ _ (by k_is)) rfl T.nolimit (codeRec_of X (by k_is)) rfl (locs rfl) ?_)
  intro h₁ F
  have N : News s.heap s.heap.objs.size h₁ [] := News.nil
  w_on
  k_steps
  all_goals (dsimp only; refine hQ _ _ ?_ (keepsOf (by assumption)); clear hQ; unfold isPrivate; simp only [len1, len2] at *)
  · simp_all; omega
  · simp_all; omega
  · simp_all
  · simp_all
  · have : ¬ 3 + c.length < n.length := by omega
    simp [this]
set_option maxRecDepth 100000 in
set_option maxHeartbeats 8000000 in
theorem is_dunder_pure' {n : Str} {t' : Tok} (G : Gd w s.heap) (hroom : A.depth < recursionLimit) (hu : A.units + 8 < cLine) (hn : n.length ≤ 10000000)
    (hQ : ∀ b s', b = isDunder n → Keeps s s' → Q (.bool b) s') : wpAny (model prog w) A (call (.ref 21) [.str n t']) Q E s := by
  obtain ⟨⟨p, loose, mean, mg, mb, T⟩, X⟩ := G
  refine wpAny_call (call_plain_ret hroom (X _ _ (by k_is)) rfl T.nolimit (codeRec_of X (by k_is)) rfl (locs rfl) ?_)
  intro h₁ F
  have N : News s.heap s.heap.objs.size h₁ [] := News.nil
  w_on
  k_steps
  all_goals (dsimp only; refine hQ _ _ ?_ (keepsOf (by assumption)); clear hQ; unfold isDunder)
  all_goals (simp_all)
  all_goals (first | omega | (rw [beq_eq_false_iff_ne.mpr (by assumption)]; rfl))
set_option maxRecDepth 100000 in
set_option maxHeartbeats 8000000 in
theorem is_sunder_pure' {n : Str} {t' : Tok} (G : Gd w s.heap) (hroom : A.depth < recursionLimit) (hu : A.units + 8 < cLine) (hn : n.length ≤ 10000000)
    (hQ : ∀ b s', b = isSunder n → Keeps s s' → Q (.bool b) s') : wpAny (model prog w) A (call (.ref 28) [.str n t']) Q E s := by
  obtain ⟨⟨p, loose, mean, mg, mb, T⟩, X⟩ := G
  refine wpAny_call (call_plain_ret hroom (X _ _ (by k_is)) rfl T.nolimit (codeRec_of X (by k_is)) rfl (locs rfl) ?_)
  intro h₁ F
  have N : News s.heap s.heap.objs.size h₁ [] := News.nil
  w_on
  k_steps
  all_goals (dsimp only; refine hQ _ _ ?_ (keepsOf (by assumption)); clear hQ; unfold isSunder)
  all_goals (simp_all)
  all_goals (first | omega | (rw [beq_eq_false_iff_ne.mpr (by assumption)]; rfl))
end
end
/-! ### P0 -/
section
/-- one sign replaced by a text, over the numbers of the signs -/
def subst1 (c : Nat) (r : List Nat) (l : List Nat) : List Nat := l.flatMap fun k => if k = c then r else [k]
theorem subst1_free {c : Nat} {r : List Nat} : ∀ {l : List Nat}, c ∉ l → subst1 c r l = l
  | [], _ => rfl
  | k :: t, h => by
    have h1 : ¬ k = c := fun e => h (e ▸ List.mem_cons_self ..)
    have h2 : c ∉ t := fun m => h (List.mem_cons_of_mem _ m)
    have ih := subst1_free (r := r) h2
    unfold subst1 at ih ⊢
    rw [List.flatMap_cons, if_neg h1, ih]; rfl
theorem subst1_append (c : Nat) (r a b : List Nat) : subst1 c r (a ++ b) = subst1 c r a ++ subst1 c r b := by
  unfold subst1; rw [List.flatMap_append]
theorem subst1_join (c : Nat) (z : Str) : ∀ parts : List Str, (∀ p ∈ parts, c ∉ p.cps.toList) → subst1 c z.cps.toList (Str.join ⟨#[c]⟩ parts).cps.toList = (Str.join z parts).cps.toList
  | [], _ => rfl
  | [p], h => subst1_free (h p (List.mem_singleton.mpr rfl))
  | p :: q :: r, h => by
    have ih := subst1_join c z (q :: r) fun a ha => h a (List.mem_cons_of_mem _ ha)
    show subst1 c z.cps.toList (p ++ ⟨#[c]⟩ ++ Str.join ⟨#[c]⟩ (q :: r)).cps.toList = (p ++ z ++ Str.join z (q :: r)).cps.toList
    simp only [Str.cps_append, Array.toList_append]
    rw [subst1_append, subst1_append, ih, subst1_free (h p (List.mem_cons_self ..))]
    have : subst1 c z.cps.toList [c] = z.cps.toList := by simp [subst1]
    rw [this]
theorem replace_toList (x z : Str) (c : Nat) : (Txt.replace x ⟨#[c]⟩ z).cps.toList = subst1 c z.cps.toList x.cps.toList := by
  rw [StrLaws.replace_one, ← subst1_join c z _ (StrLaws.split_free x c), StrLaws.join_split]
/-- the same on texts -/
def rep1 (c : Nat) (z x : Str) : Str := ⟨(subst1 c z.cps.toList x.cps.toList).toArray⟩
theorem replace_rep1 (x z : Str) (c : Nat) : Txt.replace x ⟨#[c]⟩ z = rep1 c z x := StrLaws.mk_of_toList (replace_toList x z c)
theorem rep1_free {x z : Str} {c : Nat} (h : c ∉ x.cps.toList) : rep1 c z x = x := by
  unfold rep1
  rw [subst1_free h]
theorem rep1_none {x z : Str} {c : Nat} (h : (Builtin.Str.occurrences x ⟨#[c]⟩ 0 x.length 1).isEmpty = true) : rep1 c z x = x := by
  refine rep1_free ?_
  have := StrLaws.found_one x c
  rw [h] at this
  simpa using this
theorem subst1_length_le (c : Nat) (r : List Nat) (l : List Nat) : (subst1 c r l).length ≤ l.length * (r.length + 1) := by
  induction l with
  | nil => simp [subst1]
  | cons k t ih =>
    unfold subst1 at ih ⊢
    rw [List.flatMap_cons, List.length_append, List.length_cons, Nat.succ_mul]
    have : (if k = c then r else [k]).length ≤ r.length + 1 := by split <;> simp
    omega
end
/-! ### C2 -/
section
theorem gentoks1 {α : Type} {M : Model} {A : Around} {t : Sem α} {Q : α → Shared → Prop} {E : Value → Shared → Prop} {h g d o} {X : Nat} (hX : 1 ≤ X) (H : ∀ tk, 1 ≤ tk → wpAny M A t Q E ⟨h, g, d, tk, o⟩) : wpAny M A t Q E ⟨h, g, d, X, o⟩ := H X hX
local macro_rules | `(tactic| walk_at "execs cons") => `(tactic| ((with_reducible refine gentoks1 (by omega) ?_); intro tk9 htk9; (with_reducible refine wpAny_execs_cons ?_); try dsimp only))
local macro_rules | `(tactic| walk_at "ite") => `(tactic| first | with_reducible refine ite_tt ?_ | with_reducible refine ite_ff ?_ | with_reducible refine split_not ?_ | (with_reducible refine split_dec ?_ ?_ <;> intro _) | (with_reducible refine split_bool ?_ ?_ <;> intro _))
local macro_rules | `(tactic| walk_at "eval Name") => `(tactic| refine ld (by assumption) (by assumption) ?_)
abbrev escScope : Scope := ⟨.function, [(Str.ofString "text", .local), (Str.ofString "TypeError", .globalImplicit), (Str.ofString "AttributeError", .globalImplicit), (Str.ofString "_raise_serialization_error", .globalImplicit)], false, false, []⟩
section
variable {prog : Program} {w : World} {A : Around} {E : Value → Shared → Prop} {s : Shared}
theorem tok0 {k : Nat} (h : 1 ≤ k) : @Ne Tok k 0 := Nat.ne_of_gt h
theorem tokS {k : Nat} : @Ne Tok (k + 1) 0 := Nat.succ_ne_zero k
theorem tokN {k : Nat} : @Ne Tok k (k + 1) := Nat.ne_of_lt (Nat.lt_succ_self k)
theorem he_two {x nm : Str} {p5 p6 p9 : Pos} {a b : Expr} {env : Env} (ha : (starEach [a, b] env).all (!·.1) = true) (hp : (p6.endLine == p9.line) = true) : ∃ pl : Sem Bool,
    eval (.Call (.Attribute (.Name x p5) nm p6) [a, b] [] p9) env = (do
      let ov ← eval (.Name x p5) env
      standAt p6.atName
      let (f, first) ← holding [ov] (getMethod ov nm pl)
      callWith p9 f first (backTo p9 (starEach [a, b] env)) []) := by
  have e : eval (.Call (.Attribute (.Name x p5) nm p6) [a, b] [] p9) env = (do
      let ov ← eval (.Name x p5) env
      standAt p6.atName
      methodCall (.Name x p5) nm p6 p9 env ov 2 (backTo p9 (starEach [a, b] env)) []) := rfl
  have few : methodCallForm 2 (backTo p9 (starEach [a, b] env)) [] = true := by
    unfold methodCallForm backTo
    rw [List.all_map]
    have e2 : ((starEach [a, b] env).all ((fun x => !x.1) ∘ fun (x : Bool × Sem Value) => (x.1, if x.1 = true then (do let v ← x.2; standAt p9; pure v) else x.2))) = true := ha
    simpa using e2
  have e3 : ∀ ov, methodCall (.Name x p5) nm p6 p9 env ov 2 (backTo p9 (starEach [a, b] env)) [] = (holding [ov] (calleeOf true (.Name x p5) env ov nm) >>= fun r => callWith p9 r.1 r.2 (backTo p9 (starEach [a, b] env)) []) := by
    intro ov
    unfold methodCall methodCallPos
    simp only [few, hp, Bool.or_true, if_true]
    rfl
  apply Exists.intro
  rw [e]
  simp only [e3]
  exact rfl
set_option maxRecDepth 100000 in
set_option maxHeartbeats 8000000 in
theorem esc_step {h₀ : Heap} {L a : Addr} {m : Str → Option Value} {cd : Value} {nm : Str} {C R : Str} {k1 k2 k3 : Nat} {p0 p1 p2 p3 p4 p5 p6 p7 p8 p9 p10 : Pos} {rest : List Stmt} {Q : Flow → Shared → Prop} {x : Str} {t : Tok}
    (F : Fr h₀ L s.heap m) (hm : m (Str.ofString "text") = some (.str x t)) (ht : 1 ≤ s.toks) (c : Nat) (hC : C = ⟨#[c]⟩) (hCR : (C == R) = false) (hp : (p6.endLine == p9.line) = true) (hb : x.length + (x.length + 1) * R.length ≤ 16777216)
    (H : ∀ h' tk t' m', Fr h₀ L h' m' → m' (Str.ofString "text") = some (.str (rep1 c R x) t') → 1 ≤ tk → wpAny (model prog w) A (execs rest (envOf nm escScope L a cd)) Q E { s with heap := h', toks := tk }) :
    wpAny (model prog w) A (execs (Stmt.If (Expr.Compare (Expr.Constant (Const.str C) k1 p1) [CmpOp.In] [Expr.Name (Str.ofString "text") p2] p3)
      [Stmt.Assign [Expr.Name (Str.ofString "text") p4] (Expr.Call (Expr.Attribute (Expr.Name (Str.ofString "text") p5) (Str.ofString "replace") p6) [Expr.Constant (Const.str C) k2 p7, Expr.Constant (Const.str R) k3 p8] [] p9) p10] [] p0 :: rest) (envOf nm escScope L a cd)) Q E s := by
  have N : News h₀ L s.heap [] := News.nil
  refine wpAny_execs_cons ?_
  w_on
  repeat' (first | ((fail_if_success (with_reducible show wpAny _ _ (eval (Expr.Call _ _ _ _) _) _ _ _)); first | (k_unfold; (try dsimp only)) | walk1))
  · exact H _ _ t m F (by rw [rep1_none (hC ▸ (by assumption))]; exact hm) (by show 1 ≤ s.toks + 1; omega)
  · obtain ⟨pl, hpl⟩ := he_two (x := Str.ofString "text") (nm := Str.ofString "replace") (p5 := p5) (p6 := p6) (p9 := p9) (a := Expr.Constant (Const.str C) k2 p7) (b := Expr.Constant (Const.str R) k3 p8) (env := envOf nm escScope L a cd) rfl hp
    refine MethodCall_ ?_ hpl
    k_steps
    refine SC.replace (tok0 (by assumption)) tokS tokN hCR hb ?_
    intro t' k
    refine stN F N ?_
    intro h' F' _
    refine wpAny_execs_nil ?_
    refine H _ _ t' _ F' ?_ (by show 1 ≤ k + 1; omega)
    rw [if_pos rfl, hC, replace_rep1]
end
theorem rep1_len {c k B : Nat} {z x : Str} (hz : z.length = k) (hx : x.length ≤ B) : (rep1 c z x).length ≤ B * (k + 1) := by
  have h := subst1_length_le c z.cps.toList x.cps.toList
  have e1 : z.cps.toList.length = k := hz
  have e2 : x.cps.toList.length ≤ B := hx
  show (subst1 c z.cps.toList x.cps.toList).toArray.size ≤ _
  rw [List.size_toArray]
  rw [e1] at h
  exact Nat.le_trans h (Nat.mul_le_mul_right _ e2)
theorem hb_of {k B : Nat} {z x : Str} (hz : z.length = k) (hx : x.length ≤ B) (h : B + (B + 1) * k ≤ 16777216) : x.length + (x.length + 1) * z.length ≤ 16777216 := by
  rw [hz]
  have : (x.length + 1) * k ≤ (B + 1) * k := Nat.mul_le_mul_right _ (by omega)
  omega
def tabS : Nat → List (Nat × Str)
  | 0 => [(38, Str.ofString "&amp;"), (60, Str.ofString "&lt;"), (62, Str.ofString "&gt;")]
  | 1 => [(38, Str.ofString "&amp;"), (60, Str.ofString "&lt;"), (62, Str.ofString "&gt;"), (34, Str.ofString "&quot;"), (13, Str.ofString "&#13;"), (10, Str.ofString "&#10;"), (9, Str.ofString "&#09;")]
  | 2 => [(38, Str.ofString "&amp;"), (62, Str.ofString "&gt;"), (34, Str.ofString "&quot;")]
  | 3 => [(38, Str.ofString "&amp;"), (60, Str.ofString "&lt;"), (62, Str.ofString "&gt;"), (13, Str.ofString "&#xD;")]
  | _ => [(38, Str.ofString "&amp;"), (60, Str.ofString "&lt;"), (34, Str.ofString "&quot;"), (9, Str.ofString "&#x9;"), (10, Str.ofString "&#xA;"), (13, Str.ofString "&#xD;")]
def escS (i : Nat) (x : Str) : Str := (tabS i).foldl (fun x p => rep1 p.1 p.2 x) x
local macro_rules | `(tactic| walk_at "execs cons") => `(tactic| ((fail_if_success (with_reducible show wpAny _ _ (execs (Stmt.If _ _ _ _ :: _) _) _ _ _)); (with_reducible refine gentoks1 (by omega) ?_); intro tk9 htk9; (with_reducible refine wpAny_execs_cons ?_); try dsimp only))
section
variable {prog : Program} {w : World} {A : Around} {E : Value → Shared → Prop} {s : Shared} {Q : Value → Shared → Prop}
set_option maxRecDepth 100000 in
set_option maxHeartbeats 8000000 in
theorem esc0_pure {n : Str} {t' : Tok} (G : Gd w s.heap) (hroom : A.depth < recursionLimit) (hn : n.length ≤ 40)
    (hQ : ∀ tk s', Keeps s s' → Q (.str (escS 0 n) tk) s') : wpAny (model prog w) A (call (.ref 49) [.str n t']) Q E s := by
  obtain ⟨⟨p, loose, mean, mg, mb, T⟩, X⟩ := G
  refine wpAny_call (call_plain_ret hroom (X _ _ (by k_is)) rfl T.nolimit (codeRec_of X (by k_is)) rfl (locs rfl) ?_)
  intro h₁ F
  have N : News s.heap s.heap.objs.size h₁ [] := News.nil
  w_on
  repeat' (first | ((fail_if_success (with_reducible show wpAny _ _ (execs (Stmt.If _ _ _ _ :: _) _) _ _ _)); first | (k_unfold; (try dsimp only)) | walk1))
  refine esc_step F rfl (by show 1 ≤ s.toks + 1; omega) 38 (by decide +kernel) (by decide +kernel) rfl (hb_of (k := 5) (by decide +kernel) hn (by decide)) ?_
  intro h0 tk0 t0 m0 F0 hm0 ht0
  have hx0 := rep1_len (c := 38) (z := Str.ofString "&amp;") (k := 5) (by decide +kernel) hn
  refine esc_step F0 hm0 ht0 60 (by decide +kernel) (by decide +kernel) rfl (hb_of (k := 4) (by decide +kernel) hx0 (by decide)) ?_
  intro h1 tk1 t1 m1 F1 hm1 ht1
  have hx1 := rep1_len (c := 60) (z := Str.ofString "&lt;") (k := 4) (by decide +kernel) hx0
  refine esc_step F1 hm1 ht1 62 (by decide +kernel) (by decide +kernel) rfl (hb_of (k := 4) (by decide +kernel) hx1 (by decide)) ?_
  intro h2 tk2 t2 m2 F2 hm2 ht2
  have hx2 := rep1_len (c := 62) (z := Str.ofString "&gt;") (k := 4) (by decide +kernel) hx1
  refine wpAny_execs_cons (wpAny_Return_some (ld F2 hm2 ?_))
  exact hQ _ _ ⟨_, _, rfl, F2.keep⟩
set_option maxRecDepth 100000 in
set_option maxHeartbeats 8000000 in
theorem esc1_pure {n : Str} {t' : Tok} (G : Gd w s.heap) (hroom : A.depth < recursionLimit) (hn : n.length ≤ 40)
    (hQ : ∀ tk s', Keeps s s' → Q (.str (escS 1 n) tk) s') : wpAny (model prog w) A (call (.ref 56) [.str n t']) Q E s := by
  obtain ⟨⟨p, loose, mean, mg, mb, T⟩, X⟩ := G
  refine wpAny_call (call_plain_ret hroom (X _ _ (by k_is)) rfl T.nolimit (codeRec_of X (by k_is)) rfl (locs rfl) ?_)
  intro h₁ F
  have N : News s.heap s.heap.objs.size h₁ [] := News.nil
  w_on
  repeat' (first | ((fail_if_success (with_reducible show wpAny _ _ (execs (Stmt.If _ _ _ _ :: _) _) _ _ _)); first | (k_unfold; (try dsimp only)) | walk1))
  refine esc_step F rfl (by show 1 ≤ s.toks + 1; omega) 38 (by decide +kernel) (by decide +kernel) rfl (hb_of (k := 5) (by decide +kernel) hn (by decide)) ?_
  intro h0 tk0 t0 m0 F0 hm0 ht0
  have hx0 := rep1_len (c := 38) (z := Str.ofString "&amp;") (k := 5) (by decide +kernel) hn
  refine esc_step F0 hm0 ht0 60 (by decide +kernel) (by decide +kernel) rfl (hb_of (k := 4) (by decide +kernel) hx0 (by decide)) ?_
  intro h1 tk1 t1 m1 F1 hm1 ht1
  have hx1 := rep1_len (c := 60) (z := Str.ofString "&lt;") (k := 4) (by decide +kernel) hx0
  refine esc_step F1 hm1 ht1 62 (by decide +kernel) (by decide +kernel) rfl (hb_of (k := 4) (by decide +kernel) hx1 (by decide)) ?_
  intro h2 tk2 t2 m2 F2 hm2 ht2
  have hx2 := rep1_len (c := 62) (z := Str.ofString "&gt;") (k := 4) (by decide +kernel) hx1
  refine esc_step F2 hm2 ht2 34 (by decide +kernel) (by decide +kernel) rfl (hb_of (k := 6) (by decide +kernel) hx2 (by decide)) ?_
  intro h3 tk3 t3 m3 F3 hm3 ht3
  have hx3 := rep1_len (c := 34) (z := Str.ofString "&quot;") (k := 6) (by decide +kernel) hx2
  refine esc_step F3 hm3 ht3 13 (by decide +kernel) (by decide +kernel) rfl (hb_of (k := 5) (by decide +kernel) hx3 (by decide)) ?_
  intro h4 tk4 t4 m4 F4 hm4 ht4
  have hx4 := rep1_len (c := 13) (z := Str.ofString "&#13;") (k := 5) (by decide +kernel) hx3
  refine esc_step F4 hm4 ht4 10 (by decide +kernel) (by decide +kernel) rfl (hb_of (k := 5) (by decide +kernel) hx4 (by decide)) ?_
  intro h5 tk5 t5 m5 F5 hm5 ht5
  have hx5 := rep1_len (c := 10) (z := Str.ofString "&#10;") (k := 5) (by decide +kernel) hx4
  refine esc_step F5 hm5 ht5 9 (by decide +kernel) (by decide +kernel) rfl (hb_of (k := 5) (by decide +kernel) hx5 (by decide)) ?_
  intro h6 tk6 t6 m6 F6 hm6 ht6
  have hx6 := rep1_len (c := 9) (z := Str.ofString "&#09;") (k := 5) (by decide +kernel) hx5
  refine wpAny_execs_cons (wpAny_Return_some (ld F6 hm6 ?_))
  exact hQ _ _ ⟨_, _, rfl, F6.keep⟩
set_option maxRecDepth 100000 in
set_option maxHeartbeats 8000000 in
theorem esc2_pure {n : Str} {t' : Tok} (G : Gd w s.heap) (hroom : A.depth < recursionLimit) (hn : n.length ≤ 40)
    (hQ : ∀ tk s', Keeps s s' → Q (.str (escS 2 n) tk) s') : wpAny (model prog w) A (call (.ref 63) [.str n t']) Q E s := by
  obtain ⟨⟨p, loose, mean, mg, mb, T⟩, X⟩ := G
  refine wpAny_call (call_plain_ret hroom (X _ _ (by k_is)) rfl T.nolimit (codeRec_of X (by k_is)) rfl (locs rfl) ?_)
  intro h₁ F
  have N : News s.heap s.heap.objs.size h₁ [] := News.nil
  w_on
  repeat' (first | ((fail_if_success (with_reducible show wpAny _ _ (execs (Stmt.If _ _ _ _ :: _) _) _ _ _)); first | (k_unfold; (try dsimp only)) | walk1))
  refine esc_step F rfl (by show 1 ≤ s.toks + 1; omega) 38 (by decide +kernel) (by decide +kernel) rfl (hb_of (k := 5) (by decide +kernel) hn (by decide)) ?_
  intro h0 tk0 t0 m0 F0 hm0 ht0
  have hx0 := rep1_len (c := 38) (z := Str.ofString "&amp;") (k := 5) (by decide +kernel) hn
  refine esc_step F0 hm0 ht0 62 (by decide +kernel) (by decide +kernel) rfl (hb_of (k := 4) (by decide +kernel) hx0 (by decide)) ?_
  intro h1 tk1 t1 m1 F1 hm1 ht1
  have hx1 := rep1_len (c := 62) (z := Str.ofString "&gt;") (k := 4) (by decide +kernel) hx0
  refine esc_step F1 hm1 ht1 34 (by decide +kernel) (by decide +kernel) rfl (hb_of (k := 6) (by decide +kernel) hx1 (by decide)) ?_
  intro h2 tk2 t2 m2 F2 hm2 ht2
  have hx2 := rep1_len (c := 34) (z := Str.ofString "&quot;") (k := 6) (by decide +kernel) hx1
  refine wpAny_execs_cons (wpAny_Return_some (ld F2 hm2 ?_))
  exact hQ _ _ ⟨_, _, rfl, F2.keep⟩
set_option maxRecDepth 100000 in
set_option maxHeartbeats 8000000 in
theorem esc3_pure {n : Str} {t' : Tok} (G : Gd w s.heap) (hroom : A.depth < recursionLimit) (hn : n.length ≤ 40)
    (hQ : ∀ tk s', Keeps s s' → Q (.str (escS 3 n) tk) s') : wpAny (model prog w) A (call (.ref 70) [.str n t']) Q E s := by
  obtain ⟨⟨p, loose, mean, mg, mb, T⟩, X⟩ := G
  refine wpAny_call (call_plain_ret hroom (X _ _ (by k_is)) rfl T.nolimit (codeRec_of X (by k_is)) rfl (locs rfl) ?_)
  intro h₁ F
  have N : News s.heap s.heap.objs.size h₁ [] := News.nil
  w_on
  repeat' (first | ((fail_if_success (with_reducible show wpAny _ _ (execs (Stmt.If _ _ _ _ :: _) _) _ _ _)); first | (k_unfold; (try dsimp only)) | walk1))
  refine esc_step F rfl (by show 1 ≤ s.toks + 1; omega) 38 (by decide +kernel) (by decide +kernel) rfl (hb_of (k := 5) (by decide +kernel) hn (by decide)) ?_
  intro h0 tk0 t0 m0 F0 hm0 ht0
  have hx0 := rep1_len (c := 38) (z := Str.ofString "&amp;") (k := 5) (by decide +kernel) hn
  refine esc_step F0 hm0 ht0 60 (by decide +kernel) (by decide +kernel) rfl (hb_of (k := 4) (by decide +kernel) hx0 (by decide)) ?_
  intro h1 tk1 t1 m1 F1 hm1 ht1
  have hx1 := rep1_len (c := 60) (z := Str.ofString "&lt;") (k := 4) (by decide +kernel) hx0
  refine esc_step F1 hm1 ht1 62 (by decide +kernel) (by decide +kernel) rfl (hb_of (k := 4) (by decide +kernel) hx1 (by decide)) ?_
  intro h2 tk2 t2 m2 F2 hm2 ht2
  have hx2 := rep1_len (c := 62) (z := Str.ofString "&gt;") (k := 4) (by decide +kernel) hx1
  refine esc_step F2 hm2 ht2 13 (by decide +kernel) (by decide +kernel) rfl (hb_of (k := 5) (by decide +kernel) hx2 (by decide)) ?_
  intro h3 tk3 t3 m3 F3 hm3 ht3
  have hx3 := rep1_len (c := 13) (z := Str.ofString "&#xD;") (k := 5) (by decide +kernel) hx2
  refine wpAny_execs_cons (wpAny_Return_some (ld F3 hm3 ?_))
  exact hQ _ _ ⟨_, _, rfl, F3.keep⟩
set_option maxRecDepth 100000 in
set_option maxHeartbeats 8000000 in
theorem esc4_pure {n : Str} {t' : Tok} (G : Gd w s.heap) (hroom : A.depth < recursionLimit) (hn : n.length ≤ 40)
    (hQ : ∀ tk s', Keeps s s' → Q (.str (escS 4 n) tk) s') : wpAny (model prog w) A (call (.ref 77) [.str n t']) Q E s := by
  obtain ⟨⟨p, loose, mean, mg, mb, T⟩, X⟩ := G
  refine wpAny_call (call_plain_ret hroom (X _ _ (by k_is)) rfl T.nolimit (codeRec_of X (by k_is)) rfl (locs rfl) ?_)
  intro h₁ F
  have N : News s.heap s.heap.objs.size h₁ [] := News.nil
  w_on
  repeat' (first | ((fail_if_success (with_reducible show wpAny _ _ (execs (Stmt.If _ _ _ _ :: _) _) _ _ _)); first | (k_unfold; (try dsimp only)) | walk1))
  refine esc_step F rfl (by show 1 ≤ s.toks + 1; omega) 38 (by decide +kernel) (by decide +kernel) rfl (hb_of (k := 5) (by decide +kernel) hn (by decide)) ?_
  intro h0 tk0 t0 m0 F0 hm0 ht0
  have hx0 := rep1_len (c := 38) (z := Str.ofString "&amp;") (k := 5) (by decide +kernel) hn
  refine esc_step F0 hm0 ht0 60 (by decide +kernel) (by decide +kernel) rfl (hb_of (k := 4) (by decide +kernel) hx0 (by decide)) ?_
  intro h1 tk1 t1 m1 F1 hm1 ht1
  have hx1 := rep1_len (c := 60) (z := Str.ofString "&lt;") (k := 4) (by decide +kernel) hx0
  refine esc_step F1 hm1 ht1 34 (by decide +kernel) (by decide +kernel) rfl (hb_of (k := 6) (by decide +kernel) hx1 (by decide)) ?_
  intro h2 tk2 t2 m2 F2 hm2 ht2
  have hx2 := rep1_len (c := 34) (z := Str.ofString "&quot;") (k := 6) (by decide +kernel) hx1
  refine esc_step F2 hm2 ht2 9 (by decide +kernel) (by decide +kernel) rfl (hb_of (k := 5) (by decide +kernel) hx2 (by decide)) ?_
  intro h3 tk3 t3 m3 F3 hm3 ht3
  have hx3 := rep1_len (c := 9) (z := Str.ofString "&#x9;") (k := 5) (by decide +kernel) hx2
  refine esc_step F3 hm3 ht3 10 (by decide +kernel) (by decide +kernel) rfl (hb_of (k := 5) (by decide +kernel) hx3 (by decide)) ?_
  intro h4 tk4 t4 m4 F4 hm4 ht4
  have hx4 := rep1_len (c := 10) (z := Str.ofString "&#xA;") (k := 5) (by decide +kernel) hx3
  refine esc_step F4 hm4 ht4 13 (by decide +kernel) (by decide +kernel) rfl (hb_of (k := 5) (by decide +kernel) hx4 (by decide)) ?_
  intro h5 tk5 t5 m5 F5 hm5 ht5
  have hx5 := rep1_len (c := 13) (z := Str.ofString "&#xD;") (k := 5) (by decide +kernel) hx4
  refine wpAny_execs_cons (wpAny_Return_some (ld F5 hm5 ?_))
  exact hQ _ _ ⟨_, _, rfl, F5.keep⟩

end
end
/-! ### C3 -/
section
/-- what the table tells of a sign -/
def valS (kvs : List (Str × Value)) (k : Str) : Str := match valueAt kvs k with
  | some (.str r _) => r
  | _ => k
def wrS (kvs : List (Str × Value)) (x : Str) : Str := Txt.join (Str.ofString "") (x.cps.toList.map fun c => valS kvs ⟨#[c]⟩)
/-- every value of the table is a short text -/
def Texts (kvs : List (Str × Value)) : Prop := ∀ k v, valueAt kvs k = some v → ∃ r u, v = .str r u ∧ r.length ≤ 6
theorem valS_len {kvs : List (Str × Value)} (T : Texts kvs) {k : Str} (hk : k.length ≤ 6) : (valS kvs k).length ≤ 6 := by
  unfold valS
  split
  · rename_i r u e
    obtain ⟨r', u', e', h⟩ := T _ _ e
    cases e'
    exact h
  · exact hk
theorem strs_of_paired {kvs : List (Str × Value)} {x : Str} : ∀ {vs ys : List Value} (cs : List Nat), (∀ (j : Nat) (v : Value), vs[j]? = some v → ∃ c u, cs[j]? = some c ∧ v = Value.str ⟨#[c]⟩ u) → vs.length = cs.length →
    Paired (fun v y => ∃ c u u', v = Value.str ⟨#[c]⟩ u ∧ y = Value.str (valS kvs ⟨#[c]⟩) u') vs ys → StrsAre ys (cs.map fun c => valS kvs ⟨#[c]⟩) := by
  intro vs ys cs hP hlen hF
  induction hF generalizing cs with
  | nil => cases cs with
    | nil => exact .nil
    | cons _ _ => simp at hlen
  | cons hd _ ih =>
    cases cs with
    | nil => simp at hlen
    | cons c r =>
      obtain ⟨c', u, u', e1, e2⟩ := hd
      obtain ⟨c'', u'', e3, e4⟩ := hP 0 _ (List.getElem?_cons_zero ..)
      have e5 : c = c'' := by simpa using e3
      rw [e1] at e4
      have e6 : c' = c'' := by
        have := (Value.str.inj e4).1
        simpa using congrArg (fun z : Str => z.cps.toList) this
      subst e5; subst e6; subst e2
      exact .cons _ _ (ih r (fun j v hj => hP (j + 1) v hj) (by simpa using hlen))
theorem keepsRefl {s : Shared} : Keeps s s := ⟨s.heap, s.toks, rfl, fun _ _ e => e⟩
section
variable {prog : Program} {w : World} {A : Around} {E : Value → Shared → Prop} {s : Shared} {Q : Value → Shared → Prop}
set_option maxRecDepth 100000 in
set_option maxHeartbeats 8000000 in
theorem written_pure {d : Addr} {kvs : List (Str × Value)} {x : Str} {t : Tok} (G : Gd w s.heap) (hroom : A.depth < recursionLimit) (hh : A.handled = none) (hD : s.heap.DictOf (PySem.strKind prog w) d kvs) (lo : (d == sysModules) = false)
    (hT : Texts kvs) (hx : x.length ≤ 1000)
    (hQ : ∀ tk s', Keeps s s' → Q (.str (wrS kvs x) tk) s') : wpAny (model prog w) A (call (.ref 89) [.ref d, .str x t]) Q E s := by
  obtain ⟨⟨p, loose, mean, mg, mb, T⟩, X⟩ := G
  refine wpAny_call (call_cells_ret hroom (X _ _ (by k_is)) rfl T.nolimit (codeRec_of X (by k_is)) rfl (kindsX rfl _) ?_)
  intro h₁ tk F C
  w_on
  refine wpAny_execs_cons (wpAny_Return_some ?_)
  refine MethodCall_ (Calls.Constant_str (GM.join ?_))
  walk1
  walk1
  refine wpAny_ListComp_free (cl := [(Str.ofString "table", s.heap.objs.size + 1)]) (fun _ => true) (fun v y => ∃ c u u', v = Value.str ⟨#[c]⟩ u ∧ y = Value.str (valS kvs ⟨#[c]⟩) u') rfl (by decide) rfl (by decide) (by decide) ?_
  refine ldLoc F rfl ?_
  refine wpAny_pyIter_str fun o St W hst => ?_
  refine ⟨_, _, _, _, _, St, rfl, W _ hh, Nat.le_trans hx (by decide), hst, ?_, ⟨?_, ?_⟩, ?_⟩
  · intro b hb
    rw [List.mem_singleton.mp hb]
    show _ < (Heap.push _ _).objs.size
    rw [Heap.size_push]
    exact Nat.lt_succ_self _
  · intro C' i v s₃ m₃ E' hC hP hn hm hk _
    exact wpAny_tests_nil ⟨rfl, keepsRefl⟩
  · intro C' i v s₃ m₃ E' hC hP _ hn hm hk _
    have up : ∀ b o', h₁.get? b = some o' → s₃.heap.get? b = some o' := fun b o' e => hk b o' (old_not_new e) (Heap.get?_push_of_some _ e)
    have hc : s₃.heap.IsCell (s.heap.objs.size + 1) (some (.ref d)) := (C.cell (Str.ofString "table") _ rfl).keeps up
    have hD3 : s₃.heap.DictOf (PySem.strKind prog w) d kvs := hD.keep fun b o e => up b o (F.keep b o e)
    obtain ⟨c, u, _, rfl⟩ := hP
    refine wpAny_IfExp (wpAny_isTrue_Compare1 (wpAny_Name (wpAny_loadName_local rfl rfl hn hm ?_) (by decide)))
    refine wpAny_Name (wpAny_loadName_cell rfl rfl (c := s.heap.objs.size + 1) rfl hc ?_) (by decide)
    refine wpAny_in_of (strKind_is prog w _ _) lo hD3.mapOf ?_
    refine wpAny_truthy_bool ?_
    cases hv : valueAt kvs ⟨#[c]⟩ with
    | some v' =>
      obtain ⟨r, u', rfl, _⟩ := hT _ _ hv
      simp only [Option.isSome_some, if_true]
      refine Subscript_ (wpAny_Name (wpAny_loadName_cell rfl rfl (c := s.heap.objs.size + 1) rfl hc ?_) (by decide))
      refine wpAny_Name (wpAny_loadName_local rfl rfl hn hm ?_) (by decide)
      refine subscriptTail_builtin hD3.typeIs slot_dict_getitem.lookup (wpAny_getItem_of (strKind_is prog w _ _) hD3.mapOf hv ?_)
      exact ⟨⟨c, u, u', rfl, by unfold valS; rw [hv]⟩, ⟨_, _, rfl, fun _ _ e => e⟩⟩
    | none =>
      simp only [Option.isSome_none, Bool.false_eq_true, if_false]
      refine wpAny_Name (wpAny_loadName_local rfl rfl hn hm ?_) (by decide)
      exact ⟨⟨c, u, u, rfl, by unfold valS; rw [hv]⟩, ⟨_, _, rfl, fun _ _ e => e⟩⟩
  · intro D h' tk' ys vs hDn hl hpl hlen hP hF hk
    have e1 : vs.filter (fun _ => true) = vs := List.filter_eq_self.mpr fun _ _ => rfl
    rw [e1] at hF
    have hS := strs_of_paired (kvs := kvs) (x := x) x.cps.toList (fun j v hj => by obtain ⟨c, u, h1, h2⟩ := hP j v hj; exact ⟨c, u, by simpa using h1, h2⟩) (by rw [hlen]; simp) hF
    have hb1 : ∀ y ∈ (x.cps.toList.map fun c => valS kvs ⟨#[c]⟩), y.length ≤ 6 := fun y hy => by
      obtain ⟨c, _, rfl⟩ := List.mem_map.mp hy
      exact valS_len hT (by show 1 ≤ 6; decide)
    have hb2 := StrLaws.sumLen_le _ hb1
    have hb3 : (x.cps.toList.map fun c => valS kvs ⟨#[c]⟩).length = x.length := by rw [List.length_map]; rfl
    walk1
    refine join_listC hl hS (by decide +kernel) (by omega) ?_
    intro t' k
    exact hQ _ _ ⟨_, _, rfl, fun b o' e => hk b o' (old_not_new (F.keep b o' e)) (Heap.get?_push_of_some _ (F.keep b o' e))⟩
end
end
/-! ### C4 -/
section
def bareP (n : Str) (v : Value) : Bool := match v with
  | .int i _ => Txt.item n i != Str.ofString "_"
  | _ => false
def placesI (n : Str) : List Int := ((List.range n.length).filter fun (p : Nat) => Txt.item n (p : Int) != Str.ofString "_").map fun (p : Nat) => (p : Int)
def endsI (n : Str) : Int × Int := if placesI n = [] then (0, 0) else ((placesI n).getD (Int.toNat 0) 0, (n.length : Int) - 1 - (placesI n).getD (-1 + ((placesI n).length : Int)).toNat 0)
theorem ints_of_paired {n : Str} : ∀ {vs ys : List Value} (ps : List Nat), vs.length = ps.length → (∀ (j : Nat) (v : Value), vs[j]? = some v → ∃ p t, ps[j]? = some p ∧ v = Value.int (p : Int) t) →
    Paired (fun v y => y = v) (vs.filter (bareP n)) ys → IntsAre ys ((ps.filter fun (p : Nat) => Txt.item n (p : Int) != Str.ofString "_").map fun (p : Nat) => (p : Int))
  | [], ys, ps, hlen, _, hF => by
    cases ps with
    | nil => cases hF; exact .nil
    | cons _ _ => simp at hlen
  | v :: vs, ys, ps, hlen, hP, hF => by
    cases ps with
    | nil => simp at hlen
    | cons p r =>
      obtain ⟨p', t, e1, e2⟩ := hP 0 v (List.getElem?_cons_zero ..)
      have e3 : p = p' := by simpa using e1
      subst e3; subst e2
      have ih := fun ys hF => ints_of_paired (n := n) (vs := vs) (ys := ys) r (by simpa using hlen) (fun j v hj => hP (j + 1) v hj) hF
      rw [List.filter_cons] at hF ⊢
      have e4 : bareP n (.int (p : Int) t) = (Txt.item n (p : Int) != Str.ofString "_") := rfl
      rw [e4] at hF
      cases hb : (Txt.item n (p : Int) != Str.ofString "_") with
      | true =>
        rw [hb] at hF
        simp only [if_true] at hF ⊢
        cases hF with
        | cons h1 h2 => subst h1; rw [List.map_cons]; exact .cons _ _ (ih _ h2)
      | false =>
        rw [hb] at hF
        simp only [Bool.false_eq_true, if_false] at hF ⊢
        exact ih _ hF
section
variable {prog : Program} {w : World} {A : Around} {E : Value → Shared → Prop} {s : Shared} {Q : Value → Shared → Prop}
set_option maxRecDepth 100000 in
set_option maxHeartbeats 8000000 in
theorem ends_pure {n : Str} {t : Tok} (G : Gd w s.heap) (hroom : A.depth < recursionLimit) (hh : A.handled = none) (hu : A.units + 100 < cLine) (hn : n.length ≤ 1000)
    (hQ : ∀ l t1 t2 s', Keeps s s' → s.heap.get? l = none → s'.heap.get? l = some { cls := .type "tuple", data := .seq #[.int (endsI n).1 t1, .int (endsI n).2 t2] } → Q (.ref l) s') : wpAny (model prog w) A (call (.ref 94) [.str n t]) Q E s := by
  obtain ⟨⟨p, loose, mean, mg, mb, T⟩, X⟩ := G
  refine wpAny_call (call_cells_ret hroom (X _ _ (by k_is)) rfl T.nolimit (codeRec_of X (by k_is)) rfl (kindsX rfl _) ?_)
  intro h₁ tk F C
  obtain ⟨oc, hoc, hcd⟩ := C.cell (Str.ofString "name") _ rfl
  have N : News s.heap s.heap.objs.size h₁ [(s.heap.objs.size + 1, oc)] := fun q hq => by
    rw [List.mem_singleton.mp hq]
    exact ⟨hoc, Nat.succ_ne_self _, Heap.get?_none_of_le (Nat.le_succ _)⟩
  w_on
  refine wpAny_execs_cons ?_
  refine wpAny_Assign_ListComp_free (cl := [(Str.ofString "name", s.heap.objs.size + 1)]) (bareP n) (fun v y => y = v) rfl rfl (by decide) rfl (by decide) (by decide) rfl rfl ?_
  repeat' (first | ((fail_if_success (with_reducible show wpAny _ _ (pyIter _) _ _ _)); first | (k_unfold; (try dsimp only)) | walk1))
  rename_i h2 tk2 t2 u2 v2 hR F2 N2 hk2
  refine wpAny_pyIter_range hR (small_one (by decide) (by decide) (by omega) (by omega)) ?_
  have hns := (F2.push { cls := .type "range_iterator", data := .fields #[rawInt 0, rawInt (Builtin.Range.rangeSize 0 n.length 1), rawInt 1] }).ns
  refine ⟨_, _, _, n.length, _, _, _, rfl, (LCg.range_walks (A := A.deeper _) hh 0 n.length).bound, Nat.le_trans hn (by decide), ?_, ?_, ?_, hns, ⟨?_, ?_⟩, ?_⟩
  · show IsRangeIter _ _ _ _ _
    rw [rangeSize_nat]
    simpa using Heap.get?_push_size _ rfl
  · intro b hb
    rw [List.mem_singleton.mp hb]
    show _ < (Heap.push _ _).objs.size
    rw [Heap.size_push]
    exact Nat.lt_succ_self _
  · exact fun hm => absurd F2.ns.lt ((List.mem_singleton.mp hm) ▸ Nat.lt_irrefl _)
  · intro C' i v s₃ m₃ E' hC hP hn' hm hk _
    have up : ∀ b o', h2.get? b = some o' → s₃.heap.get? b = some o' := fun b o' e => hk b o' (old_not_new e) (Heap.get?_push_of_some _ e)
    have hc : s₃.heap.IsCell (s.heap.objs.size + 1) (some (.str n t)) := ⟨oc, up _ _ (N2 _ (.head _)).1, hcd⟩
    obtain ⟨hi, u, rfl⟩ := hP
    refine wpAny_tests_one (wpAny_isTrue_Compare1 (Subscript_ (wpAny_Name (wpAny_loadName_cell rfl rfl (c := s.heap.objs.size + 1) rfl hc ?_) (by decide))))
    refine wpAny_Name (wpAny_loadName_local rfl rfl hn' hm ?_) (by decide)
    refine item_str (fitsSsize_of (N := 9223372036854775808) (by omega) (by omega) (Int.le_refl _)) (by omega) (by omega) fun _ => ?_
    refine Calls.Constant_str (ne_str (wpAny_truthy_bool ?_))
    exact ⟨rfl, ⟨_, _, rfl, fun _ _ e => e⟩⟩
  · intro C' i v s₃ m₃ E' hC hP _ hn' hm hk _
    refine wpAny_Name (wpAny_loadName_local rfl rfl hn' hm ?_) (by decide)
    exact ⟨rfl, ⟨_, _, rfl, fun _ _ e => e⟩⟩
  · intro D h' tk' ys vs hDn hl hpl hlen hP hF hns' hk
    have hI : IntsAre ys.toList (placesI n) := ints_of_paired (n := n) (List.range n.length) (by rw [hlen, List.length_range]) (fun j v hj => by
      obtain ⟨hj', u, e⟩ := hP j v hj
      exact ⟨j, u, by rw [List.getElem?_range hj'], by rw [e, Int.zero_add]⟩) hF
    have F3 : Fr s.heap s.heap.objs.size h' _ := ⟨hns', fun b o e => hk b o (Nat.ne_of_lt (Heap.lt_size e)) (old_not_new (F2.keep b o e)) (Heap.get?_push_of_some _ (F2.keep b o e)), F2.above⟩
    obtain ⟨kD, hkD⟩ := hpl
    have hD0 : s.heap.get? D = none := by
      cases e : s.heap.get? D with
      | none => rfl
      | some o' => rw [Heap.get?_push_of_some _ (F2.keep _ _ e)] at hDn; cases hDn
    have hDL : D ≠ s.heap.objs.size := fun e => by
      obtain ⟨o', _, _, ho', _⟩ := F2.ns
      rw [e, Heap.get?_push_of_some _ ho'] at hDn; cases hDn
    have N3 : News s.heap s.heap.objs.size h' [(D, { cls := .type "list", data := .seq ys.toList.toArray kD }), (s.heap.objs.size + 1, oc)] := fun q hq => by
      rcases List.mem_cons.mp hq with rfl | hq
      · exact ⟨hkD, hDL, hD0⟩
      · rw [List.mem_singleton.mp hq]
        have z := N2 _ (.head _)
        exact ⟨hk _ _ z.2.1 (old_not_new z.1) (Heap.get?_push_of_some _ z.1), z.2⟩
    clear hP hF hl hns hns' hk hk2 hR
    show wpAny _ _ (execs (Stmt.If _ _ _ _ :: _) _) _ _ _
    refine wpAny_execs_cons (wpAny_If (wpAny_isTrue_Compare1 (ldLoc F3 rfl ?_)))
    refine List_ (spliced_none ?_)
    refine newList_N F3 N3 ?_
    intro h4 F4 N4
    refine eq_intsK (News.isList N4 (.tail _ (.head _))) hI (News.isList N4 (.head _)) IntsAre.nil (by show A.units + 3 + 64 < cLine; omega) (wpAny_truthy_bool ?_)
    by_cases hp : placesI n = []
    · rw [decide_eq_true hp]
      simp only [if_true]
      k_steps
      rename_i hx F' N' l1
      have z := N' _ (.head _)
      refine hQ _ ?ta ?tb _ ⟨_, _, rfl, F'.keep⟩ z.2.2 ?e
      case' e =>
        rw [show endsI n = (0, 0) from by unfold endsI; rw [if_pos hp]]
        exact z.1
    · have hlen0 : 0 < (placesI n).length := List.length_pos_iff.mpr hp
      rw [decide_eq_false hp]
      simp only [Bool.false_eq_true, if_false]
      k_steps
      rename_i hx F' N' l1
      have z := N' _ (.head _)
      refine hQ _ ?tc ?td _ ⟨_, _, rfl, F'.keep⟩ z.2.2 ?e2
      case' e2 =>
        rw [show endsI n = _ from by unfold endsI; rw [if_neg hp]]
        exact z.1
end
end
/-! ### C5 -/
section
local macro_rules | `(tactic| walk_at "execs cons") => `(tactic| ((with_reducible refine gentoks ?_); intro tk9; (with_reducible refine wpAny_execs_cons ?_); try dsimp only))
local macro_rules | `(tactic| walk_at "ite") => `(tactic| first | with_reducible refine ite_tt ?_ | with_reducible refine ite_ff ?_ | with_reducible refine split_not ?_ | (with_reducible refine split_dec ?_ ?_ <;> intro _) | (with_reducible refine split_bool ?_ ?_ <;> intro _))
def cutP (n : Str) (i : Int) : Bool := Txt.slice n (some i) (some (i + 2)) == Str.ofString "__"
def cutV (n : Str) (v : Value) : Bool := match v with
  | .int i _ => cutP n i
  | _ => false
def noStretch (n : Str) : Bool := Txt.slice n none (some 1) != Str.ofString "_" || Txt.slice n (some (-2)) none == Str.ofString "__"
def cutsS (n : Str) (ps : List Nat) : List Str := (ps.filter fun (p : Nat) => cutP n (1 + (p : Int))).map fun (p : Nat) => Txt.slice n (some 1) (some (1 + (p : Int)))
def stretchS (n : Str) : List Str := if noStretch n = true then [] else cutsS n (List.range (((n.length : Int) - 2) - 1).toNat)
theorem strs_of_cuts {n : Str} : ∀ {vs ys : List Value} (ps : List Nat), vs.length = ps.length → (∀ (j : Nat) (v : Value), vs[j]? = some v → ∃ p t, ps[j]? = some p ∧ v = Value.int (1 + (p : Int)) t) →
    Paired (fun v y => ∃ i u u', v = Value.int i u ∧ y = Value.str (Txt.slice n (some 1) (some i)) u') (vs.filter (cutV n)) ys → StrsAre ys (cutsS n ps)
  | [], ys, ps, hlen, _, hF => by
    cases ps with
    | nil => cases hF; exact .nil
    | cons _ _ => simp at hlen
  | v :: vs, ys, ps, hlen, hP, hF => by
    cases ps with
    | nil => simp at hlen
    | cons p r =>
      obtain ⟨p', t, e1, e2⟩ := hP 0 v (List.getElem?_cons_zero ..)
      have e3 : p = p' := by simpa using e1
      subst e3; subst e2
      have ih := fun ys hF => strs_of_cuts (n := n) (vs := vs) (ys := ys) r (by simpa using hlen) (fun j v hj => hP (j + 1) v hj) hF
      unfold cutsS at ih ⊢
      rw [List.filter_cons] at hF ⊢
      have e4 : cutV n (.int (1 + (p : Int)) t) = cutP n (1 + (p : Int)) := rfl
      rw [e4] at hF
      cases hb : cutP n (1 + (p : Int)) with
      | true =>
        rw [hb] at hF
        simp only [if_true] at hF ⊢
        cases hF with
        | cons h1 h2 =>
          obtain ⟨i, u, u', a1, a2⟩ := h1
          have a3 := (Value.int.inj a1).1
          subst a3; subst a2; rw [List.map_cons]; exact .cons _ _ (ih _ h2)
      | false =>
        rw [hb] at hF
        simp only [Bool.false_eq_true, if_false] at hF ⊢
        exact ih _ hF
section
variable {prog : Program} {w : World} {A : Around} {E : Value → Shared → Prop} {s : Shared} {Q : Value → Shared → Prop}
theorem slice_ssK {value slice : Expr} {x : Str} {t : Tok} {i j : Int} {ui uj : Tok} (hsz : x.length ≤ sizeLine)
    (h : ∀ h' t' k, (∀ b o, s.heap.get? b = some o → h'.get? b = some o) → Q (.str (Txt.slice x (some i) (some j)) t') { s with heap := h', toks := k })
    (hs : subscripted slice false (.str x t) (.ref s.heap.objs.size) = operate [.ref s.heap.objs.size, .str x t] (getItem (.str x t) (.ref s.heap.objs.size)) := by with_unfolding_all rfl)
    (ht : ∀ r, letTemporaryGo value (.str x t) r = pure () := by intro _; with_unfolding_all rfl) :
    wpAny (model prog w) A (subscriptTail value slice (.str x t) (.ref s.heap.objs.size)) Q E { s with heap := s.heap.push { cls := .type "slice", data := .fields #[.int i ui, .int j uj, .none] } } :=
  tail_of_ItemOn (SBH.sliceItem_ss (P := fun h' => ∀ b o, s.heap.get? b = some o → h'.get? b = some o) (fun _ _ p b o e => Heap.get?_push_of_some _ (p b o e)) (fun _ _ e => e) h hsz) hs ht
set_option maxRecDepth 100000 in
set_option maxHeartbeats 8000000 in
theorem stretches_pure {n : Str} {t : Tok} (G : Gd w s.heap) (hroom : A.depth < recursionLimit) (hh : A.handled = none) (hn : n.length ≤ 1000)
    (hQ : ∀ l ys k s', Keeps s s' → s.heap.get? l = none → s'.heap.get? l = some { cls := .type "list", data := .seq ys k } → StrsAre ys.toList (stretchS n) → Q (.ref l) s') : wpAny (model prog w) A (call (.ref 99) [.str n t]) Q E s := by
  obtain ⟨⟨p, loose, mean, mg, mb, T⟩, X⟩ := G
  refine wpAny_call (call_cells_ret hroom (X _ _ (by k_is)) rfl T.nolimit (codeRec_of X (by k_is)) rfl (kindsX rfl _) ?_)
  intro h₁ tk F C
  obtain ⟨oc, hoc, hcd⟩ := C.cell (Str.ofString "name") _ rfl
  have N : News s.heap s.heap.objs.size h₁ [(s.heap.objs.size + 1, oc)] := fun q hq => by
    rw [List.mem_singleton.mp hq]
    exact ⟨hoc, Nat.succ_ne_self _, Heap.get?_none_of_le (Nat.le_succ _)⟩
  w_on
  repeat' (first | ((fail_if_success (with_reducible show wpAny _ _ (eval (Expr.ListComp _ _ _ _) _) _ _ _)); first | (k_unfold; (try dsimp only)) | walk1))
  · rename_i hA tk9 l' h' F' N' l1
    have z := N' _ (.head _)
    refine hQ _ _ _ _ ⟨_, _, rfl, F'.keep⟩ z.2.2 z.1 ?_
    unfold stretchS noStretch
    rw [hA, Bool.true_or, if_pos rfl]
    exact .nil
  · rename_i hA tk9 l' h' F' N' l1
    have z := N' _ (.head _)
    refine hQ _ _ _ _ ⟨_, _, rfl, F'.keep⟩ z.2.2 z.1 ?_
    unfold stretchS noStretch
    rw [hA, Bool.or_true, if_pos rfl]
    exact .nil
  · rename_i hA h2 t2 k2 F2 N2 hle hB tk9
    refine wpAny_ListComp_free (cl := [(Str.ofString "name", s.heap.objs.size + 1)]) (cutV n) (fun v y => ∃ i u u', v = Value.int i u ∧ y = Value.str (Txt.slice n (some 1) (some i)) u') rfl (by decide) rfl (by decide) (by decide) ?_
    repeat' (first | ((fail_if_success (with_reducible show wpAny _ _ (pyIter _) _ _ _)); first | (k_unfold; (try dsimp only)) | walk1))
    rename_i h3 tk3 t3 u3 v3 hR F3 N3 hk3
    refine wpAny_pyIter_range hR (small_one (by decide) (by decide) (by omega) (by omega)) ?_
    refine ⟨_, _, _, _, _, _, rfl, (LCg.range_walks (A := A.deeper _) hh 1 (((n.length : Int) - 2) - 1).toNat).bound, Nat.le_trans (by omega) (Nat.le_trans hn (by decide)), ?_, ?_, ⟨?_, ?_⟩, ?_⟩
    · show IsRangeIter _ _ _ _ _
      rw [rangeSize_nat]
      simpa using Heap.get?_push_size _ rfl
    · intro b hb
      rw [List.mem_singleton.mp hb]
      show _ < (Heap.push _ _).objs.size
      rw [Heap.size_push]
      exact Nat.lt_succ_self _
    · intro C' i v s₃ m₃ E' hC hP hn' hm hk _
      have up : ∀ b o', h3.get? b = some o' → s₃.heap.get? b = some o' := fun b o' e => hk b o' (old_not_new e) (Heap.get?_push_of_some _ e)
      have hc : s₃.heap.IsCell (s.heap.objs.size + 1) (some (.str n t)) := ⟨oc, up _ _ (N3 _ (.head _)).1, hcd⟩
      obtain ⟨hi, u, rfl⟩ := hP
      refine wpAny_tests_one (wpAny_isTrue_Compare1 (Subscript_ (wpAny_Name (wpAny_loadName_cell rfl rfl (c := s.heap.objs.size + 1) rfl hc ?_) (by decide))))
      refine wpAny_Slice (evalPart_some_step (wpAny_Name (wpAny_loadName_local rfl rfl hn' hm ?_) (by decide)))
      refine evalPart_some_step (wpAny_BinOp (wpAny_Name (wpAny_loadName_local rfl rfl hn' hm ?_) (by decide)))
      refine wpAny_Constant_int (add_int (evalPart_none_step ?_))
      refine slice_ssK (Nat.le_trans hn (by decide)) fun h5 t5 k5 hk5 => ?_
      refine Calls.Constant_str (eq_str (wpAny_truthy_bool ?_))
      exact ⟨rfl, ⟨_, _, rfl, hk5⟩⟩
    · intro C' i v s₃ m₃ E' hC hP _ hn' hm hk _
      have up : ∀ b o', h3.get? b = some o' → s₃.heap.get? b = some o' := fun b o' e => hk b o' (old_not_new e) (Heap.get?_push_of_some _ e)
      have hc : s₃.heap.IsCell (s.heap.objs.size + 1) (some (.str n t)) := ⟨oc, up _ _ (N3 _ (.head _)).1, hcd⟩
      obtain ⟨hi, u, rfl⟩ := hP
      refine Subscript_ (wpAny_Name (wpAny_loadName_cell rfl rfl (c := s.heap.objs.size + 1) rfl hc ?_) (by decide))
      refine wpAny_Slice (evalPart_some_step (wpAny_Constant_int ?_))
      refine evalPart_some_step (wpAny_Name (wpAny_loadName_local rfl rfl hn' hm ?_) (by decide))
      refine evalPart_none_step ?_
      refine slice_ssK (Nat.le_trans hn (by decide)) fun h5 t5 k5 hk5 => ?_
      exact ⟨⟨_, _, _, rfl, rfl⟩, ⟨_, _, rfl, hk5⟩⟩
    · intro D h' tk' ys vs hDn hl hpl hlen hP hF hk
      obtain ⟨kD, hkD⟩ := hpl
      have hD0 : s.heap.get? D = none := by
        cases e : s.heap.get? D with
        | none => rfl
        | some o' => rw [Heap.get?_push_of_some _ (F3.keep _ _ e)] at hDn; cases hDn
      refine hQ D ys kD _ ⟨_, _, rfl, fun b o e => hk b o (old_not_new (F3.keep b o e)) (Heap.get?_push_of_some _ (F3.keep b o e))⟩ hD0 hkD ?_
      unfold stretchS noStretch
      rw [hA, hB, Bool.or_false, if_neg Bool.false_ne_true]
      exact strs_of_cuts (List.range (((n.length : Int) - 2) - 1).toNat) (by rw [hlen, List.length_range]) (fun j v hj => by
        obtain ⟨hj', u, e⟩ := hP j v hj
        exact ⟨j, u, by rw [List.getElem?_range hj'], e⟩) hF
end
end
/-! ### C6 -/
section
local macro_rules | `(tactic| walk_at "execs cons") => `(tactic| ((with_reducible refine gentoks ?_); intro tk9; (with_reducible refine wpAny_execs_cons ?_); try dsimp only))
def strOf (v : Value) : Option Str := match v with
  | .str r _ => some r
  | _ => none
/-- the dict says the i-th table -/
def Says (i : Nat) (kvs : List (Str × Value)) : Prop := (kvs.map fun p => (p.1, strOf p.2)) = (tabS i).map fun p => ((⟨#[p.1]⟩ : Str), some p.2)
theorem five {α : Type} {P : α → Prop} {a b c d e : α} (ha : P a) (hb : P b) (hc : P c) (hd : P d) (he : P e) : ∀ p ∈ [a, b, c, d, e], P p := by
  intro p hp
  simp only [List.mem_cons, List.not_mem_nil, or_false] at hp
  rcases hp with rfl | rfl | rfl | rfl | rfl <;> assumption
section
variable {prog : Program} {w : World} {A : Around} {E : Value → Shared → Prop} {s : Shared} {Q : Value → Shared → Prop}
set_option maxRecDepth 100000 in
set_option maxHeartbeats 8000000 in
theorem tables_pure (G : Gd w s.heap) (hroom : A.depth < recursionLimit)
    (hQ : ∀ l d0 d1 d2 d3 d4 o0 o1 o2 o3 o4 k0 k1 k2 k3 k4 s', Keeps s s' → s.heap.get? l = none → s'.heap.get? l = some { cls := .type "list", data := .seq #[.ref d0, .ref d1, .ref d2, .ref d3, .ref d4] } →
      (∀ p ∈ [(d0, o0), (d1, o1), (d2, o2), (d3, o3), (d4, o4)], s.heap.get? p.1 = none ∧ s'.heap.get? p.1 = some p.2 ∧ (p.1 == sysModules) = false) →
      (o0.IsDictOf (PySem.strKind prog w) k0 ∧ Says 0 k0) ∧ (o1.IsDictOf (PySem.strKind prog w) k1 ∧ Says 1 k1) ∧ (o2.IsDictOf (PySem.strKind prog w) k2 ∧ Says 2 k2) ∧ (o3.IsDictOf (PySem.strKind prog w) k3 ∧ Says 3 k3) ∧ (o4.IsDictOf (PySem.strKind prog w) k4 ∧ Says 4 k4) → Q (.ref l) s') :
    wpAny (model prog w) A (call (.ref 84) []) Q E s := by
  obtain ⟨⟨p, loose, mean, mg, mb, T⟩, X⟩ := G
  refine wpAny_call (call_plain_ret hroom (X _ _ (by k_is)) rfl T.nolimit (codeRec_of X (by k_is)) rfl (locs rfl) ?_)
  intro h₁ F
  have N : News s.heap s.heap.objs.size h₁ [] := News.nil
  w_on
  k_steps
  rename_i hx F' N' l1
  have z := N' _ (.head _)
  have z4 := N' _ (.tail _ (.head _))
  have z3 := N' _ (.tail _ (.tail _ (.head _)))
  have z2 := N' _ (.tail _ (.tail _ (.tail _ (.head _))))
  have z1 := N' _ (.tail _ (.tail _ (.tail _ (.tail _ (.head _)))))
  have z0 := N' _ (.tail _ (.tail _ (.tail _ (.tail _ (.tail _ (.head _))))))
  refine hQ _ _ _ _ _ _ _ _ _ _ _ _ _ _ _ _ _ ⟨_, _, rfl, F'.keep⟩ z.2.2 z.1 (five ⟨z0.2.2, z0.1, by assumption⟩ ⟨z1.2.2, z1.1, by assumption⟩ ⟨z2.2.2, z2.1, by assumption⟩ ⟨z3.2.2, z3.1, by assumption⟩ ⟨z4.2.2, z4.1, by assumption⟩)
    ⟨⟨by assumption, ?_⟩, ⟨by assumption, ?_⟩, ⟨by assumption, ?_⟩, ⟨by assumption, ?_⟩, ⟨by assumption, ?_⟩⟩
  all_goals (unfold Says; rfl)
end
end
/-! ### L1 -/
section
/-! the law's own statements, taken out of the program -/
def noStmt : Stmt := .Pass ⟨0, 0, 0, 0⟩
def lawDef : Stmt := PySem.Challenge.pw_nb0148_01.main.body.getD 16 noStmt
def lawBody : List Stmt := match lawDef with | .FunctionDef _ _ b _ _ _ _ _ _ _ => b | _ => []
def lawScope : Scope := match lawDef with | .FunctionDef _ _ _ _ _ _ sc _ _ _ => sc | _ => ⟨.function, [], false, false, []⟩
def forBody : List Stmt := match lawBody.getD 4 noStmt with | .For _ _ b _ _ => b | _ => []
def bst (i : Nat) : Stmt := forBody.getD i noStmt
def lawEnv (L fa : Addr) (cd : Value) : Env := envOfC (Str.ofString "law") lawScope L fa cd
theorem forBody_eq : forBody = [bst 0, bst 1, bst 2, bst 3, bst 4, bst 5, bst 6, bst 7, bst 8, bst 9, bst 10, bst 11, bst 12] := rfl

def upd (m : Str → Option Value) (x : Str) (v : Value) : Str → Option Value := fun y => if y = x then some v else m y
theorem upd_self {m : Str → Option Value} {x : Str} {v : Value} : upd m x v x = some v := if_pos rfl
theorem upd_ne {m : Str → Option Value} {x y : Str} {v : Value} (h : (y == x) = false) : upd m x v y = m y := if_neg (by simpa using h)
abbrev lst0 (vs : List Value) : Obj := { cls := .type "list", data := .seq vs.toArray 0 }
/-- the law's frame: its locals, its one cell, its ledger -/
structure LS (h₀ : Heap) (L c : Addr) (h : Heap) (m : Str → Option Value) (cv : Option Value) (news : List (Addr × Obj)) : Prop where
  fr : Fr h₀ L h m
  nw : News h₀ L h news
  off : ∀ p ∈ news, p.1 ≠ c
  cell : h.IsCell c cv
  cL : c ≠ L
  c0 : h₀.get? c = none
section
variable {h₀ h h' : Heap} {L c : Addr} {m : Str → Option Value} {cv : Option Value} {news : List (Addr × Obj)}
theorem LS.keeps (S : LS h₀ L c h m cv news) (k : ∀ b o, h.get? b = some o → h'.get? b = some o) : LS h₀ L c h' m cv news :=
  ⟨S.fr.keeps k, S.nw.grown k, S.off, S.cell.keeps k, S.cL, S.c0⟩
theorem LS.add (S : LS h₀ L c h m cv news) (k : ∀ b o, h.get? b = some o → h'.get? b = some o) {l : Addr} {o : Obj} (hl : h.get? l = none) (ho : h'.get? l = some o) : LS h₀ L c h' m cv ((l, o) :: news) := by
  have lL : l ≠ L := fun e => by obtain ⟨o', _, _, ho', _⟩ := S.fr.ns; rw [e, ho'] at hl; cases hl
  have lc : l ≠ c := fun e => by obtain ⟨o', ho', _⟩ := S.cell; rw [e, ho'] at hl; cases hl
  refine ⟨S.fr.keeps k, fun p hp => ?_, fun p hp => ?_, S.cell.keeps k, S.cL, S.c0⟩
  · rcases List.mem_cons.mp hp with rfl | hp
    · refine ⟨ho, lL, ?_⟩
      cases e : h₀.get? l with
      | none => rfl
      | some o' => rw [S.fr.keep _ _ e] at hl; cases hl
    · exact S.nw.grown k p hp
  · rcases List.mem_cons.mp hp with rfl | hp
    · exact lc
    · exact S.off p hp
theorem LS.set (S : LS h₀ L c h m cv news) {m' : Str → Option Value} (hn : h'.Ns L m') (hs : Heap.SameBut L h h') : LS h₀ L c h' m' cv news :=
  ⟨S.fr.set hn hs, S.nw.set hs, S.off, S.cell.sameBut hs S.cL, S.cL, S.c0⟩
theorem LS.setC (S : LS h₀ L c h m cv news) {v : Option Value} (hv : h'.IsCell c v) (hs : Heap.SameBut c h h') : LS h₀ L c h' m v news :=
  ⟨S.fr.change hs S.cL S.c0, fun p hp => ⟨(hs.2 p.1 (S.off p hp)).trans (S.nw p hp).1, (S.nw p hp).2⟩, S.off, hv, S.cL, S.c0⟩
theorem LS.isList (S : LS h₀ L c h m cv news) {l : Addr} {vs : List Value} {k : Nat} (hm : (l, ({ cls := .type "list", data := .seq vs.toArray k } : Obj)) ∈ news) : h.IsList l vs.toArray := News.isList S.nw hm
end
section
variable {prog : Program} {w : World} {A : Around} {E : Value → Shared → Prop} {s : Shared} {h₀ : Heap} {L c fa : Addr} {m : Str → Option Value} {cv : Option Value} {news : List (Addr × Obj)} {cd : Value}
theorem st_loc {x : Str} {v : Value} {Q : Unit → Shared → Prop} (S : LS h₀ L c s.heap m cv news) (hx : (lawEnv L fa cd).kindOf x = some .local) (h : ∀ h' tk, LS h₀ L c h' (upd m x v) cv news → Q () { s with heap := h', toks := tk }) :
    wpAny (model prog w) A (storeName (lawEnv L fa cd) x v) Q E s :=
  wpAny_storeName_local hx S.fr.ns (fun h' hn hs => h h' _ (S.set hn hs)) rfl
theorem ld_loc {x : Str} {v : Value} {pos : Pos} {Q : Value → Shared → Prop} (S : LS h₀ L c s.heap m cv news) (hx : (lawEnv L fa cd).kindOf x = some .local) (hd : (x == ("__debug__" : Str)) = false) (hv : m x = some v) (h : Q v s) :
    wpAny (model prog w) A (eval (.Name x pos) (lawEnv L fa cd)) Q E s := wpAny_Name (wpAny_loadName_local rfl hx S.fr.ns hv h) hd
end
end
/-! ### L2 -/
section
section
variable {L fa : Addr} {cd : Value}
theorem kx : (lawEnv L fa cd).kindOf (Str.ofString "x") = some .local := rfl
theorem kname : (lawEnv L fa cd).kindOf (Str.ofString "name") = some .local := rfl
theorem kowners : (lawEnv L fa cd).kindOf (Str.ofString "owners") = some .local := rfl
theorem krests : (lawEnv L fa cd).kindOf (Str.ofString "rests") = some .local := rfl
theorem ktables : (lawEnv L fa cd).kindOf (Str.ofString "tables") = some .local := rfl
theorem kwriters : (lawEnv L fa cd).kindOf (Str.ofString "writers") = some .local := rfl
theorem kwriter : (lawEnv L fa cd).kindOf (Str.ofString "writer") = some .local := rfl
theorem ktable : (lawEnv L fa cd).kindOf (Str.ofString "table") = some .cell := rfl
end
section
variable {prog : Program} {w : World} {A : Around} {E : Value → Shared → Prop} {s : Shared} {h₀ : Heap} {L c fa : Addr} {m : Str → Option Value} {cv : Option Value} {news : List (Addr × Obj)} {cd : Value} {Q : Flow → Shared → Prop}
/-- an item of a list of texts at a small place -/
theorem item_texts {value slice : Expr} {l : Addr} {vs : List Value} {ys : List Str} {k : Int} {u : Tok} {Q : Value → Shared → Prop} (hl : s.heap.IsList l vs.toArray) (hi : StrsAre vs ys)
    (h0 : 0 ≤ k) (h1 : k < ys.length) (hfit : k < 2 ^ 63) (h : ∀ y ∈ ys, ∀ t, Q (.str y t) s)
    (hs : subscripted slice false (.ref l) (.int k u) = operate [.ref l, .int k u] (getItem (.ref l) (.int k u)) := by with_unfolding_all rfl) :
    wpAny (model prog w) A (subscriptTail value slice (.ref l) (.int k u)) Q E s := by
  have key : ∀ {vs : List Value} {ys : List Str}, StrsAre vs ys → ∀ j, j < ys.length → ∃ y ∈ ys, ∃ t, vs[j]? = some (.str y t) := by
    intro vs ys hi
    induction hi with
    | nil => intro j hj; simp at hj
    | cons y t _ ih =>
      intro j hj
      cases j with
      | zero => exact ⟨y, List.mem_cons_self, t, rfl⟩
      | succ j =>
        obtain ⟨y', hy', t', e⟩ := ih j (by simpa using hj)
        exact ⟨y', List.mem_cons_of_mem _ hy', t', by simpa using e⟩
  obtain ⟨y, hy, t, e⟩ := key hi k.toNat (by omega)
  exact tail_any hl.typeIs slot_list_getitem.lookup (wpAny_getItem_list hl h0 hfit (by simpa using e) (h y hy t)) hs
theorem under_ok {n : Int} (h0 : 0 ≤ n) (h1 : n < 4) : MulOk (Str.ofString "_") n := by
  obtain rfl | rfl | rfl | rfl : n = 0 ∨ n = 1 ∨ n = 2 ∨ n = 3 := by omega
  all_goals (unfold MulOk; decide +kernel)
theorem under_len {n : Int} (h1 : n < 4) : (Txt.mul (Str.ofString "_") n).length ≤ 3 := len_mul_one (c := 95) (by decide +kernel) (by omega)
/-- «'_' * (place)» -/
theorem mod4 (a : Int) : 0 ≤ a.fmod 4 ∧ a.fmod 4 < 4 := (fdiv_fmod_facts a 4).2.2.1 (by decide)
theorem mod5 (a : Int) : 0 ≤ a.fmod 5 ∧ a.fmod 5 < 5 := (fdiv_fmod_facts a 5).2.2.1 (by decide)
theorem mod7 (a : Int) : 0 ≤ a.fmod 7 ∧ a.fmod 7 < 7 := (fdiv_fmod_facts a 7).2.2.1 (by decide)
theorem sizeLe {k : Nat} (h : k ≤ 1000000) : k ≤ sizeLine := Nat.le_trans h (by decide)
set_option maxRecDepth 100000 in
set_option maxHeartbeats 4000000 in
theorem b0 {n : Int} {t : Tok} {ol : Addr} {ov : List Value} {os : List Str} (S : LS h₀ L c s.heap m cv news) (hx : m (Str.ofString "x") = some (.int n t))
    (ho : m (Str.ofString "owners") = some (.ref ol)) (hol : (ol, lst0 ov) ∈ news) (hos : StrsAre ov os) (hlen : os.length = 7) (hle : ∀ y ∈ os, y.length ≤ 5)
    (H : ∀ h' tk y t', y.length ≤ 11 → LS h₀ L c h' (upd m (Str.ofString "name") (.str y t')) cv news → Q .next { s with heap := h', toks := tk }) :
    wpAny (model prog w) A (exec (bst 0) (lawEnv L fa cd)) Q E s := by
  show wpAny _ _ (exec (Stmt.Assign _ _ _) _) _ _ _
  refine wpAny_Assign_Name ?_
  refine wpAny_BinOp (wpAny_BinOp (wpAny_BinOp (Calls.Constant_str ?_)))
  refine wpAny_BinOp (ld_loc S kx (by decide) hx (wpAny_Constant_int (mod_int' (by decide) ?_)))
  refine SB.mul (under_ok (mod4 n).1 (mod4 n).2) fun t1 k1 => ?_
  have l1 := under_len (mod4 n).2
  refine Subscript_ (ld_loc S kowners (by decide) ho ?_)
  refine wpAny_BinOp (wpAny_BinOp (ld_loc S kx (by decide) hx (wpAny_Constant_int (floordiv_int (by decide) ?_ (.inl (PyProof.noPylong_small (by decide)))))))
  refine wpAny_Constant_int (mod_int' (by decide) ?_)
  refine item_texts (S.isList hol) hos (mod7 _).1 (by rw [hlen]; exact (mod7 _).2) (Int.lt_trans (mod7 _).2 (by decide)) fun y hy t2 => ?_
  have l2 := hle y hy
  refine add_str (fun t3 k3 => ?_) (sizeLe (by omega))
  refine wpAny_BinOp (Calls.Constant_str ?_)
  refine wpAny_BinOp (wpAny_BinOp (ld_loc S kx (by decide) hx (wpAny_Constant_int (floordiv_int (by decide) ?_ (.inl (PyProof.noPylong_small (by decide)))))))
  refine wpAny_Constant_int (mod_int' (by decide) ?_)
  refine SB.mul (under_ok (mod4 _).1 (mod4 _).2) fun t4 k4 => ?_
  have l3 := under_len (mod4 (n.fdiv 28)).2
  refine add_str (fun t5 k5 => ?_) (sizeLe (by rw [Str.length_append]; omega))
  refine st_loc S kname fun h' tk S' => ?_
  exact H _ _ _ _ (by rw [Str.length_append, Str.length_append]; omega) S'
set_option maxRecDepth 100000 in
set_option maxHeartbeats 4000000 in
theorem b1 {n : Int} {t t0 : Tok} {y0 : Str} {rl : Addr} {rv : List Value} {rs : List Str} (S : LS h₀ L c s.heap m cv news) (hx : m (Str.ofString "x") = some (.int n t)) (hn : m (Str.ofString "name") = some (.str y0 t0)) (hy0 : y0.length ≤ 11)
    (ho : m (Str.ofString "rests") = some (.ref rl)) (hol : (rl, lst0 rv) ∈ news) (hos : StrsAre rv rs) (hlen : rs.length = 4) (hle : ∀ y ∈ rs, y.length ≤ 4)
    (H : ∀ h' tk y t', y.length ≤ 18 → LS h₀ L c h' (upd m (Str.ofString "name") (.str y t')) cv news → Q .next { s with heap := h', toks := tk }) :
    wpAny (model prog w) A (exec (bst 1) (lawEnv L fa cd)) Q E s := by
  show wpAny _ _ (exec (Stmt.Assign _ _ _) _) _ _ _
  refine wpAny_Assign_Name ?_
  refine wpAny_BinOp (wpAny_BinOp (ld_loc S kname (by decide) hn ?_))
  refine Subscript_ (ld_loc S krests (by decide) ho ?_)
  refine wpAny_BinOp (wpAny_BinOp (ld_loc S kx (by decide) hx (wpAny_Constant_int (floordiv_int (by decide) ?_ (.inl (PyProof.noPylong_small (by decide)))))))
  refine wpAny_Constant_int (mod_int' (by decide) ?_)
  refine item_texts (S.isList hol) hos (mod4 _).1 (by rw [hlen]; exact (mod4 _).2) (Int.lt_trans (mod4 _).2 (by decide)) fun y hy t2 => ?_
  have l2 := hle y hy
  refine add_str (fun t3 k3 => ?_) (sizeLe (by omega))
  refine wpAny_BinOp (Calls.Constant_str ?_)
  refine wpAny_BinOp (wpAny_BinOp (ld_loc S kx (by decide) hx (wpAny_Constant_int (floordiv_int (by decide) ?_ (.inl (PyProof.noPylong_small (by decide)))))))
  refine wpAny_Constant_int (mod_int' (by decide) ?_)
  refine SB.mul (under_ok (mod4 _).1 (mod4 _).2) fun t4 k4 => ?_
  have l3 := under_len (mod4 (n.fdiv 448)).2
  refine add_str (fun t5 k5 => ?_) (sizeLe (by rw [Str.length_append]; omega))
  refine st_loc S kname fun h' tk S' => ?_
  exact H _ _ _ _ (by rw [Str.length_append, Str.length_append]; omega) S'
/-- the place of the writer and of its table -/
def wi (n : Int) : Nat := ((n.fdiv 1792).fmod 5).toNat
theorem wi_lt (n : Int) : wi n < 5 := by
  have := mod5 (n.fdiv 1792)
  unfold wi; omega
theorem item_any {value slice : Expr} {l : Addr} {vs : List Value} {v : Value} {k : Int} {u : Tok} {Q : Value → Shared → Prop} (hl : s.heap.IsList l vs.toArray)
    (h0 : 0 ≤ k) (hfit : k < 2 ^ 63) (hv : vs[k.toNat]? = some v) (h : Q v s)
    (hs : subscripted slice false (.ref l) (.int k u) = operate [.ref l, .int k u] (getItem (.ref l) (.int k u)) := by with_unfolding_all rfl) :
    wpAny (model prog w) A (subscriptTail value slice (.ref l) (.int k u)) Q E s :=
  tail_any hl.typeIs slot_list_getitem.lookup (wpAny_getItem_list hl h0 hfit (by simpa using hv) h) hs
theorem st_cell {v : Value} {Q : Unit → Shared → Prop} (hc : c = L + 1) (S : LS h₀ L c s.heap m cv news) (h : ∀ h' tk, LS h₀ L c h' m (some v) news → Q () { s with heap := h', toks := tk }) :
    wpAny (model prog w) A (storeName (lawEnv L fa cd) (Str.ofString "table") v) Q E s := by
  subst hc
  exact wpAny_storeName_cell rfl ktable (c := L + 1) rfl S.cell fun h' hv hs => h h' _ (S.setC hv hs)
theorem ld_cell {v : Value} {pos : Pos} {Q : Value → Shared → Prop} (hc : c = L + 1) (S : LS h₀ L c s.heap m (some v) news) (h : Q v s) :
    wpAny (model prog w) A (eval (.Name (Str.ofString "table") pos) (lawEnv L fa cd)) Q E s := by
  subst hc
  exact wpAny_Name (wpAny_loadName_cell rfl ktable (c := L + 1) rfl S.cell h) (by decide)
set_option maxRecDepth 100000 in
set_option maxHeartbeats 4000000 in
theorem b2 {n : Int} {t : Tok} {tl : Addr} {tv : List Value} {v : Value} (hc : c = L + 1) (S : LS h₀ L c s.heap m cv news) (hx : m (Str.ofString "x") = some (.int n t))
    (ho : m (Str.ofString "tables") = some (.ref tl)) (hol : (tl, lst0 tv) ∈ news) (hv : tv[wi n]? = some v)
    (H : ∀ h' tk, LS h₀ L c h' m (some v) news → Q .next { s with heap := h', toks := tk }) :
    wpAny (model prog w) A (exec (bst 2) (lawEnv L fa cd)) Q E s := by
  show wpAny _ _ (exec (Stmt.Assign _ _ _) _) _ _ _
  refine wpAny_Assign_Name ?_
  refine Subscript_ (ld_loc S ktables (by decide) ho ?_)
  refine wpAny_BinOp (wpAny_BinOp (ld_loc S kx (by decide) hx (wpAny_Constant_int (floordiv_int (by decide) ?_ (.inl (PyProof.noPylong_small (by decide)))))))
  refine wpAny_Constant_int (mod_int' (by decide) ?_)
  refine item_any (S.isList hol) (mod5 _).1 (Int.lt_trans (mod5 _).2 (by decide)) hv ?_
  exact st_cell hc S fun h' tk S' => H _ _ S'
set_option maxRecDepth 100000 in
set_option maxHeartbeats 4000000 in
theorem b3 {n : Int} {t : Tok} {wl : Addr} {wv : List Value} {v : Value} (S : LS h₀ L c s.heap m cv news) (hx : m (Str.ofString "x") = some (.int n t))
    (ho : m (Str.ofString "writers") = some (.ref wl)) (hol : (wl, lst0 wv) ∈ news) (hv : wv[wi n]? = some v)
    (H : ∀ h' tk, LS h₀ L c h' (upd m (Str.ofString "writer") v) cv news → Q .next { s with heap := h', toks := tk }) :
    wpAny (model prog w) A (exec (bst 3) (lawEnv L fa cd)) Q E s := by
  show wpAny _ _ (exec (Stmt.Assign _ _ _) _) _ _ _
  refine wpAny_Assign_Name ?_
  refine Subscript_ (ld_loc S kwriters (by decide) ho ?_)
  refine wpAny_BinOp (wpAny_BinOp (ld_loc S kx (by decide) hx (wpAny_Constant_int (floordiv_int (by decide) ?_ (.inl (PyProof.noPylong_small (by decide)))))))
  refine wpAny_Constant_int (mod_int' (by decide) ?_)
  refine item_any (S.isList hol) (mod5 _).1 (Int.lt_trans (mod5 _).2 (by decide)) hv ?_
  exact st_loc S kwriter fun h' tk S' => H _ _ S'
end
end
/-! ### L3 -/
section
section
variable {L fa : Addr} {cd : Value}
theorem kwritten : (lawEnv L fa cd).kindOf (Str.ofString "written") = some .local := rfl
theorem kstretches : (lawEnv L fa cd).kindOf (Str.ofString "stretches") = some .local := rfl
theorem kpapers : (lawEnv L fa cd).kindOf (Str.ofString "papers") = some .local := rfl
theorem kgwritten : (lawEnv L fa cd).kindOf (Str.ofString "_law_written") = some .globalImplicit := rfl
theorem kgstretches : (lawEnv L fa cd).kindOf (Str.ofString "_law_stretches") = some .globalImplicit := rfl
end
def wa : Nat → Addr
  | 0 => 49
  | 1 => 56
  | 2 => 63
  | 3 => 70
  | _ => 77
theorem keep_wa {P : Params} : ∀ i, i < 5 → keepIn (hd.heap_39 P) (.ref (wa i)) = true
  | 0, _ => by show keepIn (hd.heap_39 P) (.ref 49) = true; k_is
  | 1, _ => by show keepIn (hd.heap_39 P) (.ref 56) = true; k_is
  | 2, _ => by show keepIn (hd.heap_39 P) (.ref 63) = true; k_is
  | 3, _ => by show keepIn (hd.heap_39 P) (.ref 70) = true; k_is
  | 4, _ => by show keepIn (hd.heap_39 P) (.ref 77) = true; k_is
section
variable {prog : Program} {w : World} {A : Around} {E : Value → Shared → Prop} {s : Shared} {h₀ : Heap} {L c fa : Addr} {m : Str → Option Value} {cv : Option Value} {news : List (Addr × Obj)} {cd : Value}
theorem Gd.at (G : Gd w h₀) (S : LS h₀ L c s.heap m cv news) : Gd w s.heap := G.keeps S.fr.keep
theorem writer_pure {Q : Value → Shared → Prop} {i : Nat} {n : Str} {t' : Tok} (hi : i < 5) (G : Gd w s.heap) (hroom : A.depth < recursionLimit) (hn : n.length ≤ 40)
    (hQ : ∀ tk s', Keeps s s' → Q (.str (escS i n) tk) s') : wpAny (model prog w) A (call (.ref (wa i)) [.str n t']) Q E s := by
  match i, hi with
  | 0, _ => exact esc0_pure G hroom hn hQ
  | 1, _ => exact esc1_pure G hroom hn hQ
  | 2, _ => exact esc2_pure G hroom hn hQ
  | 3, _ => exact esc3_pure G hroom hn hQ
  | 4, _ => exact esc4_pure G hroom hn hQ
theorem ld_glob {x : Str} {v : Value} {pos : Pos} {Q : Value → Shared → Prop} (G : Gd w h₀) (S : LS h₀ L c s.heap m cv news) (e : nsIn (hd.heap_39 w.params) mainGlobals x = some (some v))
    (hx : (lawEnv L fa cd).kindOf x = some .globalImplicit) (hb : (x == ("__debug__" : Str)) = false) (h : Q v s) :
    wpAny (model prog w) A (eval (.Name x pos) (lawEnv L fa cd)) Q E s := by
  obtain ⟨⟨p, loose, mean, mg, mb, T⟩, X⟩ := G
  exact PySem.Calls.Name_function_global rfl hx (PySem.Calls.loadGlobal_global (T.g.keeps S.fr.keep) (mg_of X T.g e) h) hb
theorem ld_bi {x : Str} {v : Value} {pos : Pos} {Q : Value → Shared → Prop} (G : Gd w h₀) (S : LS h₀ L c s.heap m cv news) (e : nsIn (hd.heap_39 w.params) mainGlobals x = some none) (hv : bootBuiltins x = some v) (hn : x ≠ "__name__")
    (hx : (lawEnv L fa cd).kindOf x = some .globalImplicit) (hb : (x == ("__debug__" : Str)) = false) (h : Q v s) :
    wpAny (model prog w) A (eval (.Name x pos) (lawEnv L fa cd)) Q E s := by
  obtain ⟨⟨p, loose, mean, mg, mb, T⟩, X⟩ := G
  exact PySem.Calls.Name_function_global rfl hx (PySem.Calls.loadGlobal_builtin (env := lawEnv L fa cd) (T.g.keeps S.fr.keep) (mg_none_of X T.g e) (T.b.keeps S.fr.keep) ((T.builtins x hn).trans hv) h) hb
/-- a call of a def of the text with one argument, two arguments -/
theorem callW1 {env : Env} {f : Value} {e : Expr} {pos : Pos} {Q : Value → Shared → Prop} (G : Gd w h₀) (hk : keepIn (hd.heap_39 w.params) f = true)
    (h : wpAny (model prog w) A (eval e env) (fun v s₁ => Gd w s₁.heap ∧ wpAny (model prog w) A (call f [v]) Q E s₁) E s)
    (he : starEach [e] env = (false, eval e env) :: starEach [] env := by rfl) (hplain : (backTo pos (starEach [] env)).any (·.1) = false := by rfl) :
    wpAny (model prog w) A (callWith pos f [] (backTo pos (starEach [e] env)) []) Q E s :=
  callWith_K (K := hd.heap_39 w.params) G.2 hk (spliced_more (wpAny_mono h (fun _ _ h₁ => spliced_none ⟨h₁.1.2, h₁.2⟩) fun _ _ x => x) he) he hplain
theorem callW2 {env : Env} {f : Value} {e e' : Expr} {pos : Pos} {Q : Value → Shared → Prop} (G : Gd w h₀) (hk : keepIn (hd.heap_39 w.params) f = true)
    (h : wpAny (model prog w) A (eval e env) (fun v s₁ => wpAny (model prog w) A (eval e' env) (fun v' s₂ => Gd w s₂.heap ∧ wpAny (model prog w) A (call f [v, v']) Q E s₂) E s₁) E s)
    (he : starEach [e, e'] env = (false, eval e env) :: starEach [e'] env := by rfl) (he' : starEach [e'] env = (false, eval e' env) :: starEach [] env := by rfl) (hplain : (backTo pos (starEach [e'] env)).any (·.1) = false := by rfl) :
    wpAny (model prog w) A (callWith pos f [] (backTo pos (starEach [e, e'] env)) []) Q E s :=
  callWith_K (K := hd.heap_39 w.params) G.2 hk (spliced_more (wpAny_mono h (fun _ _ h₁ => spliced_more (wpAny_mono h₁ (fun _ _ h₂ => spliced_none ⟨h₂.1.2, h₂.2⟩) fun _ _ x => x) he') fun _ _ x => x) he) he hplain
set_option maxRecDepth 100000 in
set_option maxHeartbeats 4000000 in
theorem b4 {Q : Flow → Shared → Prop} {i : Nat} {y : Str} {t : Tok} (hi : i < 5) (G : Gd w h₀) (hroom : A.depth < recursionLimit) (S : LS h₀ L c s.heap m cv news) (hw : m (Str.ofString "writer") = some (.ref (wa i))) (hn : m (Str.ofString "name") = some (.str y t)) (hy : y.length ≤ 18)
    (H : ∀ h' tk t', LS h₀ L c h' (upd m (Str.ofString "written") (.str (escS i y) t')) cv news → Q .next { s with heap := h', toks := tk }) :
    wpAny (model prog w) A (exec (bst 4) (lawEnv L fa cd)) Q E s := by
  show wpAny _ _ (exec (Stmt.Assign _ _ _) _) _ _ _
  refine wpAny_Assign_Name (Call_ (ld_loc S kwriter (by decide) hw ?_))
  refine callW1 G (keep_wa i hi) (ld_loc S kname (by decide) hn ⟨G.at S, ?_⟩)
  refine writer_pure hi (G.at S) hroom (by omega) fun tk s' hK => ?_
  obtain ⟨h', tk', rfl, hk⟩ := hK
  exact st_loc (S.keeps hk) kwritten fun h'' tk'' S' => H _ _ _ S'
/-- the table at hand: a dict of the ledger -/
structure TabOk (prog : Program) (w : World) (news : List (Addr × Obj)) (d : Addr) (i : Nat) (kvs : List (Str × Value)) : Prop where
  mem : ∃ od, (d, od) ∈ news ∧ od.IsDictOf (PySem.strKind prog w) kvs
  lo : (d == sysModules) = false
  texts : Texts kvs
  eq : ∀ x, wrS kvs x = escS i x
theorem TabOk.dict {d : Addr} {i : Nat} {kvs : List (Str × Value)} (T : TabOk prog w news d i kvs) (S : LS h₀ L c s.heap m cv news) : s.heap.DictOf (PySem.strKind prog w) d kvs :=
  let ⟨_, h1, h2⟩ := T.mem
  kda_dict S.nw h1 h2
theorem TabOk.cons {d : Addr} {i : Nat} {kvs : List (Str × Value)} (T : TabOk prog w news d i kvs) (p : Addr × Obj) : TabOk prog w (p :: news) d i kvs :=
  let ⟨o, h1, h2⟩ := T.mem
  ⟨⟨o, List.mem_cons_of_mem _ h1, h2⟩, T.lo, T.texts, T.eq⟩
theorem keep89 {P : Params} : keepIn (hd.heap_39 P) (.ref 89) = true := by k_is
theorem keep99 {P : Params} : keepIn (hd.heap_39 P) (.ref 99) = true := by k_is
theorem glob89 {P : Params} : nsIn (hd.heap_39 P) mainGlobals (Str.ofString "_law_written") = some (some (.ref 89)) := by k_is
theorem glob99 {P : Params} : nsIn (hd.heap_39 P) mainGlobals (Str.ofString "_law_stretches") = some (some (.ref 99)) := by k_is
set_option maxRecDepth 100000 in
set_option maxHeartbeats 4000000 in
theorem b5 {Q : Flow → Shared → Prop} {i : Nat} {y : Str} {t t1 : Tok} {d : Addr} {kvs : List (Str × Value)} (hc : c = L + 1) (G : Gd w h₀) (hroom : A.depth < recursionLimit) (hh : A.handled = none) (S : LS h₀ L c s.heap m (some (.ref d)) news) (T : TabOk prog w news d i kvs)
    (hw : m (Str.ofString "written") = some (.str (escS i y) t1)) (hn : m (Str.ofString "name") = some (.str y t)) (hy : y.length ≤ 18)
    (H : ∀ h' tk, LS h₀ L c h' m (some (.ref d)) news → Q .next { s with heap := h', toks := tk }) :
    wpAny (model prog w) A (exec (bst 5) (lawEnv L fa cd)) Q E s := by
  show wpAny _ _ (exec (Stmt.If _ _ _ _) _) _ _ _
  refine wpAny_If (wpAny_isTrue_Compare1 (ld_loc S kwritten (by decide) hw ?_))
  refine Call_ (ld_glob G S glob89 kgwritten (by decide) ?_)
  refine callW2 G keep89 (ld_cell hc S (ld_loc S kname (by decide) hn ⟨G.at S, ?_⟩))
  refine written_pure (G.at S) hroom hh (T.dict S) T.lo T.texts (by omega) fun tk s' hK => ?_
  obtain ⟨h', tk', rfl, hk⟩ := hK
  refine ne_str (wpAny_truthy_bool ?_)
  rw [T.eq, bne_self_eq_false]
  simp only [Bool.false_eq_true, if_false]
  exact wpAny_execs_nil (H _ _ (S.keeps hk))
set_option maxRecDepth 100000 in
set_option maxHeartbeats 4000000 in
theorem b6 {Q : Flow → Shared → Prop} {y : Str} {t : Tok} (G : Gd w h₀) (hroom : A.depth < recursionLimit) (hh : A.handled = none) (S : LS h₀ L c s.heap m cv news) (hn : m (Str.ofString "name") = some (.str y t)) (hy : y.length ≤ 18)
    (H : ∀ h' tk sl ys k, StrsAre ys.toList (stretchS y) → LS h₀ L c h' (upd m (Str.ofString "stretches") (.ref sl)) cv ((sl, { cls := .type "list", data := .seq ys k }) :: news) → Q .next { s with heap := h', toks := tk }) :
    wpAny (model prog w) A (exec (bst 6) (lawEnv L fa cd)) Q E s := by
  show wpAny _ _ (exec (Stmt.Assign _ _ _) _) _ _ _
  refine wpAny_Assign_Name (Call_ (ld_glob G S glob99 kgstretches (by decide) ?_))
  refine callW1 G keep99 (ld_loc S kname (by decide) hn ⟨G.at S, ?_⟩)
  refine stretches_pure (G.at S) hroom hh (by omega) fun l ys k s' hK hl ho hS => ?_
  obtain ⟨h', tk', rfl, hk⟩ := hK
  exact st_loc (S.add hk hl ho) kstretches fun h'' tk'' S' => H _ _ _ _ _ hS S'
end
end
/-! ### L4 -/
section
theorem LS.setK {h₀ h h' : Heap} {L c : Addr} {m m' : Str → Option Value} {cv : Option Value} {news : List (Addr × Obj)} (S : LS h₀ L c h m cv news) (hn : h'.Ns L m') (hk : ∀ b o, b ≠ L → h.get? b = some o → h'.get? b = some o) : LS h₀ L c h' m' cv news :=
  ⟨⟨hn, fun b o e => hk b o (Nat.ne_of_lt (Nat.lt_of_lt_of_le (Heap.lt_size e) S.fr.above)) (S.fr.keep b o e), S.fr.above⟩, fun p hp => ⟨hk _ _ (S.nw p hp).2.1 (S.nw p hp).1, (S.nw p hp).2⟩, S.off,
    let ⟨o, ho, hd⟩ := S.cell
    ⟨o, hk _ _ S.cL ho, hd⟩, S.cL, S.c0⟩
theorem strs_of_papers {kvs : List (Str × Value)} : ∀ {vs ys : List Value} (zs : List Str), StrsAre vs zs →
    Paired (fun v y => ∃ z u u', v = Value.str z u ∧ y = Value.str (wrS kvs z) u') vs ys → StrsAre ys (zs.map (wrS kvs)) := by
  intro vs ys zs hS hF
  induction hF generalizing zs with
  | nil => cases hS; exact .nil
  | cons hd _ ih =>
    cases hS with
    | cons y t r =>
      obtain ⟨z, u, u', e1, e2⟩ := hd
      have e3 := (Value.str.inj e1).1
      subst e3; subst e2
      exact .cons _ _ (ih _ r)
theorem strs_at {vs : List Value} {ys : List Str} (h : StrsAre vs ys) : ∀ (j : Nat) (v : Value), vs[j]? = some v → ∃ y ∈ ys, ∃ t, v = .str y t := by
  induction h with
  | nil => intro j v hj; simp at hj
  | cons y t _ ih =>
    intro j v hj
    cases j with
    | zero => exact ⟨y, List.mem_cons_self, t, by simpa using hj.symm⟩
    | succ j =>
      obtain ⟨y', hy', t', e⟩ := ih j v (by simpa using hj)
      exact ⟨y', List.mem_cons_of_mem _ hy', t', e⟩
theorem stretch_len {n z : Str} (h : z ∈ stretchS n) : z.length ≤ n.length := by
  unfold stretchS at h
  split at h
  · cases h
  · unfold cutsS at h
    obtain ⟨p, _, rfl⟩ := List.mem_map.mp h
    exact Txt.slice_le ..
section
variable {prog : Program} {w : World} {A : Around} {E : Value → Shared → Prop} {s : Shared} {h₀ : Heap} {L c fa : Addr} {m : Str → Option Value} {cv : Option Value} {news : List (Addr × Obj)} {cd : Value}
set_option maxRecDepth 100000 in
set_option maxHeartbeats 4000000 in
theorem b7 {Q : Flow → Shared → Prop} {i k : Nat} {y : Str} {d sl : Addr} {ys : Array Value} {kvs : List (Str × Value)} (hc : c = L + 1) (G : Gd w h₀) (hroom : A.depth < recursionLimit) (hh : A.handled = none) (S : LS h₀ L c s.heap m (some (.ref d)) news) (T : TabOk prog w news d i kvs)
    (hm : m (Str.ofString "stretches") = some (.ref sl)) (hsl : (sl, { cls := .type "list", data := .seq ys k }) ∈ news) (hS : StrsAre ys.toList (stretchS y)) (hy : y.length ≤ 18) (hsz : ys.size ≤ 1000)
    (H : ∀ h' tk pl zs k, StrsAre zs.toList ((stretchS y).map (wrS kvs)) → LS h₀ L c h' (upd m (Str.ofString "papers") (.ref pl)) (some (.ref d)) ((pl, { cls := .type "list", data := .seq zs k }) :: news) → Q .next { s with heap := h', toks := tk }) :
    wpAny (model prog w) A (exec (bst 7) (lawEnv L fa cd)) Q E s := by
  subst hc
  show wpAny _ _ (exec (Stmt.Assign _ _ _) _) _ _ _
  refine wpAny_Assign_ListComp_free (cl := [(Str.ofString "table", L + 1)]) (fun _ => true) (fun v y => ∃ z u u', v = Value.str z u ∧ y = Value.str (wrS kvs z) u') rfl rfl (by decide) rfl (by decide) (by decide) rfl rfl ?_
  refine ld_loc S kstretches (by decide) hm ?_
  have hl : s.heap.IsList sl ys := News.isList S.nw hsl
  have hlt : sl < s.heap.objs.size := Heap.lt_size (S.nw _ hsl).1
  refine wpAny_pyIter_list hl ?_
  have hns := (S.fr.push { cls := .type "list_iterator", data := .fields #[.ref sl, .int 0 0] }).ns
  refine ⟨_, _, _, _, _, _, _, rfl, Walks.list (A := A) hh s.heap.objs.size sl (Nat.ne_of_lt hlt) ys, Nat.le_trans hsz (by decide), ⟨⟨_, Heap.get?_push_size _ rfl, rfl, rfl⟩, hl.push _⟩, ?_, ?_, hns, ⟨?_, ?_⟩, ?_⟩
  · intro b hb
    show _ < (Heap.push _ _).objs.size
    rw [Heap.size_push]
    rcases List.mem_cons.mp hb with rfl | hb
    · exact Nat.lt_succ_self _
    · rw [List.mem_singleton.mp hb]; exact Nat.lt_succ_of_lt hlt
  · exact fun hm => absurd S.fr.ns.lt ((List.mem_singleton.mp hm) ▸ Nat.lt_irrefl _)
  · intro C' j v s₃ m₃ E' hC hP hn hm hk _
    exact wpAny_tests_nil ⟨rfl, keepsRefl⟩
  · intro C' j v s₃ m₃ E' hC hP _ hn hm hk _
    have up : ∀ b o', s.heap.get? b = some o' → s₃.heap.get? b = some o' := fun b o' e => hk b o' (old_not_new e) (Heap.get?_push_of_some _ e)
    have S3 := S.keeps up
    obtain ⟨z, hz, u, rfl⟩ := strs_at hS j v (by simpa using hP)
    have hzl := stretch_len hz
    obtain ⟨⟨p, loose, mean, mg, mb, Tp⟩, X⟩ := id G
    refine Call_ (PySem.Calls.Name_function_global rfl rfl (PySem.Calls.loadGlobal_global (Tp.g.keeps S3.fr.keep) (mg_of X Tp.g glob89) ?_) (by decide))
    refine callW2 G keep89 (wpAny_Name (wpAny_loadName_cell rfl rfl (c := L + 1) rfl S3.cell ?_) (by decide))
    refine wpAny_Name (wpAny_loadName_local rfl rfl hn hm ⟨G.at S3, ?_⟩) (by decide)
    refine written_pure (G.at S3) hroom hh (T.dict S3) T.lo T.texts (by omega) fun tk s' hK => ?_
    exact ⟨⟨_, _, _, rfl, rfl⟩, hK⟩
  · intro D h' tk' zs vs hDn hl' hpl hlen hP hF hns' hk
    have e1 : vs.filter (fun _ => true) = vs := List.filter_eq_self.mpr fun _ _ => rfl
    rw [e1] at hF
    have e2 : vs = ys.toList := by
      apply List.ext_getElem?
      intro j
      cases hj : vs[j]? with
      | some v => have := hP j v hj; simpa using this.symm
      | none =>
        have h1 : vs.length ≤ j := List.getElem?_eq_none_iff.mp hj
        rw [hlen] at h1
        symm
        exact List.getElem?_eq_none_iff.mpr (by simpa using h1)
    rw [e2] at hF
    obtain ⟨kD, hkD⟩ := hpl
    have hD0 : s.heap.get? D = none := by
      cases e : s.heap.get? D with
      | none => rfl
      | some o' => rw [Heap.get?_push_of_some _ e] at hDn; cases hDn
    refine H h' tk' D zs kD (strs_of_papers _ hS hF) ?_
    have hDL : D ≠ L := fun e => by obtain ⟨o', _, _, ho', _⟩ := S.fr.ns; rw [e, ho'] at hD0; cases hD0
    have S' := S.setK hns' fun b o hb e => hk b o hb (old_not_new e) (Heap.get?_push_of_some _ e)
    have hDc : D ≠ L + 1 := fun e => by obtain ⟨o', ho', _⟩ := S.cell; rw [e, ho'] at hD0; cases hD0
    refine ⟨S'.fr, fun p hp => ?_, fun p hp => ?_, S'.cell, S'.cL, S'.c0⟩
    · rcases List.mem_cons.mp hp with rfl | hp
      · refine ⟨hkD, hDL, ?_⟩
        cases e : h₀.get? D with
        | none => rfl
        | some o' => rw [S.fr.keep _ _ e] at hD0; cases hD0
      · exact S'.nw p hp
    · rcases List.mem_cons.mp hp with rfl | hp
      · exact hDc
      · exact S'.off p hp
end
end
/-! ### L5 -/
section
section
variable {prog : Program} {w : World} {A : Around} {E : Value → Shared → Prop} {s : Shared} {h₀ : Heap} {L c fa : Addr} {m : Str → Option Value} {cv : Option Value} {news : List (Addr × Obj)} {cd : Value}
/-- a turn's end: the loop goes on -/
def TurnEnd (h₀ : Heap) (L c : Addr) (own : List (Addr × Obj)) (adr : List Addr) (J : (Str → Option Value) → Option Value → List (Addr × Obj) → Prop) (s : Shared) (f : Flow) (s' : Shared) : Prop :=
  f = .next ∧ ∃ h' tk' m' cv' nw', s' = { s with heap := h', toks := tk' } ∧ LS h₀ L c h' m' cv' (own ++ nw') ∧ nw'.map (·.1) = adr ∧ J m' cv' nw'
theorem ls_loop {x : Str} {body : List Stmt} {l : Addr} {vs : List Value} {k : Nat} {Q : Flow → Shared → Prop} (hh : A.handled = none) (S : LS h₀ L c s.heap m cv news) (hl : (l, ({ cls := .type "list", data := .seq vs.toArray k } : Obj)) ∈ news)
    (J : Nat → (Str → Option Value) → Option Value → List (Addr × Obj) → Prop) (hJ : J 0 m cv news)
    (turn : ∀ j v m₁ cv₁ nw₁ h tk own, vs[j]? = some v → nw₁.map (·.1) = news.map (·.1) → J j m₁ cv₁ nw₁ → (∀ p ∈ own, p.1 = l ∨ ∀ q ∈ nw₁, p.1 ≠ q.1) → LS h₀ L c h (upd m₁ x v) cv₁ (own ++ nw₁) →
      wpAny (model prog w) A (execs body (lawEnv L fa cd)) (TurnEnd h₀ L c own (news.map (·.1)) (J (j + 1)) { s with heap := h, toks := tk }) (fun _ _ => False) { s with heap := h, toks := tk })
    (done : ∀ m₁ cv₁ nw₁ h tk, nw₁.map (·.1) = news.map (·.1) → J vs.length m₁ cv₁ nw₁ → LS h₀ L c h m₁ cv₁ nw₁ → Q .next { s with heap := h, toks := tk }) :
    wpAny (model prog w) A (pyIter (.ref l)) (fun it s₂ => LoopAtV prog w A h₀ (lawEnv L fa cd) x body Q (fun _ _ => False) it s₂) (fun _ _ => False) s := by
  have hls : s.heap.IsList l vs.toArray := S.isList hl
  have hlt : l < s.heap.objs.size := Heap.lt_size (S.nw _ hl).1
  obtain ⟨oc, hoc, hcd⟩ := S.cell
  refine wpAny_pyIter_list hls ?_
  have W := Walks.list (prog := prog) (w := w) hh s.heap.objs.size l (Nat.ne_of_lt hlt) vs.toArray
  have hsz : vs.toArray.size = vs.length := List.size_toArray
  rw [hsz] at W
  let J' : Nat → (Str → Option Value) → List (Addr × Obj) → Prop := fun i m₁ n₁ => ∃ o cv₁ nw, n₁ = (c, o) :: nw ∧ o.data = .cell cv₁ ∧ nw.map (·.1) = news.map (·.1) ∧ J i m₁ cv₁ nw
  have up : ∀ {n₁ : List (Addr × Obj)}, n₁.map (·.1) = news.map (·.1) → ∀ p ∈ n₁, p.1 ≠ c := fun e p hp => by
    have : p.1 ∈ news.map (·.1) := e ▸ List.mem_map_of_mem hp
    obtain ⟨q, hq, e'⟩ := List.mem_map.mp this
    exact e' ▸ S.off q hq
  have low : ∀ {n₁ : List (Addr × Obj)}, n₁.map (·.1) = news.map (·.1) → ∀ p ∈ n₁, p.1 < s.heap.objs.size := fun e p hp => by
    have : p.1 ∈ news.map (·.1) := e ▸ List.mem_map_of_mem hp
    obtain ⟨q, hq, e'⟩ := List.mem_map.mp this
    exact e' ▸ Heap.lt_size (S.nw q hq).1
  have hcs : c < s.heap.objs.size := Heap.lt_size hoc
  have offI : ∀ {o : Obj} {n₁ : List (Addr × Obj)}, n₁.map (·.1) = news.map (·.1) → ∀ p ∈ (c, o) :: n₁, p.1 ∉ [s.heap.objs.size] := fun e p hp q => by
    have q' := List.mem_singleton.mp q
    rcases List.mem_cons.mp hp with rfl | hp
    · exact Nat.lt_irrefl _ (q' ▸ hcs)
    · exact Nat.lt_irrefl _ (q' ▸ low e p hp)
  have N0 : News h₀ L s.heap ((c, oc) :: news) := fun p hp => by
    rcases List.mem_cons.mp hp with rfl | hp
    · exact ⟨hoc, S.cL, S.c0⟩
    · exact S.nw p hp
  refine ⟨_, _, _, vs.length, _, _, m, (c, oc) :: news, J', rfl, W, ?_, ?_, offI rfl, ⟨⟨_, Heap.get?_push_size _ rfl, rfl, rfl⟩, hls.push _⟩, S.fr.push _, (fun p hp => ⟨Heap.get?_push_of_some _ (N0 p hp).1, (N0 p hp).2⟩), ⟨oc, cv, news, rfl, hcd, rfl, hJ⟩, ?_, ?_⟩
  · intro hm
    rcases List.mem_cons.mp hm with e | hm
    · exact absurd S.fr.ns.lt (by rw [show L = _ from e]; exact Nat.lt_irrefl _)
    · exact (S.nw _ hl).2.1 (List.mem_singleton.mp hm).symm
  · intro b hb
    rw [List.mem_singleton.mp hb]
    exact next_is_new S.fr
  · rintro j v m₁ n₁ s₁ own ⟨hh', tk', rfl⟩ hj hP ⟨o, cv₁, nw, rfl, hod, hadr, hJ₁⟩ hoff hown _ _ _ F₁ N₁
    have S₁ : LS h₀ L c hh' (upd m₁ x v) cv₁ (own ++ nw) := by
      refine ⟨F₁, fun p hp => N₁ p ?_, fun p hp => ?_, ⟨o, (N₁ (c, o) (List.mem_append_right _ (.head _))).1, hod⟩, S.cL, S.c0⟩
      · rcases List.mem_append.mp hp with hp | hp
        · exact List.mem_append_left _ hp
        · exact List.mem_append_right _ (.tail _ hp)
      · rcases List.mem_append.mp hp with hp | hp
        · rcases List.mem_cons.mp (hown p hp) with e | e
          · rw [e]; exact Nat.ne_of_gt hcs
          · rw [List.mem_singleton.mp e]; exact S.off _ hl
        · exact up hadr p hp
    refine wpAny_mono (turn j v m₁ cv₁ nw hh' tk' own (by simpa using hP) hadr hJ₁ (fun p hp => ?_) S₁) (fun f s₂ hT => ?_) fun _ _ e => e
    · rcases List.mem_cons.mp (hown p hp) with e | e
      · exact .inr fun q hq => by rw [e]; exact Nat.ne_of_gt (low hadr q hq)
      · exact .inl (List.mem_singleton.mp e)
    · obtain ⟨rfl, h', tk, m', cv', nw', rfl, S', hadr', hJ'⟩ := hT
      obtain ⟨o', ho', hd'⟩ := S'.cell
      refine .next (LoopStepU.intro (news₂ := (c, o') :: nw') S'.fr (fun p hp => ?_) (offI hadr') ⟨o', cv', nw', rfl, hd', hadr', hJ'⟩)
      rcases List.mem_append.mp hp with hp | hp
      · exact S'.nw p (List.mem_append_left _ hp)
      · rcases List.mem_cons.mp hp with rfl | hp
        · exact ⟨ho', S.cL, S.c0⟩
        · exact S'.nw p (List.mem_append_right _ hp)
  · rintro h' tk m' n' F' N' _ ⟨o, cv₁, nw, rfl, hod, hadr, hJ₁⟩
    exact done m' cv₁ nw h' tk hadr hJ₁ ⟨F', fun p hp => N' p (.tail _ hp), up hadr, ⟨o, (N' _ (.head _)).1, hod⟩, S.cL, S.c0⟩
end
end
/-! ### L6 -/
section
def oBody : List Stmt := match bst 8 with | .For _ _ b _ _ => b | _ => []
def ost (i : Nat) : Stmt := oBody.getD i noStmt
theorem oBody_eq : oBody = [ost 0, ost 1, ost 2, ost 3, ost 4] := rfl
/-- the plain law -/
structure PL : Prop where
  len : ∀ i x, (escS i x).length ≤ 6 * x.length
  p1 : ∀ z y, isPrivate z y = (stretchS y).any (· == z)
  p2 : ∀ i z y, isPrivate (escS i z) (escS i y) = (stretchS y).any (· == z)
  p4 : ∀ i z y, isPrivate z (escS i y) = ((stretchS y).map (escS i)).any (· == z)
  d1 : ∀ y, isDunder y = decide (endsI y = (2, 2))
  s1 : ∀ y, isSunder y = decide (endsI y = (1, 1))
  d2 : ∀ i y, isDunder (escS i y) = isDunder y
  s2 : ∀ i y, isSunder (escS i y) = isSunder y
section
variable {L fa : Addr} {cd : Value}
theorem kowner : (lawEnv L fa cd).kindOf (Str.ofString "owner") = some .local := rfl
theorem kpaper : (lawEnv L fa cd).kindOf (Str.ofString "paper") = some .local := rfl
theorem khides : (lawEnv L fa cd).kindOf (Str.ofString "hides") = some .local := rfl
theorem kplain : (lawEnv L fa cd).kindOf (Str.ofString "plain") = some .local := rfl
theorem kdue : (lawEnv L fa cd).kindOf (Str.ofString "due") = some .local := rfl
theorem kgprivate : (lawEnv L fa cd).kindOf (Str.ofString "_is_private") = some .globalImplicit := rfl
theorem kgrepr : (lawEnv L fa cd).kindOf (Str.ofString "repr") = some .globalImplicit := rfl
end
theorem keep35 {P : Params} : keepIn (hd.heap_39 P) (.ref 35) = true := by k_is
theorem glob35 {P : Params} : nsIn (hd.heap_39 P) mainGlobals (Str.ofString "_is_private") = some (some (.ref 35)) := by k_is
theorem globrepr {P : Params} : nsIn (hd.heap_39 P) mainGlobals (Str.ofString "repr") = some none := by k_is
theorem bootrepr : bootBuiltins (Str.ofString "repr") = some (.builtin "repr") := by decide +kernel
def pB (y z : Str) : Bool := (stretchS y).any (· == z)
def qB (i : Nat) (y z : Str) : Bool := (stretchS y).any (· == escS i z)
def rB (i : Nat) (y z : Str) : Bool := ((stretchS y).map (escS i)).any (· == z)
def hidesV (i : Nat) (y z : Str) : List Value := [.bool (pB y z), .bool (pB y z), .bool (qB i y z), .bool (rB i y z)]
section
variable {prog : Program} {w : World} {A : Around} {E : Value → Shared → Prop} {s : Shared} {h₀ : Heap} {L c fa : Addr} {m : Str → Option Value} {cv : Option Value} {news : List (Addr × Obj)} {cd : Value}
theorem LS.sub {h : Heap} {news' : List (Addr × Obj)} (S : LS h₀ L c h m cv news) (hs : ∀ p ∈ news', p ∈ news) : LS h₀ L c h m cv news' :=
  ⟨S.fr, fun p hp => S.nw p (hs p hp), fun p hp => S.off p (hs p hp), S.cell, S.cL, S.c0⟩
theorem ls_newList {vs : List Value} {Q : Value → Shared → Prop} (S : LS h₀ L c s.heap m cv news) (hsz : vs.length ≤ 1000) (h : ∀ l h', (∀ p ∈ news, p.1 ≠ l) → LS h₀ L c h' m cv ((l, lst0 vs) :: news) → Q (.ref l) { s with heap := h' }) :
    wpAny (model prog w) A (newList vs) Q E s :=
  wpAny_newObj_type (h _ _ (fun p hp => Nat.ne_of_lt (Heap.lt_size (S.nw p hp).1)) (S.add (fun _ _ e => Heap.get?_push_of_some _ e) (Heap.get?_none_of_le (Nat.le_refl _)) (Heap.get?_push_size _ rfl)))
    (by show vs.toArray.size ≤ sizeLine; rw [List.size_toArray]; exact sizeLe (by omega))
/-- «_is_private(a, b)» where both names hold texts -/
theorem priv_call {a b za zb : Str} {ta tb : Tok} {pa pb pf pos : Pos} {Q : Value → Shared → Prop} (G : Gd w h₀) (hroom : A.depth < recursionLimit) (hu : A.units + 100 < cLine) (S : LS h₀ L c s.heap m cv news)
    (ka : (lawEnv L fa cd).kindOf a = some .local) (da : (a == ("__debug__" : Str)) = false) (kb : (lawEnv L fa cd).kindOf b = some .local) (db : (b == ("__debug__" : Str)) = false)
    (ha : m a = some (.str za ta)) (hb : m b = some (.str zb tb)) (la : za.length ≤ 200) (lb : zb.length ≤ 200)
    (h : ∀ h' tk, LS h₀ L c h' m cv news → Q (.bool (isPrivate za zb)) { s with heap := h', toks := tk }) :
    wpAny (model prog w) A (eval (.Call (.Name (Str.ofString "_is_private") pf) [.Name a pa, .Name b pb] [] pos) (lawEnv L fa cd)) Q E s := by
  refine Call_ (ld_glob G S glob35 kgprivate (by decide) ?_)
  refine callW2 G keep35 (ld_loc S ka da ha (ld_loc S kb db hb ⟨G.at S, ?_⟩))
  refine is_private_pure' (G.at S) hroom (by omega) (by omega) (by omega) fun v s' e hK => ?_
  obtain ⟨h', tk', rfl, hk⟩ := hK
  rw [e]
  exact h _ _ (S.keeps hk)
set_option maxRecDepth 100000 in
set_option maxHeartbeats 4000000 in
theorem o0 {Q : Flow → Shared → Prop} {i : Nat} {z : Str} {t : Tok} (hi : i < 5) (G : Gd w h₀) (hroom : A.depth < recursionLimit) (S : LS h₀ L c s.heap m cv news) (hw : m (Str.ofString "writer") = some (.ref (wa i))) (hn : m (Str.ofString "owner") = some (.str z t)) (hz : z.length ≤ 18)
    (H : ∀ h' tk t', LS h₀ L c h' (upd m (Str.ofString "paper") (.str (escS i z) t')) cv news → Q .next { s with heap := h', toks := tk }) :
    wpAny (model prog w) A (exec (ost 0) (lawEnv L fa cd)) Q E s := by
  show wpAny _ _ (exec (Stmt.Assign _ _ _) _) _ _ _
  refine wpAny_Assign_Name (Call_ (ld_loc S kwriter (by decide) hw ?_))
  refine callW1 G (keep_wa i hi) (ld_loc S kowner (by decide) hn ⟨G.at S, ?_⟩)
  refine writer_pure hi (G.at S) hroom (by omega) fun tk s' hK => ?_
  obtain ⟨h', tk', rfl, hk⟩ := hK
  exact st_loc (S.keeps hk) kpaper fun h'' tk'' S' => H _ _ _ S'
set_option maxRecDepth 100000 in
set_option maxHeartbeats 4000000 in
theorem o1 {Q : Flow → Shared → Prop} {i : Nat} {y z : Str} {t1 t2 t3 t4 : Tok} (P : PL) (G : Gd w h₀) (hroom : A.depth < recursionLimit) (hu : A.units + 100 < cLine) (S : LS h₀ L c s.heap m cv news)
    (hn : m (Str.ofString "name") = some (.str y t1)) (hw : m (Str.ofString "written") = some (.str (escS i y) t2)) (ho : m (Str.ofString "owner") = some (.str z t3)) (hp : m (Str.ofString "paper") = some (.str (escS i z) t4)) (hy : y.length ≤ 18) (hz : z.length ≤ 18)
    (H : ∀ h' tk l, LS h₀ L c h' (upd m (Str.ofString "hides") (.ref l)) cv ((l, lst0 (hidesV i y z)) :: news) → Q .next { s with heap := h', toks := tk }) :
    wpAny (model prog w) A (exec (ost 1) (lawEnv L fa cd)) Q E s := by
  have ly := P.len i y
  have lz := P.len i z
  show wpAny _ _ (exec (Stmt.Assign _ _ _) _) _ _ _
  refine wpAny_Assign_Name (List_ (spliced_more ?_))
  refine priv_call G hroom hu S kowner (by decide) kname (by decide) ho hn (by omega) (by omega) fun h1 k1 S1 => spliced_more ?_
  refine priv_call G hroom hu S1 kpaper (by decide) kwritten (by decide) hp hw (by omega) (by omega) fun h2 k2 S2 => spliced_more ?_
  refine priv_call G hroom hu S2 kpaper (by decide) kname (by decide) hp hn (by omega) (by omega) fun h3 k3 S3 => spliced_more ?_
  refine priv_call G hroom hu S3 kowner (by decide) kwritten (by decide) ho hw (by omega) (by omega) fun h4 k4 S4 => spliced_none ?_
  rw [P.p1 z y, P.p2 i z y, P.p1 (escS i z) y, P.p4 i z y]
  refine ls_newList S4 (by show 4 ≤ 1000; decide) fun l h5 _ S5 => ?_
  exact st_loc S5 khides fun h6 k6 S6 => H _ _ _ S6
set_option maxRecDepth 100000 in
set_option maxHeartbeats 4000000 in
theorem o2 {Q : Flow → Shared → Prop} {y z : Str} {t3 : Tok} {sl : Addr} {ys : Array Value} {k : Nat} (S : LS h₀ L c s.heap m cv news)
    (hs : m (Str.ofString "stretches") = some (.ref sl)) (hsl : (sl, { cls := .type "list", data := .seq ys k }) ∈ news) (hS : StrsAre ys.toList (stretchS y)) (ho : m (Str.ofString "owner") = some (.str z t3))
    (H : ∀ h' tk, LS h₀ L c h' (upd m (Str.ofString "plain") (.bool (pB y z))) cv news → Q .next { s with heap := h', toks := tk }) :
    wpAny (model prog w) A (exec (ost 2) (lawEnv L fa cd)) Q E s := by
  show wpAny _ _ (exec (Stmt.Assign _ _ _) _) _ _ _
  refine wpAny_Assign_Name (wpAny_Compare1 (ld_loc S kowner (by decide) ho (ld_loc S kstretches (by decide) hs ?_)))
  refine in_list_strs (vs := ys.toList) (News.isList S.nw hsl) hS ?_
  exact st_loc S kplain fun h6 k6 S6 => H _ _ S6
set_option maxRecDepth 100000 in
set_option maxHeartbeats 4000000 in
theorem o3 {Q : Flow → Shared → Prop} {i : Nat} {y z : Str} {t3 : Tok} {d sl pl : Addr} {ys zs : Array Value} {k k' : Nat} {kvs : List (Str × Value)} (hc : c = L + 1) (G : Gd w h₀) (hroom : A.depth < recursionLimit) (hh : A.handled = none) (S : LS h₀ L c s.heap m (some (.ref d)) news) (T : TabOk prog w news d i kvs)
    (hs : m (Str.ofString "stretches") = some (.ref sl)) (hsl : (sl, { cls := .type "list", data := .seq ys k }) ∈ news) (hS : StrsAre ys.toList (stretchS y)) (ho : m (Str.ofString "owner") = some (.str z t3)) (hz : z.length ≤ 18)
    (hp : m (Str.ofString "papers") = some (.ref pl)) (hpl : (pl, { cls := .type "list", data := .seq zs k' }) ∈ news) (hP : StrsAre zs.toList ((stretchS y).map (escS i))) (hpn : m (Str.ofString "plain") = some (.bool (pB y z)))
    (H : ∀ h' tk l, LS h₀ L c h' (upd m (Str.ofString "due") (.ref l)) (some (.ref d)) ((l, lst0 (hidesV i y z)) :: news) → Q .next { s with heap := h', toks := tk }) :
    wpAny (model prog w) A (exec (ost 3) (lawEnv L fa cd)) Q E s := by
  show wpAny _ _ (exec (Stmt.Assign _ _ _) _) _ _ _
  refine wpAny_Assign_Name (List_ (spliced_more (ld_loc S kplain (by decide) hpn ?_)))
  refine spliced_more (ld_loc S kplain (by decide) hpn ?_)
  refine spliced_more (wpAny_Compare1 (Call_ (ld_glob G S glob89 kgwritten (by decide) ?_)))
  refine callW2 G keep89 (ld_cell hc S (ld_loc S kowner (by decide) ho ⟨G.at S, ?_⟩))
  refine written_pure (G.at S) hroom hh (T.dict S) T.lo T.texts (by omega) fun tk s' hK => ?_
  obtain ⟨h', tk', rfl, hk⟩ := hK
  have S1 := S.keeps hk
  refine ld_loc S1 kstretches (by decide) hs ?_
  refine in_list_strs (vs := ys.toList) (News.isList S1.nw hsl) hS ?_
  refine spliced_more (wpAny_Compare1 (ld_loc S1 kowner (by decide) ho (ld_loc S1 kpapers (by decide) hp ?_)))
  refine in_list_strs (vs := zs.toList) (News.isList S1.nw hpl) hP (spliced_none ?_)
  rw [T.eq z]
  refine ls_newList S1 (by show 4 ≤ 1000; decide) fun l h5 _ S5 => ?_
  exact st_loc S5 kdue fun h6 k6 S6 => H _ _ _ S6
end
end
/-! ### L7 -/
section
def hidesD (i : Nat) (y z : Str) : PyData := .list [.bool (pB y z), .bool (pB y z), .bool (qB i y z), .bool (rB i y z)]
theorem four_fit : ∀ p q r : Bool, (PyData.list [.bool p, .bool p, .bool q, .bool r]).shown.length ≤ sizeLine := by decide +kernel
section
variable {prog : Program} {w : World} {A : Around} {E : Value → Shared → Prop} {s : Shared} {h₀ : Heap} {L c fa : Addr} {m : Str → Option Value} {cv : Option Value} {news : List (Addr × Obj)} {cd : Value}
theorem reads_bools {h : Heap} : ∀ bs : List Bool, ReadsAll h (bs.map Value.bool) (bs.map PyData.bool) []
  | [] => .nil
  | b :: r => .cons (as := []) (.bool b) (reads_bools r)
theorem showable_bools : ∀ bs : List Bool, PyData.showableAll (bs.map PyData.bool) = true
  | [] => by simp [PyData.showableAll]
  | b :: r => by simp [PyData.showableAll, PyData.showable, showable_bools r]
theorem depth_bools : ∀ bs : List Bool, PyData.depthAll (bs.map PyData.bool) ≤ 1
  | [] => by simp [PyData.depthAll]
  | b :: r => by
    have := depth_bools r
    simp only [List.map_cons, PyData.depthAll, PyData.depth]
    omega
theorem noDict_bools (bs : List Bool) : PyData.hasDict (.list (bs.map PyData.bool)) = false := by
  have h : ∀ bs : List Bool, PyData.hasDictAll (bs.map PyData.bool) = false := by
    intro bs
    induction bs with
    | nil => simp [PyData.hasDictAll]
    | cons b r ih => simp [PyData.hasDictAll, PyData.hasDict, ih]
  simpa [PyData.hasDict] using h bs
/-- «repr(a)» of a list of truth values -/
theorem repr_call {a : Str} {l : Addr} {bs : List Bool} {k : Nat} {pa pf pos : Pos} {Q : Value → Shared → Prop} (G : Gd w h₀) (hu : A.units + 100 < cLine) (hg : A.guards = some []) (S : LS h₀ L c s.heap m cv news)
    (ka : (lawEnv L fa cd).kindOf a = some .local) (da : (a == ("__debug__" : Str)) = false) (ha : m a = some (.ref l)) (hl : (l, ({ cls := .type "list", data := .seq (bs.map Value.bool).toArray k } : Obj)) ∈ news) (hsz : (PyData.list (bs.map PyData.bool)).shown.length ≤ sizeLine)
    (h : ∀ h' tk t, LS h₀ L c h' m cv news → Q (.str (PyData.list (bs.map PyData.bool)).shown t) { s with heap := h', toks := tk }) :
    wpAny (model prog w) A (eval (.Call (.Name (Str.ofString "repr") pf) [.Name a pa] [] pos) (lawEnv L fa cd)) Q E s := by
  refine Call_ (ld_bi G S globrepr bootrepr (by decide) kgrepr (by decide) ?_)
  refine PyProof.Rows.callWith_builtin1 ?_
  refine spliced_more (ld_loc S ka da ha (spliced_none ?_))
  have hr : Reads s.heap (.ref l) (.list (bs.map PyData.bool)) [l] := Reads.list (S.nw _ hl).1 rfl rfl (by simpa using reads_bools bs)
  have hd := depth_bools bs
  refine repr_of_reads' hr (by simpa [PyData.showable] using showable_bools bs) (fun e => by rw [noDict_bools] at e; cases e) hg (by simp only [PyData.depth]; omega) (fun _ _ e => e) (fun h' u tk hk => ?_) hsz
  exact h _ _ _ (S.keeps hk)
set_option maxRecDepth 100000 in
set_option maxHeartbeats 4000000 in
theorem o4 {Q : Flow → Shared → Prop} {i : Nat} {y z : Str} {l1 l2 : Addr} (G : Gd w h₀) (hu : A.units + 100 < cLine) (hg : A.guards = some []) (S : LS h₀ L c s.heap m cv news)
    (h1 : m (Str.ofString "hides") = some (.ref l1)) (m1 : (l1, lst0 (hidesV i y z)) ∈ news) (h2 : m (Str.ofString "due") = some (.ref l2)) (m2 : (l2, lst0 (hidesV i y z)) ∈ news)
    (H : ∀ h' tk, LS h₀ L c h' m cv news → Q .next { s with heap := h', toks := tk }) :
    wpAny (model prog w) A (exec (ost 4) (lawEnv L fa cd)) Q E s := by
  show wpAny _ _ (exec (Stmt.If _ _ _ _) _) _ _ _
  refine wpAny_If (wpAny_isTrue_Compare1 ?_)
  refine repr_call (bs := [pB y z, pB y z, qB i y z, rB i y z]) G hu hg S khides (by decide) h1 m1 (four_fit _ _ _) fun h3 k3 t3 S3 => ?_
  refine repr_call (bs := [pB y z, pB y z, qB i y z, rB i y z]) G hu hg S3 kdue (by decide) h2 m2 (four_fit _ _ _) fun h4 k4 t4 S4 => ?_
  refine ne_str (wpAny_truthy_bool ?_)
  rw [bne_self_eq_false]
  simp only [Bool.false_eq_true, if_false]
  exact wpAny_execs_nil (H _ _ S4)
/-- the names that a stretch of the law stores -/
def Agree (xs : List Str) (m m₀ : Str → Option Value) : Prop := ∀ z, xs.contains z = false → m z = m₀ z
theorem Agree.refl {xs : List Str} {m : Str → Option Value} : Agree xs m m := fun _ _ => rfl
theorem Agree.upd {xs : List Str} {m m₀ : Str → Option Value} {x : Str} {v : Value} (h : Agree xs m m₀) (hx : xs.contains x = true) : Agree xs (upd m x v) m₀ := fun z hz => by
  have : (z == x) = false := by
    cases e : z == x with
    | false => rfl
    | true => rw [eq_of_beq e, hx] at hz; cases hz
  rw [upd_ne this]
  exact h z hz
theorem upd_get {m : Str → Option Value} {x y : Str} {v r : Value} (h : (y == x) = false) (e : m y = some r) : Mine.upd m x v y = some r := (upd_ne h).trans e
def oNames : List Str := [Str.ofString "owner", Str.ofString "paper", Str.ofString "hides", Str.ofString "plain", Str.ofString "due"]
set_option maxRecDepth 100000 in
set_option maxHeartbeats 4000000 in
theorem b8 {Q : Flow → Shared → Prop} {i : Nat} {y : Str} {t1 t2 : Tok} {d sl pl ol : Addr} {ys zs : Array Value} {k k' : Nat} {kvs : List (Str × Value)} {ov : List Value} {os : List Str} (P : PL) (hi : i < 5) (hc : c = L + 1) (G : Gd w h₀)
    (hroom : A.depth < recursionLimit) (hh : A.handled = none) (hu : A.units + 100 < cLine) (hg : A.guards = some []) (S : LS h₀ L c s.heap m (some (.ref d)) news) (T : TabOk prog w news d i kvs)
    (hw : m (Str.ofString "writer") = some (.ref (wa i))) (hn : m (Str.ofString "name") = some (.str y t1)) (hy : y.length ≤ 18) (hwr : m (Str.ofString "written") = some (.str (escS i y) t2))
    (hs : m (Str.ofString "stretches") = some (.ref sl)) (hsl : (sl, { cls := .type "list", data := .seq ys k }) ∈ news) (hS : StrsAre ys.toList (stretchS y))
    (hp : m (Str.ofString "papers") = some (.ref pl)) (hpl : (pl, { cls := .type "list", data := .seq zs k' }) ∈ news) (hP : StrsAre zs.toList ((stretchS y).map (escS i)))
    (ho : m (Str.ofString "owners") = some (.ref ol)) (hol : (ol, lst0 ov) ∈ news) (hos : StrsAre ov os) (hle : ∀ y ∈ os, y.length ≤ 5)
    (H : ∀ h' tk m', Agree oNames m' m → LS h₀ L c h' m' (some (.ref d)) news → Q .next { s with heap := h', toks := tk }) :
    wpAny (model prog w) A (exec (bst 8) (lawEnv L fa cd)) Q (fun _ _ => False) s := by
  show wpAny _ _ (exec (Stmt.For (.Name (Str.ofString "owner") _) (.Name (Str.ofString "owners") _) oBody [] _) _) _ _ _
  refine For_invV h₀ kowner rfl (ld_loc S kowners (by decide) ho (ls_loop hh S hol (fun _ m₁ cv₁ nw₁ => nw₁ = news ∧ cv₁ = some (.ref d) ∧ Agree oNames m₁ m) ⟨rfl, rfl, Agree.refl⟩ ?_ ?_)) (by intro _; rfl) PassesOwn.never
  · rintro j v m₁ cv₁ nw₁ h tk own hv _ ⟨rfl, rfl, hA⟩ _ S1
    obtain ⟨z, hz, t3, rfl⟩ := strs_at hos j v hv
    have lz := hle z hz
    have memb : ∀ {p : Addr × Obj}, p ∈ nw₁ → p ∈ own ++ nw₁ := fun h => List.mem_append_right _ h
    have T1 : TabOk prog w (own ++ nw₁) d i kvs := ⟨let ⟨o, a, b⟩ := T.mem; ⟨o, memb a, b⟩, T.lo, T.texts, T.eq⟩
    have gw := upd_get (x := Str.ofString "owner") (v := .str z t3) (by decide) ((hA _ (by decide)).trans hw)
    have gn := upd_get (x := Str.ofString "owner") (v := .str z t3) (by decide) ((hA _ (by decide)).trans hn)
    have gwr := upd_get (x := Str.ofString "owner") (v := .str z t3) (by decide) ((hA _ (by decide)).trans hwr)
    have gs := upd_get (x := Str.ofString "owner") (v := .str z t3) (by decide) ((hA _ (by decide)).trans hs)
    have gp := upd_get (x := Str.ofString "owner") (v := .str z t3) (by decide) ((hA _ (by decide)).trans hp)
    have go : upd m₁ (Str.ofString "owner") (.str z t3) (Str.ofString "owner") = some (.str z t3) := upd_self
    have A1 : Agree oNames (upd m₁ (Str.ofString "owner") (.str z t3)) m := hA.upd (by decide)
    generalize upd m₁ (Str.ofString "owner") (.str z t3) = m2 at *
    rw [oBody_eq]
    refine wpAny_execs_cons (o0 hi G hroom S1 gw go (by omega) fun h2 k2 t4 S2 => ?_)
    show wpAny _ _ (execs _ _) _ _ _
    refine wpAny_execs_cons (o1 P G hroom hu S2 (upd_get (by decide) gn) (upd_get (by decide) gwr) (upd_get (by decide) go) upd_self hy (by omega) fun h3 k3 l3 S3 => ?_)
    show wpAny _ _ (execs _ _) _ _ _
    refine wpAny_execs_cons (o2 S3 (upd_get (by decide) (upd_get (by decide) gs)) (.tail _ (memb hsl)) hS (upd_get (by decide) (upd_get (by decide) go)) fun h4 k4 S4 => ?_)
    show wpAny _ _ (execs _ _) _ _ _
    refine wpAny_execs_cons (o3 hc G hroom hh S4 (T1.cons _) (upd_get (by decide) (upd_get (by decide) (upd_get (by decide) gs))) (.tail _ (memb hsl)) hS (upd_get (by decide) (upd_get (by decide) (upd_get (by decide) go))) (by omega)
      (upd_get (by decide) (upd_get (by decide) (upd_get (by decide) gp))) (.tail _ (memb hpl)) hP upd_self fun h5 k5 l5 S5 => ?_)
    show wpAny _ _ (execs _ _) _ _ _
    refine wpAny_execs_cons (o4 G hu hg S5 (upd_get (by decide) (upd_get (by decide) upd_self)) (.tail _ (.head _)) upd_self (.head _) fun h6 k6 S6 => ?_)
    refine wpAny_execs_nil ⟨rfl, _, _, _, _, nw₁, rfl, S6.sub fun p hp => .tail _ (.tail _ hp), rfl, rfl, rfl, ?_⟩
    exact ((((A1.upd (by decide)).upd (by decide)).upd (by decide)).upd (by decide))
  · rintro m₁ cv₁ nw₁ h tk _ ⟨rfl, rfl, hA⟩ S1
    exact H _ _ _ hA S1
end
end
/-! ### L8 -/
section
def wBody : List Stmt := match bst 11 with | .For _ _ b _ _ => b | _ => []
def wst (i : Nat) : Stmt := wBody.getD i noStmt
theorem wBody_eq : wBody = [wst 0, wst 1] := rfl
section
variable {L fa : Addr} {cd : Value}
theorem kends : (lawEnv L fa cd).kindOf (Str.ofString "ends") = some .local := rfl
theorem kkinds : (lawEnv L fa cd).kindOf (Str.ofString "kinds") = some .local := rfl
theorem kother : (lawEnv L fa cd).kindOf (Str.ofString "other") = some .local := rfl
theorem kmade : (lawEnv L fa cd).kindOf (Str.ofString "made") = some .local := rfl
theorem kgends : (lawEnv L fa cd).kindOf (Str.ofString "_law_ends") = some .globalImplicit := rfl
theorem kgdunder : (lawEnv L fa cd).kindOf (Str.ofString "_is_dunder") = some .globalImplicit := rfl
theorem kgsunder : (lawEnv L fa cd).kindOf (Str.ofString "_is_sunder") = some .globalImplicit := rfl
end
theorem keep94 {P : Params} : keepIn (hd.heap_39 P) (.ref 94) = true := by k_is
theorem keep21 {P : Params} : keepIn (hd.heap_39 P) (.ref 21) = true := by k_is
theorem keep28 {P : Params} : keepIn (hd.heap_39 P) (.ref 28) = true := by k_is
theorem glob94 {P : Params} : nsIn (hd.heap_39 P) mainGlobals (Str.ofString "_law_ends") = some (some (.ref 94)) := by k_is
theorem glob21 {P : Params} : nsIn (hd.heap_39 P) mainGlobals (Str.ofString "_is_dunder") = some (some (.ref 21)) := by k_is
theorem glob28 {P : Params} : nsIn (hd.heap_39 P) mainGlobals (Str.ofString "_is_sunder") = some (some (.ref 28)) := by k_is
abbrev tup2 (a b : Int) (t1 t2 : Tok) : Obj := { cls := .type "tuple", data := .seq #[.int a t1, .int b t2] }
section
variable {prog : Program} {w : World} {A : Around} {E : Value → Shared → Prop} {s : Shared} {h₀ : Heap} {L c fa : Addr} {m : Str → Option Value} {cv : Option Value} {news : List (Addr × Obj)} {cd : Value}
/-- «_is_dunder(a)», «_is_sunder(a)» -/
theorem dunder_call {a z : Str} {ta : Tok} {pa pf pos : Pos} {Q : Value → Shared → Prop} (G : Gd w h₀) (hroom : A.depth < recursionLimit) (hu : A.units + 100 < cLine) (S : LS h₀ L c s.heap m cv news)
    (ka : (lawEnv L fa cd).kindOf a = some .local) (da : (a == ("__debug__" : Str)) = false) (ha : m a = some (.str z ta)) (la : z.length ≤ 200)
    (h : ∀ h' tk, LS h₀ L c h' m cv news → Q (.bool (isDunder z)) { s with heap := h', toks := tk }) :
    wpAny (model prog w) A (eval (.Call (.Name (Str.ofString "_is_dunder") pf) [.Name a pa] [] pos) (lawEnv L fa cd)) Q E s := by
  refine Call_ (ld_glob G S glob21 kgdunder (by decide) ?_)
  refine callW1 G keep21 (ld_loc S ka da ha ⟨G.at S, ?_⟩)
  refine is_dunder_pure' (G.at S) hroom (by omega) (by omega) fun v s' e hK => ?_
  obtain ⟨h', tk', rfl, hk⟩ := hK
  rw [e]
  exact h _ _ (S.keeps hk)
theorem sunder_call {a z : Str} {ta : Tok} {pa pf pos : Pos} {Q : Value → Shared → Prop} (G : Gd w h₀) (hroom : A.depth < recursionLimit) (hu : A.units + 100 < cLine) (S : LS h₀ L c s.heap m cv news)
    (ka : (lawEnv L fa cd).kindOf a = some .local) (da : (a == ("__debug__" : Str)) = false) (ha : m a = some (.str z ta)) (la : z.length ≤ 200)
    (h : ∀ h' tk, LS h₀ L c h' m cv news → Q (.bool (isSunder z)) { s with heap := h', toks := tk }) :
    wpAny (model prog w) A (eval (.Call (.Name (Str.ofString "_is_sunder") pf) [.Name a pa] [] pos) (lawEnv L fa cd)) Q E s := by
  refine Call_ (ld_glob G S glob28 kgsunder (by decide) ?_)
  refine callW1 G keep28 (ld_loc S ka da ha ⟨G.at S, ?_⟩)
  refine is_sunder_pure' (G.at S) hroom (by omega) (by omega) fun v s' e hK => ?_
  obtain ⟨h', tk', rfl, hk⟩ := hK
  rw [e]
  exact h _ _ (S.keeps hk)
set_option maxRecDepth 100000 in
set_option maxHeartbeats 4000000 in
theorem b9 {Q : Flow → Shared → Prop} {y : Str} {t : Tok} (G : Gd w h₀) (hroom : A.depth < recursionLimit) (hh : A.handled = none) (hu : A.units + 100 < cLine) (S : LS h₀ L c s.heap m cv news) (hn : m (Str.ofString "name") = some (.str y t)) (hy : y.length ≤ 18)
    (H : ∀ h' tk l t1 t2, LS h₀ L c h' (upd m (Str.ofString "ends") (.ref l)) cv ((l, tup2 (endsI y).1 (endsI y).2 t1 t2) :: news) → Q .next { s with heap := h', toks := tk }) :
    wpAny (model prog w) A (exec (bst 9) (lawEnv L fa cd)) Q E s := by
  show wpAny _ _ (exec (Stmt.Assign _ _ _) _) _ _ _
  refine wpAny_Assign_Name (Call_ (ld_glob G S glob94 kgends (by decide) ?_))
  refine callW1 G keep94 (ld_loc S kname (by decide) hn ⟨G.at S, ?_⟩)
  refine ends_pure (G.at S) hroom hh hu (by omega) fun l t1 t2 s' hK hl ho => ?_
  obtain ⟨h', tk', rfl, hk⟩ := hK
  exact st_loc (S.add hk hl ho) kends fun h'' tk'' S' => H _ _ _ _ _ S'
set_option maxRecDepth 100000 in
set_option maxHeartbeats 4000000 in
theorem b10 {Q : Flow → Shared → Prop} {y : Str} {t : Tok} (G : Gd w h₀) (hroom : A.depth < recursionLimit) (hu : A.units + 100 < cLine) (S : LS h₀ L c s.heap m cv news) (hn : m (Str.ofString "name") = some (.str y t)) (hy : y.length ≤ 18)
    (H : ∀ h' tk l, (∀ p ∈ news, p.1 ≠ l) → LS h₀ L c h' (upd m (Str.ofString "kinds") (.ref l)) cv ((l, lst0 [.bool (isDunder y), .bool (isSunder y)]) :: news) → Q .next { s with heap := h', toks := tk }) :
    wpAny (model prog w) A (exec (bst 10) (lawEnv L fa cd)) Q E s := by
  show wpAny _ _ (exec (Stmt.Assign _ _ _) _) _ _ _
  refine wpAny_Assign_Name (List_ (spliced_more ?_))
  refine dunder_call G hroom hu S kname (by decide) hn (by omega) fun h1 k1 S1 => spliced_more ?_
  refine sunder_call G hroom hu S1 kname (by decide) hn (by omega) fun h2 k2 S2 => spliced_none ?_
  refine ls_newList S2 (by show 2 ≤ 1000; decide) fun l h5 hl S5 => ?_
  exact st_loc S5 kkinds fun h6 k6 S6 => H _ _ _ hl S6
set_option maxRecDepth 100000 in
set_option maxHeartbeats 4000000 in
theorem w0 {Q : Flow → Shared → Prop} {i : Nat} {y : Str} {t : Tok} (hi : i < 5) (G : Gd w h₀) (hroom : A.depth < recursionLimit) (S : LS h₀ L c s.heap m cv news) (hw : m (Str.ofString "other") = some (.ref (wa i))) (hn : m (Str.ofString "name") = some (.str y t)) (hy : y.length ≤ 18)
    (H : ∀ h' tk t', LS h₀ L c h' (upd m (Str.ofString "made") (.str (escS i y) t')) cv news → Q .next { s with heap := h', toks := tk }) :
    wpAny (model prog w) A (exec (wst 0) (lawEnv L fa cd)) Q E s := by
  show wpAny _ _ (exec (Stmt.Assign _ _ _) _) _ _ _
  refine wpAny_Assign_Name (Call_ (ld_loc S kother (by decide) hw ?_))
  refine callW1 G (keep_wa i hi) (ld_loc S kname (by decide) hn ⟨G.at S, ?_⟩)
  refine writer_pure hi (G.at S) hroom (by omega) fun tk s' hK => ?_
  obtain ⟨h', tk', rfl, hk⟩ := hK
  exact st_loc (S.keeps hk) kmade fun h'' tk'' S' => H _ _ _ S'
set_option maxRecDepth 100000 in
set_option maxHeartbeats 4000000 in
theorem w1 {Q : Flow → Shared → Prop} {x : Str} {t : Tok} {kl : Addr} {bs : List Value} {k : Nat} {own rest : List (Addr × Obj)} (G : Gd w h₀) (hroom : A.depth < recursionLimit) (hu : A.units + 100 < cLine)
    (S : LS h₀ L c s.heap m cv (own ++ (kl, { cls := .type "list", data := .seq bs.toArray k }) :: rest)) (hown : ∀ p ∈ own, p.1 ≠ kl) (hrest : ∀ p ∈ rest, p.1 ≠ kl)
    (hk : m (Str.ofString "kinds") = some (.ref kl)) (hn : m (Str.ofString "made") = some (.str x t)) (hx : x.length ≤ 200) (hbs : bs.length ≤ 1000)
    (H : ∀ h' tk k', LS h₀ L c h' m cv (own ++ (kl, { cls := .type "list", data := .seq (bs ++ [Value.bool (isDunder x), Value.bool (isSunder x)]).toArray k' }) :: rest) → Q .next { s with heap := h', toks := tk }) :
    wpAny (model prog w) A (exec (wst 1) (lawEnv L fa cd)) Q E s := by
  show wpAny _ _ (exec (Stmt.Expr _ _) _) _ _ _
  refine wpAny_Expr (MethodCall_ (ld_loc S kkinds (by decide) hk ?_))
  have hkl := S.nw (kl, _) (List.mem_append_right _ (.head _))
  refine getMethod_list_of PySem.F.slot_list_extend PySem.F.type_list_extend (items := bs.toArray) ⟨_, hkl.1, rfl, _, rfl⟩ ⟨_, hkl.1, rfl⟩ ?_
  refine callWith_method1 (spliced_more (List_ (spliced_more ?_)))
  refine dunder_call G hroom hu S kmade (by decide) hn (by omega) fun h1 k1 S1 => spliced_more ?_
  refine sunder_call G hroom hu S1 kmade (by decide) hn (by omega) fun h2 k2 S2 => spliced_none ?_
  refine ls_newList S2 (by show 2 ≤ 1000; decide) fun l h5 hl S5 => spliced_none ?_
  obtain ⟨oc, hoc, hcd⟩ := S5.cell
  have N5 : News h₀ L h5 ((l, lst0 [.bool (isDunder x), .bool (isSunder x)]) :: (c, oc) :: own ++ (kl, { cls := .type "list", data := .seq bs.toArray k }) :: rest) := fun p hp => by
    rcases List.mem_cons.mp hp with rfl | hp
    · exact S5.nw _ (.head _)
    · rcases List.mem_cons.mp hp with rfl | hp
      · exact ⟨hoc, S.cL, S.c0⟩
      · exact S5.nw p (.tail _ hp)
  refine extend_in (own := (l, lst0 [.bool (isDunder x), .bool (isSunder x)]) :: (c, oc) :: own) S5.fr N5 ?_ hrest (S5.nw _ (.head _)).1 (fun h6 k6 F6 N6 => ?_) (sizeLe (by show bs.length + 2 ≤ _; omega))
  · intro p hp
    rcases List.mem_cons.mp hp with rfl | hp
    · exact (hl _ (List.mem_append_right _ (.head _))).symm
    · rcases List.mem_cons.mp hp with rfl | hp
      · exact (S.off _ (List.mem_append_right _ (.head _))).symm
      · exact hown p hp
  · refine H _ _ _ ⟨F6, fun p hp => N6 p (.tail _ (.tail _ hp)), fun p hp => ?_, ⟨oc, (N6 _ (.tail _ (.head _))).1, hcd⟩, S.cL, S.c0⟩
    rcases List.mem_append.mp hp with hp | hp
    · exact S.off p (List.mem_append_left _ hp)
    · rcases List.mem_cons.mp hp with rfl | hp
      · exact S.off (kl, { cls := .type "list", data := .seq bs.toArray k }) (List.mem_append_right _ (.head _))
      · exact S.off p (List.mem_append_right _ (.tail _ hp))
end
end
/-! ### L9 -/
section
def pat (a b : Bool) : Nat → List Value
  | 0 => []
  | n + 1 => pat a b n ++ [.bool a, .bool b]
theorem pat_len (a b : Bool) : ∀ n, (pat a b n).length = 2 * n
  | 0 => rfl
  | n + 1 => by rw [pat, List.length_append, pat_len a b n]; show 2 * n + 2 = 2 * (n + 1); omega
def wvals : List Value := [.ref 49, .ref 56, .ref 63, .ref 70, .ref 77]
theorem wvals_at : ∀ (j : Nat) (v : Value), wvals[j]? = some v → j < 5 ∧ v = .ref (wa j)
  | 0, _, h => ⟨by decide, (Option.some.inj h).symm⟩
  | 1, _, h => ⟨by decide, (Option.some.inj h).symm⟩
  | 2, _, h => ⟨by decide, (Option.some.inj h).symm⟩
  | 3, _, h => ⟨by decide, (Option.some.inj h).symm⟩
  | 4, _, h => ⟨by decide, (Option.some.inj h).symm⟩
  | _ + 5, _, h => by cases h
def wNames : List Str := [Str.ofString "other", Str.ofString "made"]
theorem twelve_fit : ∀ a b : Bool, (PyData.list ([a, b, a, b, a, b, a, b, a, b, a, b].map PyData.bool)).shown.length ≤ sizeLine := by decide +kernel
section
variable {prog : Program} {w : World} {A : Around} {E : Value → Shared → Prop} {s : Shared} {h₀ : Heap} {L c fa : Addr} {m : Str → Option Value} {cv : Option Value} {news : List (Addr × Obj)} {cd : Value}
set_option maxRecDepth 100000 in
set_option maxHeartbeats 4000000 in
theorem b11 {Q : Flow → Shared → Prop} {y : Str} {t1 : Tok} {kl wl : Addr} {rest : List (Addr × Obj)} (P : PL) (G : Gd w h₀)
    (hroom : A.depth < recursionLimit) (hh : A.handled = none) (hu : A.units + 100 < cLine) (S : LS h₀ L c s.heap m cv ((kl, lst0 (pat (isDunder y) (isSunder y) 1)) :: rest)) (hrest : ∀ p ∈ rest, p.1 ≠ kl)
    (hn : m (Str.ofString "name") = some (.str y t1)) (hy : y.length ≤ 18) (hk : m (Str.ofString "kinds") = some (.ref kl))
    (hw : m (Str.ofString "writers") = some (.ref wl)) (hwl : (wl, lst0 wvals) ∈ rest)
    (H : ∀ h' tk m' k', Agree wNames m' m → LS h₀ L c h' m' cv ((kl, { cls := .type "list", data := .seq (pat (isDunder y) (isSunder y) 6).toArray k' }) :: rest) → Q .next { s with heap := h', toks := tk }) :
    wpAny (model prog w) A (exec (bst 11) (lawEnv L fa cd)) Q (fun _ _ => False) s := by
  show wpAny _ _ (exec (Stmt.For (.Name (Str.ofString "other") _) (.Name (Str.ofString "writers") _) wBody [] _) _) _ _ _
  refine For_invV h₀ kother rfl (ld_loc S kwriters (by decide) hw (ls_loop hh S (.tail _ hwl) (fun j m₁ cv₁ nw₁ => cv₁ = cv ∧ Agree wNames m₁ m ∧ ∃ k', nw₁ = (kl, { cls := .type "list", data := .seq (pat (isDunder y) (isSunder y) (j + 1)).toArray k' }) :: rest) ⟨rfl, Agree.refl, 0, rfl⟩ ?_ ?_)) (by intro _; rfl) PassesOwn.never
  · rintro j v m₁ cv₁ nw₁ h tk own hv _ ⟨rfl, hA, k', rfl⟩ hown S1
    obtain ⟨hj, rfl⟩ := wvals_at j v hv
    have ly := P.len j y
    have gn := upd_get (x := Str.ofString "other") (v := .ref (wa j)) (by decide) ((hA _ (by decide)).trans hn)
    have gk := upd_get (x := Str.ofString "other") (v := .ref (wa j)) (by decide) ((hA _ (by decide)).trans hk)
    have go : upd m₁ (Str.ofString "other") (.ref (wa j)) (Str.ofString "other") = some (.ref (wa j)) := upd_self
    have A1 : Agree wNames (upd m₁ (Str.ofString "other") (.ref (wa j))) m := hA.upd (by decide)
    generalize upd m₁ (Str.ofString "other") (.ref (wa j)) = m2 at *
    have hown' : ∀ p ∈ own, p.1 ≠ kl := fun p hp => by
      rcases hown p hp with e | e
      · rw [e]; exact hrest _ hwl
      · exact e _ (.head _)
    rw [wBody_eq]
    refine wpAny_execs_cons (w0 hj G hroom S1 go gn hy fun h2 k2 t4 S2 => ?_)
    show wpAny _ _ (execs _ _) _ _ _
    refine wpAny_execs_cons (w1 G hroom hu S2 hown' hrest (upd_get (by decide) gk) upd_self (by omega) (by rw [pat_len]; omega) fun h3 k3 k4 S3 => ?_)
    refine wpAny_execs_nil ⟨rfl, _, _, _, _, _, rfl, S3, rfl, rfl, A1.upd (by decide), k4, ?_⟩
    rw [P.d2 j y, P.s2 j y]
    rfl
  · rintro m₁ cv₁ nw₁ h tk _ ⟨rfl, hA, k', rfl⟩ S1
    exact H _ _ _ _ hA S1
theorem ls_newTuple {vs : List Value} {Q : Value → Shared → Prop} (S : LS h₀ L c s.heap m cv news) (hsz : vs.length ≤ 1000) (h : ∀ l h', LS h₀ L c h' m cv ((l, { cls := .type "tuple", data := .seq vs.toArray }) :: news) → Q (.ref l) { s with heap := h' }) :
    wpAny (model prog w) A (newTuple vs) Q E s :=
  wpAny_newObj_type (h _ _ (S.add (fun _ _ e => Heap.get?_push_of_some _ e) (Heap.get?_none_of_le (Nat.le_refl _)) (Heap.get?_push_size _ rfl)))
    (by show vs.toArray.size ≤ sizeLine; rw [List.size_toArray]; exact sizeLe (by omega))
theorem reads_tup2 {h : Heap} {l : Addr} {a b : Int} {t1 t2 : Tok} (hl : h.get? l = some (tup2 a b t1 t2)) : Reads h (.ref l) (.tuple [.int a, .int b]) [] :=
  Reads.tuple hl rfl rfl (ReadsAll.cons (as := []) (.int a t1) (ReadsAll.cons (as := []) (.int b t2) .nil))
/-- «ends == (i, j)» -/
theorem eq_tup2 {l1 l2 : Addr} {a b i j : Int} {t1 t2 t3 t4 : Tok} {Q : Value → Shared → Prop} (hu : A.units + 100 < cLine) (h1 : s.heap.get? l1 = some (tup2 a b t1 t2)) (h2 : s.heap.get? l2 = some (tup2 i j t3 t4))
    (h : Q (.bool (decide ((a, b) = (i, j)))) s) : wpAny (model prog w) A (compareOp .Eq (.ref l1) (.ref l2)) Q E s := by
  refine eq_dataH_same (reads_tup2 h1) (reads_tup2 h2) rfl rfl (by omega) rfl ?_
  have e : Spec.same (.tuple [.int a, .int b]) (.tuple [.int i, .int j]) = decide ((a, b) = (i, j)) := by
    simp [Spec.same, Spec.sameAll, Prod.mk.injEq]
    rfl
  rw [e]
  exact h
theorem ls_mul6 {l : Addr} {a b : Bool} {u : Tok} {Q : Value → Shared → Prop} (S : LS h₀ L c s.heap m cv news) (hl : (l, lst0 [.bool a, .bool b]) ∈ news)
    (h : ∀ l' h', LS h₀ L c h' m cv ((l', lst0 ([a, b, a, b, a, b, a, b, a, b, a, b].map Value.bool)) :: news) → Q (.ref l') { s with heap := h' }) :
    wpAny (model prog w) A (binaryOp .Mult (.ref l) (.int 6 u)) Q E s := by
  obtain ⟨oc, hoc, hcd⟩ := S.cell
  have N0 : News h₀ L s.heap ((c, oc) :: news) := fun p hp => by
    rcases List.mem_cons.mp hp with rfl | hp
    · exact ⟨hoc, S.cL, S.c0⟩
    · exact S.nw p hp
  refine mul_list S.fr N0 (S.nw _ hl).1 (by decide) (by decide) (by show 2 * 6 ≤ _; decide) fun h' F' N' => ?_
  refine h _ h' ⟨F', fun p hp => ?_, fun p hp => ?_, ⟨oc, (N' _ (.tail _ (.head _))).1, hcd⟩, S.cL, S.c0⟩
  · rcases List.mem_cons.mp hp with rfl | hp
    · exact N' _ (.head _)
    · exact N' p (.tail _ (.tail _ hp))
  · rcases List.mem_cons.mp hp with rfl | hp
    · exact (Nat.ne_of_lt (Heap.lt_size hoc)).symm
    · exact S.off p hp
set_option maxRecDepth 100000 in
set_option maxHeartbeats 4000000 in
theorem b12 {Q : Flow → Shared → Prop} {y : Str} {kl el : Addr} {t1 t2 : Tok} {k : Nat} (P : PL) (G : Gd w h₀) (hu : A.units + 100 < cLine) (hg : A.guards = some []) (S : LS h₀ L c s.heap m cv news)
    (hk : m (Str.ofString "kinds") = some (.ref kl)) (hkl : (kl, { cls := .type "list", data := .seq (pat (isDunder y) (isSunder y) 6).toArray k }) ∈ news)
    (he : m (Str.ofString "ends") = some (.ref el)) (hel : (el, tup2 (endsI y).1 (endsI y).2 t1 t2) ∈ news)
    (H : ∀ h' tk, LS h₀ L c h' m cv news → Q .next { s with heap := h', toks := tk }) :
    wpAny (model prog w) A (exec (bst 12) (lawEnv L fa cd)) Q E s := by
  show wpAny _ _ (exec (Stmt.If _ _ _ _) _) _ _ _
  have ed := P.d1 y
  have es := P.s1 y
  generalize isDunder y = a at *
  generalize isSunder y = b at *
  refine wpAny_If (wpAny_isTrue_Compare1 ?_)
  refine repr_call (bs := [a, b, a, b, a, b, a, b, a, b, a, b]) G hu hg S kkinds (by decide) hk hkl (twelve_fit _ _) fun h3 k3 t3 S3 => ?_
  refine Call_ (ld_bi G S3 globrepr bootrepr (by decide) kgrepr (by decide) ?_)
  refine PyProof.Rows.callWith_builtin1 ?_
  refine spliced_more (wpAny_BinOp (List_ (spliced_more (wpAny_Compare1 (ld_loc S3 kends (by decide) he ?_)))))
  refine Tuple_ (spliced_more (wpAny_Constant_int (spliced_more (wpAny_Constant_int (spliced_none ?_)))))
  refine ls_newTuple S3 (by show 2 ≤ 1000; decide) fun l4 h4 S4 => ?_
  refine eq_tup2 hu (S4.nw _ (.tail _ hel)).1 (S4.nw _ (.head _)).1 ?_
  refine spliced_more (wpAny_Compare1 (ld_loc S4 kends (by decide) he ?_))
  refine Tuple_ (spliced_more (wpAny_Constant_int (spliced_more (wpAny_Constant_int (spliced_none ?_)))))
  refine ls_newTuple S4 (by show 2 ≤ 1000; decide) fun l5 h5 S5 => ?_
  refine eq_tup2 hu (S5.nw _ (.tail _ (.tail _ hel))).1 (S5.nw _ (.head _)).1 (spliced_none ?_)
  rw [show ((endsI y).1, (endsI y).2) = endsI y from rfl, ← ed, ← es]
  refine ls_newList S5 (by show 2 ≤ 1000; decide) fun l6 h6 _ S6 => ?_
  refine wpAny_Constant_int (ls_mul6 S6 (.head _) fun l7 h7 S7 => spliced_none ?_)
  have hr : Reads h7 (.ref l7) (.list ([a, b, a, b, a, b, a, b, a, b, a, b].map PyData.bool)) [l7] := Reads.list (S7.nw _ (.head _)).1 rfl rfl (by simpa using reads_bools [a, b, a, b, a, b, a, b, a, b, a, b])
  have hd := depth_bools [a, b, a, b, a, b, a, b, a, b, a, b]
  refine repr_of_reads' hr (by simpa [PyData.showable] using showable_bools [a, b, a, b, a, b, a, b, a, b, a, b]) (fun e => by rw [noDict_bools] at e; cases e) hg (by simp only [PyData.depth]; omega) (fun _ _ e => e) (fun h' u tk hk => ?_) (twelve_fit _ _)
  refine ne_str (wpAny_truthy_bool ?_)
  rw [bne_self_eq_false]
  simp only [Bool.false_eq_true, if_false]
  exact wpAny_execs_nil (H _ _ ((S7.keeps hk).sub fun p hp => .tail _ (.tail _ (.tail _ (.tail _ hp)))))
end
end
/-! ### L10 -/
section
def forIter : Expr := match lawBody.getD 4 noStmt with | .For _ it _ _ _ => it | _ => .Name (Str.ofString "") ⟨0, 0, 0, 0⟩
theorem kscript {L fa : Addr} {cd : Value} : (lawEnv L fa cd).kindOf (Str.ofString "script") = some .local := rfl
def IntV (v : Value) : Prop := ∃ n t, v = Value.int n t
theorem ints_mem {vs : List Value} {ns : List Int} (h : IntsAre vs ns) : ∀ v ∈ vs, IntV v := by
  induction h with
  | nil => intro v hv; cases hv
  | cons n t _ ih =>
    intro v hv
    rcases List.mem_cons.mp hv with rfl | hv
    · exact ⟨n, t, rfl⟩
    · exact ih v hv
theorem paired_ints {vs ys : List Value} (h : Paired (fun _ y => IntV y) vs ys) : ∀ y ∈ ys, IntV y := by
  induction h with
  | nil => intro y hy; cases hy
  | cons hd _ ih =>
    intro y hy
    rcases List.mem_cons.mp hy with rfl | hy
    · exact hd
    · exact ih y hy
section
variable {prog : Program} {w : World} {A : Around} {E : Value → Shared → Prop} {s : Shared} {h₀ : Heap} {L c fa : Addr} {m : Str → Option Value} {cv : Option Value} {news : List (Addr × Obj)} {cd : Value}
theorem LS.drop2 {h : Heap} {a b d : Addr × Obj} (S : LS h₀ L c h m cv (a :: b :: d :: news)) : LS h₀ L c h m cv (a :: news) := S.sub fun p hp => by
  rcases List.mem_cons.mp hp with rfl | hp
  · exact .head _
  · exact .tail _ (.tail _ (.tail _ hp))
theorem ls_addLists {l b : Addr} {vs ws : List Value} {k k' : Nat} {Q : Value → Shared → Prop} (S : LS h₀ L c s.heap m cv news) (hl : (l, ({ cls := .type "list", data := .seq vs.toArray k } : Obj)) ∈ news) (hb : (b, ({ cls := .type "list", data := .seq ws.toArray k' } : Obj)) ∈ news) (hsz : vs.length + ws.length ≤ 1000)
    (h : ∀ l' h', LS h₀ L c h' m cv ((l', lst0 (vs ++ ws)) :: news) → Q (.ref l') { s with heap := h' }) :
    wpAny (model prog w) A (binaryOp .Add (.ref l) (.ref b)) Q E s := by
  obtain ⟨oc, hoc, hcd⟩ := S.cell
  have N0 : News h₀ L s.heap ((c, oc) :: news) := fun p hp => by
    rcases List.mem_cons.mp hp with rfl | hp
    · exact ⟨hoc, S.cL, S.c0⟩
    · exact S.nw p hp
  refine add_lists S.fr N0 (S.isList hl) (S.isList hb) (fun h' F' N' => ?_) (sizeLe (by omega))
  refine h _ h' ⟨F', fun p hp => ?_, fun p hp => ?_, ⟨oc, (N' _ (.tail _ (.head _))).1, hcd⟩, S.cL, S.c0⟩
  · rcases List.mem_cons.mp hp with rfl | hp
    · exact N' _ (.head _)
    · exact N' p (.tail _ (.tail _ hp))
  · rcases List.mem_cons.mp hp with rfl | hp
    · exact (Nat.ne_of_lt (Heap.lt_size hoc)).symm
    · exact S.off p hp
set_option maxRecDepth 100000 in
set_option maxHeartbeats 4000000 in
theorem iter_eval {Q : Value → Shared → Prop} {sa : Addr} {vs : List Value} {ns : List Int} (hh : A.handled = none) (S : LS h₀ L c s.heap m cv news) (hs : m (Str.ofString "script") = some (.ref sa)) (hl : h₀.IsList sa vs.toArray) (hi : IntsAre vs ns) (hlen : vs.length ≤ 63)
    (H : ∀ l us h' tk, (∀ u ∈ us, IntV u) → LS h₀ L c h' m cv ((l, lst0 us) :: news) → Q (.ref l) { s with heap := h', toks := tk }) :
    wpAny (model prog w) A (eval forIter (lawEnv L fa cd)) Q E s := by
  have hl' : s.heap.IsList sa vs.toArray := hl.at fun o e => S.fr.keep sa o e
  show wpAny _ _ (eval (Expr.BinOp _ _ _ _) _) _ _ _
  refine wpAny_BinOp (wpAny_ListComp_free (cl := []) (fun _ => true) (fun _ y => IntV y) rfl (by decide) rfl (by decide) (by decide) ?_)
  refine Subscript_ (ld_loc S kscript (by decide) hs (wpAny_Slice (evalPart_none_step (evalPart_some_step (wpAny_Constant_int (evalPart_none_step ?_))))))
  refine slice_listK hl' .none (.int _ _) ?_ (by with_unfolding_all rfl) (by intro _; with_unfolding_all rfl) (by rw [List.size_toArray]; exact sizeLe (by omega))
  have e5 : slicePick vs.toArray none (some 5) none = (vs.take 5).toArray := slicePick_upto' vs.toArray 5
  rw [e5]
  generalize hH : (s.heap.push { cls := .type "slice", data := .fields #[.none, .int 5 s.toks, .none] }).push { cls := .type "list", data := .seq (vs.take 5).toArray } = H2
  have up : ∀ b o, s.heap.get? b = some o → H2.get? b = some o := fun b o e => hH ▸ Heap.get?_push_of_some _ (Heap.get?_push_of_some _ e)
  have hls : H2.IsList (s.heap.objs.size + 1) (vs.take 5).toArray := by
    refine ⟨{ cls := .type "list", data := .seq (vs.take 5).toArray }, ?_, rfl, 0, rfl⟩
    have := Heap.get?_push_size (s.heap.push { cls := .type "slice", data := .fields #[.none, .int 5 s.toks, .none] }) (o := { cls := .type "list", data := .seq (vs.take 5).toArray }) rfl
    rw [Heap.size_push] at this
    rw [← hH]
    exact this
  have hlt : s.heap.objs.size + 1 < H2.objs.size := by obtain ⟨_, e, _⟩ := hls; exact Heap.lt_size e
  refine wpAny_pyIter_list hls ?_
  have hn5 : (vs.take 5).toArray.size ≤ sizeLine := by rw [List.size_toArray, List.length_take]; exact sizeLe (by omega)
  refine ⟨_, _, _, _, _, _, rfl, Walks.list (A := A) hh H2.objs.size (s.heap.objs.size + 1) (Nat.ne_of_lt hlt) (vs.take 5).toArray, hn5, ⟨⟨_, Heap.get?_push_size _ rfl, rfl, rfl⟩, hls.push _⟩, ?_, ⟨?_, ?_⟩, ?_⟩
  · intro b hb
    show _ < (Heap.push _ _).objs.size
    rw [Heap.size_push]
    rcases List.mem_cons.mp hb with rfl | hb
    · exact Nat.lt_succ_self _
    · rw [List.mem_singleton.mp hb]; exact Nat.lt_succ_of_lt hlt
  · intro C' j v s₃ m₃ E' hC hP hn hm hk _
    exact wpAny_tests_nil ⟨rfl, keepsRefl⟩
  · intro C' j v s₃ m₃ E' hC hP _ hn hm hk _
    have hv : v ∈ vs := List.mem_of_mem_take (List.mem_of_getElem? (by simpa using hP))
    obtain ⟨n, t, rfl⟩ := ints_mem hi v hv
    refine wpAny_BinOp (wpAny_Name (wpAny_loadName_local rfl rfl hn hm ?_) (by decide))
    refine wpAny_BinOp (wpAny_Constant_int (wpAny_Constant_int (pow_int_small (by decide) (by decide) (by decide) ?_)))
    refine mod_int' (by decide) ?_
    exact ⟨⟨_, _, rfl⟩, ⟨_, _, rfl, fun _ _ e => e⟩⟩
  · intro D h' tk' ys us hDn hlD hpl hlenD hP hF hk
    have hys := paired_ints hF
    have hlD2 : ys.toList.length ≤ 63 := by
      have h1 := hF.length
      have h2 : (us.filter fun _ => true).length ≤ us.length := List.length_filter_le _ _
      rw [List.size_toArray, List.length_take] at hlenD
      omega
    obtain ⟨kD, hkD⟩ := hpl
    have hD0 : s.heap.get? D = none := by
      cases e : s.heap.get? D with
      | none => rfl
      | some o' => rw [Heap.get?_push_of_some _ (up _ _ e)] at hDn; cases hDn
    have S1 : LS h₀ L c h' m cv ((D, { cls := .type "list", data := .seq ys.toList.toArray kD }) :: news) := S.add (fun b o e => hk b o (old_not_new (up b o e)) (Heap.get?_push_of_some _ (up b o e))) hD0 hkD
    refine List_ (spliced_more (wpAny_Constant_int (spliced_more (wpAny_Constant_int (spliced_more (wpAny_Constant_int (spliced_more (wpAny_Constant_int (spliced_more (wpAny_Constant_int ?_))))))))))
    refine spliced_more (wpAny_Constant_int (spliced_more (wpAny_Constant_int (spliced_more (wpAny_Constant_int (spliced_more (wpAny_Constant_int (spliced_none ?_))))))))
    refine ls_newList S1 (by show 9 ≤ 1000; decide) fun l2 h2 _ S2 => ?_
    refine ls_addLists S2 (.tail _ (.head _)) (.head _) (by show _ + 9 ≤ 1000; omega) fun l3 h3 S3 => ?_
    refine H _ _ _ _ (fun u hu => ?_) S3.drop2
    · rcases List.mem_append.mp hu with hu | hu
      · exact hys u hu
      · simp only [List.mem_cons, List.not_mem_nil, or_false] at hu
        rcases hu with rfl | rfl | rfl | rfl | rfl | rfl | rfl | rfl | rfl <;> exact ⟨_, _, rfl⟩
end
end
/-! ### L11 -/
section
def lawNames : List Str := [Str.ofString "x", Str.ofString "name", Str.ofString "writer", Str.ofString "written", Str.ofString "stretches", Str.ofString "papers", Str.ofString "owner", Str.ofString "paper", Str.ofString "hides", Str.ofString "plain", Str.ofString "due", Str.ofString "ends", Str.ofString "kinds", Str.ofString "other", Str.ofString "made"]
theorem Agree.trans {xs ys : List Str} {m m' m₀ : Str → Option Value} (h : Agree xs m m') (h' : Agree ys m' m₀) (hs : ∀ z ∈ xs, ys.contains z = true) : Agree ys m m₀ := fun z hz => by
  refine (h z ?_).trans (h' z hz)
  cases e : xs.contains z with
  | false => rfl
  | true => rw [hs z (by simpa using e)] at hz; cases hz
theorem strs_len {vs : List Value} {ys : List Str} (h : StrsAre vs ys) : vs.length = ys.length := by
  induction h with
  | nil => rfl
  | cons _ _ _ ih => rw [List.length_cons, List.length_cons, ih]
theorem stretch_count (y : Str) : (stretchS y).length ≤ y.length := by
  unfold stretchS
  split
  · exact Nat.zero_le _
  · unfold cutsS
    rw [List.length_map]
    refine Nat.le_trans (List.length_filter_le _ _) ?_
    rw [List.length_range]
    omega
/-- what the law makes ahead of its loop, as the loop's turns find it -/
structure Pre (prog : Program) (w : World) (m : Str → Option Value) (news : List (Addr × Obj)) (ol rl tl wl : Addr) (ov rv : List Value) (os rs : List Str) (dA : Nat → Addr) (kv : Nat → List (Str × Value)) : Prop where
  fO : m (Str.ofString "owners") = some (.ref ol)
  fR : m (Str.ofString "rests") = some (.ref rl)
  fT : m (Str.ofString "tables") = some (.ref tl)
  fW : m (Str.ofString "writers") = some (.ref wl)
  mO : (ol, lst0 ov) ∈ news
  mR : (rl, lst0 rv) ∈ news
  mT : (tl, lst0 [.ref (dA 0), .ref (dA 1), .ref (dA 2), .ref (dA 3), .ref (dA 4)]) ∈ news
  mW : (wl, lst0 wvals) ∈ news
  sO : StrsAre ov os
  sR : StrsAre rv rs
  lO : os.length = 7
  lR : rs.length = 4
  bO : ∀ y ∈ os, y.length ≤ 5
  bR : ∀ y ∈ rs, y.length ≤ 4
  tab : ∀ i, i < 5 → TabOk prog w news (dA i) i (kv i)
theorem tabs_at {dA : Nat → Addr} : ∀ i, i < 5 → ([.ref (dA 0), .ref (dA 1), .ref (dA 2), .ref (dA 3), .ref (dA 4)] : List Value)[i]? = some (.ref (dA i))
  | 0, _ => rfl
  | 1, _ => rfl
  | 2, _ => rfl
  | 3, _ => rfl
  | 4, _ => rfl
theorem wvals_get : ∀ i, i < 5 → wvals[i]? = some (.ref (wa i))
  | 0, _ => rfl
  | 1, _ => rfl
  | 2, _ => rfl
  | 3, _ => rfl
  | 4, _ => rfl
section
variable {prog : Program} {w : World} {A : Around} {E : Value → Shared → Prop} {s : Shared} {h₀ : Heap} {L c fa : Addr} {m : Str → Option Value} {cv : Option Value} {news : List (Addr × Obj)} {cd : Value}
theorem TabOk.mono {d : Addr} {i : Nat} {kvs : List (Str × Value)} {news' : List (Addr × Obj)} (T : TabOk prog w news d i kvs) (hs : ∀ p ∈ news, p ∈ news') : TabOk prog w news' d i kvs :=
  let ⟨o, h1, h2⟩ := T.mem
  ⟨⟨o, hs _ h1, h2⟩, T.lo, T.texts, T.eq⟩
set_option maxRecDepth 100000 in
set_option maxHeartbeats 4000000 in
/-- one turn of the law's loop -/
theorem turn {m₁ : Str → Option Value} {n : Int} {t : Tok} {own : List (Addr × Obj)} {ol rl tl wl : Addr} {ov rv : List Value} {os rs : List Str} {dA : Nat → Addr} {kv : Nat → List (Str × Value)} (P : PL) (hc : c = L + 1) (G : Gd w h₀)
    (hroom : A.depth < recursionLimit) (hh : A.handled = none) (hu : A.units + 100 < cLine) (hg : A.guards = some []) (B : Pre prog w m news ol rl tl wl ov rv os rs dA kv) (hA : Agree lawNames m₁ m)
    (S : LS h₀ L c s.heap (upd m₁ (Str.ofString "x") (.int n t)) cv (own ++ news)) {Q : Flow → Shared → Prop}
    (H : ∀ h' tk m' cv', Agree lawNames m' m → LS h₀ L c h' m' cv' (own ++ news) → Q .next { s with heap := h', toks := tk }) :
    wpAny (model prog w) A (execs forBody (lawEnv L fa cd)) Q (fun _ _ => False) s := by
  have memb : ∀ {p : Addr × Obj}, p ∈ news → p ∈ own ++ news := fun h => List.mem_append_right _ h
  have hi := wi_lt n
  have T0 : TabOk prog w (own ++ news) (dA (wi n)) (wi n) (kv (wi n)) := (B.tab _ hi).mono fun p hp => memb hp
  have fO := upd_get (x := Str.ofString "x") (v := .int n t) (by decide) ((hA _ (by decide)).trans B.fO)
  have fR := upd_get (x := Str.ofString "x") (v := .int n t) (by decide) ((hA _ (by decide)).trans B.fR)
  have fT := upd_get (x := Str.ofString "x") (v := .int n t) (by decide) ((hA _ (by decide)).trans B.fT)
  have fW := upd_get (x := Str.ofString "x") (v := .int n t) (by decide) ((hA _ (by decide)).trans B.fW)
  have fx : upd m₁ (Str.ofString "x") (.int n t) (Str.ofString "x") = some (.int n t) := upd_self
  have A1 : Agree lawNames (upd m₁ (Str.ofString "x") (.int n t)) m := hA.upd (by decide)
  generalize upd m₁ (Str.ofString "x") (.int n t) = m1 at *
  rw [forBody_eq]
  -- name
  refine wpAny_execs_cons (b0 S fx fO (memb B.mO) B.sO B.lO B.bO fun h2 k2 y0 t2 ly0 S2 => ?_)
  show wpAny _ _ (execs _ _) _ _ _
  refine wpAny_execs_cons (b1 S2 (upd_get (by decide) fx) upd_self ly0 (upd_get (by decide) fR) (memb B.mR) B.sR B.lR B.bR fun h3 k3 y t3 ly S3 => ?_)
  show wpAny _ _ (execs _ _) _ _ _
  have A3 : Agree lawNames _ m := (A1.upd (x := Str.ofString "name") (v := .str y0 t2) (by decide)).upd (x := Str.ofString "name") (v := .str y t3) (by decide)
  have gn : upd (upd m1 (Str.ofString "name") (.str y0 t2)) (Str.ofString "name") (.str y t3) (Str.ofString "name") = some (.str y t3) := upd_self
  have gx := upd_get (x := Str.ofString "name") (v := .str y t3) (by decide) (upd_get (x := Str.ofString "name") (v := .str y0 t2) (by decide) fx)
  have gT := upd_get (x := Str.ofString "name") (v := .str y t3) (by decide) (upd_get (x := Str.ofString "name") (v := .str y0 t2) (by decide) fT)
  have gW := upd_get (x := Str.ofString "name") (v := .str y t3) (by decide) (upd_get (x := Str.ofString "name") (v := .str y0 t2) (by decide) fW)
  have gO := upd_get (x := Str.ofString "name") (v := .str y t3) (by decide) (upd_get (x := Str.ofString "name") (v := .str y0 t2) (by decide) fO)
  clear fO fR fT fW fx A1 S2 S
  generalize upd (upd m1 (Str.ofString "name") (.str y0 t2)) (Str.ofString "name") (.str y t3) = m3 at *
  -- table, writer
  refine wpAny_execs_cons (b2 hc S3 gx gT (memb B.mT) (tabs_at _ hi) fun h4 k4 S4 => ?_)
  show wpAny _ _ (execs _ _) _ _ _
  refine wpAny_execs_cons (b3 S4 gx gW (memb B.mW) (wvals_get _ hi) fun h5 k5 S5 => ?_)
  show wpAny _ _ (execs _ _) _ _ _
  generalize hwi : wi n = i at *
  -- written
  refine wpAny_execs_cons (b4 hi G hroom S5 upd_self (upd_get (by decide) gn) ly fun h6 k6 t6 S6 => ?_)
  show wpAny _ _ (execs _ _) _ _ _
  have A6 : Agree lawNames _ m := (A3.upd (x := Str.ofString "writer") (v := .ref (wa i)) (by decide)).upd (x := Str.ofString "written") (v := .str (escS i y) t6) (by decide)
  have g6n := upd_get (x := Str.ofString "written") (v := .str (escS i y) t6) (by decide) (upd_get (x := Str.ofString "writer") (v := .ref (wa i)) (by decide) gn)
  have g6W := upd_get (x := Str.ofString "written") (v := .str (escS i y) t6) (by decide) (upd_get (x := Str.ofString "writer") (v := .ref (wa i)) (by decide) gW)
  have g6O := upd_get (x := Str.ofString "written") (v := .str (escS i y) t6) (by decide) (upd_get (x := Str.ofString "writer") (v := .ref (wa i)) (by decide) gO)
  have g6w := upd_get (x := Str.ofString "written") (v := .str (escS i y) t6) (by decide) (upd_self (m := m3) (x := Str.ofString "writer") (v := .ref (wa i)))
  have g6r : upd (upd m3 (Str.ofString "writer") (.ref (wa i))) (Str.ofString "written") (.str (escS i y) t6) (Str.ofString "written") = some (.str (escS i y) t6) := upd_self
  clear gn gx gT gW gO A3 S3 S4 S5
  generalize upd (upd m3 (Str.ofString "writer") (.ref (wa i))) (Str.ofString "written") (.str (escS i y) t6) = m6 at *
  refine wpAny_execs_cons (b5 hc G hroom hh S6 T0 g6r g6n ly fun h7 k7 S7 => ?_)
  show wpAny _ _ (execs _ _) _ _ _
  -- stretches, papers
  refine wpAny_execs_cons (b6 G hroom hh S7 g6n ly fun h8 k8 sl ys kk hS S8 => ?_)
  show wpAny _ _ (execs _ _) _ _ _
  have hys : ys.size ≤ 1000 := by
    have h1 := strs_len hS
    have h2 := stretch_count y
    rw [Array.length_toList] at h1
    omega
  refine wpAny_execs_cons (b7 hc G hroom hh S8 (T0.cons _) upd_self (.head _) hS ly hys fun h9 k9 pl zs kk' hP S9 => ?_)
  show wpAny _ _ (execs _ _) _ _ _
  rw [show wrS (kv i) = escS i from funext T0.eq] at hP
  have A9 : Agree lawNames _ m := (A6.upd (x := Str.ofString "stretches") (v := .ref sl) (by decide)).upd (x := Str.ofString "papers") (v := .ref pl) (by decide)
  have g9n := upd_get (x := Str.ofString "papers") (v := .ref pl) (by decide) (upd_get (x := Str.ofString "stretches") (v := .ref sl) (by decide) g6n)
  have g9W := upd_get (x := Str.ofString "papers") (v := .ref pl) (by decide) (upd_get (x := Str.ofString "stretches") (v := .ref sl) (by decide) g6W)
  have g9O := upd_get (x := Str.ofString "papers") (v := .ref pl) (by decide) (upd_get (x := Str.ofString "stretches") (v := .ref sl) (by decide) g6O)
  have g9w := upd_get (x := Str.ofString "papers") (v := .ref pl) (by decide) (upd_get (x := Str.ofString "stretches") (v := .ref sl) (by decide) g6w)
  have g9r := upd_get (x := Str.ofString "papers") (v := .ref pl) (by decide) (upd_get (x := Str.ofString "stretches") (v := .ref sl) (by decide) g6r)
  have g9s := upd_get (x := Str.ofString "papers") (v := .ref pl) (by decide) (upd_self (m := m6) (x := Str.ofString "stretches") (v := .ref sl))
  have g9p : upd (upd m6 (Str.ofString "stretches") (.ref sl)) (Str.ofString "papers") (.ref pl) (Str.ofString "papers") = some (.ref pl) := upd_self
  clear g6n g6W g6O g6w g6r A6 S6 S7 S8
  generalize upd (upd m6 (Str.ofString "stretches") (.ref sl)) (Str.ofString "papers") (.ref pl) = m9 at *
  -- the owners
  refine wpAny_execs_cons (b8 P hi hc G hroom hh hu hg S9 ((T0.cons _).cons _) g9w g9n ly g9r g9s (.tail _ (.head _)) hS g9p (.head _) hP g9O (.tail _ (.tail _ (memb B.mO))) B.sO B.bO fun h10 k10 m10 hA10 S10 => ?_)
  show wpAny _ _ (execs _ _) _ _ _
  have A10 : Agree lawNames m10 m := hA10.trans A9 (by decide)
  have g10n := (hA10 _ (by decide)).trans g9n
  have g10W := (hA10 _ (by decide)).trans g9W
  clear g9n g9W g9O g9w g9r g9s g9p A9 S9 hA10
  -- ends, kinds
  refine wpAny_execs_cons (b9 G hroom hh hu S10 g10n ly fun h11 k11 el t11 t12 S11 => ?_)
  show wpAny _ _ (execs _ _) _ _ _
  refine wpAny_execs_cons (b10 G hroom hu S11 (upd_get (by decide) g10n) ly fun h12 k12 kl hkl S12 => ?_)
  show wpAny _ _ (execs _ _) _ _ _
  have A12 : Agree lawNames _ m := (A10.upd (x := Str.ofString "ends") (v := .ref el) (by decide)).upd (x := Str.ofString "kinds") (v := .ref kl) (by decide)
  have g12n := upd_get (x := Str.ofString "kinds") (v := .ref kl) (by decide) (upd_get (x := Str.ofString "ends") (v := .ref el) (by decide) g10n)
  have g12W := upd_get (x := Str.ofString "kinds") (v := .ref kl) (by decide) (upd_get (x := Str.ofString "ends") (v := .ref el) (by decide) g10W)
  have g12e := upd_get (x := Str.ofString "kinds") (v := .ref kl) (by decide) (upd_self (m := m10) (x := Str.ofString "ends") (v := .ref el))
  have g12k : upd (upd m10 (Str.ofString "ends") (.ref el)) (Str.ofString "kinds") (.ref kl) (Str.ofString "kinds") = some (.ref kl) := upd_self
  clear g10n g10W A10 S10 S11
  generalize upd (upd m10 (Str.ofString "ends") (.ref el)) (Str.ofString "kinds") (.ref kl) = m12 at *
  refine wpAny_execs_cons (b11 P G hroom hh hu S12 hkl g12n ly g12k g12W (.tail _ (.tail _ (.tail _ (memb B.mW)))) fun h13 k13 m13 kk13 hA13 S13 => ?_)
  show wpAny _ _ (execs _ _) _ _ _
  have A13 : Agree lawNames m13 m := hA13.trans A12 (by decide)
  refine wpAny_execs_cons (b12 P G hu hg S13 ((hA13 _ (by decide)).trans g12k) (.head _) ((hA13 _ (by decide)).trans g12e) (.tail _ (.head _)) fun h14 k14 S14 => ?_)
  exact wpAny_execs_nil (H _ _ _ _ A13 (S14.sub fun p hp => .tail _ (.tail _ (.tail _ (.tail _ hp)))))
end
end
/-! ### L12 -/
section
def lst (i : Nat) : Stmt := lawBody.getD i noStmt
theorem lawBody_eq : lawBody = [lst 0, lst 1, lst 2, lst 3, lst 4, lst 5] := rfl
section
variable {L fa : Addr} {cd : Value}
theorem kgtables : (lawEnv L fa cd).kindOf (Str.ofString "_law_tables") = some .globalImplicit := rfl
theorem kge0 : (lawEnv L fa cd).kindOf (Str.ofString "_escape_cdata") = some .globalImplicit := rfl
theorem kge1 : (lawEnv L fa cd).kindOf (Str.ofString "_escape_attrib") = some .globalImplicit := rfl
theorem kge2 : (lawEnv L fa cd).kindOf (Str.ofString "_escape_attrib_html") = some .globalImplicit := rfl
theorem kge3 : (lawEnv L fa cd).kindOf (Str.ofString "_escape_cdata_c14n") = some .globalImplicit := rfl
theorem kge4 : (lawEnv L fa cd).kindOf (Str.ofString "_escape_attrib_c14n") = some .globalImplicit := rfl
end
theorem keep84 {P : Params} : keepIn (hd.heap_39 P) (.ref 84) = true := by k_is
theorem glob84 {P : Params} : nsIn (hd.heap_39 P) mainGlobals (Str.ofString "_law_tables") = some (some (.ref 84)) := by k_is
theorem globe0 {P : Params} : nsIn (hd.heap_39 P) mainGlobals (Str.ofString "_escape_cdata") = some (some (.ref 49)) := by k_is
theorem globe1 {P : Params} : nsIn (hd.heap_39 P) mainGlobals (Str.ofString "_escape_attrib") = some (some (.ref 56)) := by k_is
theorem globe2 {P : Params} : nsIn (hd.heap_39 P) mainGlobals (Str.ofString "_escape_attrib_html") = some (some (.ref 63)) := by k_is
theorem globe3 {P : Params} : nsIn (hd.heap_39 P) mainGlobals (Str.ofString "_escape_cdata_c14n") = some (some (.ref 70)) := by k_is
theorem globe4 {P : Params} : nsIn (hd.heap_39 P) mainGlobals (Str.ofString "_escape_attrib_c14n") = some (some (.ref 77)) := by k_is
/-- what the tables' texts say (shown in the plain part) -/
structure TL : Prop where
  texts : ∀ i kvs, Says i kvs → Texts kvs
  eq : ∀ i kvs, Says i kvs → ∀ x, wrS kvs x = escS i x
def ownersS : List Str := [Str.ofString "", Str.ofString "a", Str.ofString "&", Str.ofString "&amp;", Str.ofString "\"<", Str.ofString "_a>", Str.ofString "a&b"]
def restsS : List Str := [Str.ofString "", Str.ofString "x", Str.ofString "&\t\">", Str.ofString "\r<\n"]
section
variable {prog : Program} {w : World} {A : Around} {E : Value → Shared → Prop} {s : Shared} {h₀ : Heap} {L c fa : Addr} {m : Str → Option Value} {cv : Option Value} {news : List (Addr × Obj)} {cd : Value}
theorem ls_newTexts {vs : List Value} {ys : List Str} {Q : Value → Shared → Prop} (S : LS h₀ L c s.heap m cv news) (hS : StrsAre vs ys) (hsz : vs.length ≤ 1000) (h : ∀ vs' l h', StrsAre vs' ys → LS h₀ L c h' m cv ((l, lst0 vs') :: news) → Q (.ref l) { s with heap := h' }) :
    wpAny (model prog w) A (newList vs) Q E s := ls_newList S hsz fun l h' _ S' => h vs l h' hS S'
theorem LS.adds {h h' : Heap} {ps : List (Addr × Obj)} (S : LS h₀ L c h m cv news) (k : ∀ b o, h.get? b = some o → h'.get? b = some o) (hp : ∀ p ∈ ps, h.get? p.1 = none ∧ h'.get? p.1 = some p.2) : LS h₀ L c h' m cv (ps ++ news) := by
  have S' := S.keeps k
  refine ⟨S'.fr, fun p hm => ?_, fun p hm => ?_, S'.cell, S'.cL, S'.c0⟩
  · rcases List.mem_append.mp hm with hm | hm
    · obtain ⟨a, b⟩ := hp p hm
      refine ⟨b, fun e => ?_, ?_⟩
      · obtain ⟨o', _, _, ho', _⟩ := S.fr.ns; rw [e, ho'] at a; cases a
      · cases e : h₀.get? p.1 with
        | none => rfl
        | some o' => rw [S.fr.keep _ _ e] at a; cases a
    · exact S'.nw p hm
  · rcases List.mem_append.mp hm with hm | hm
    · obtain ⟨a, b⟩ := hp p hm
      intro e
      obtain ⟨o', ho', _⟩ := S.cell; rw [e, ho'] at a; cases a
    · exact S'.off p hm
theorem Pre.mono {ol rl tl wl : Addr} {ov rv : List Value} {os rs : List Str} {dA : Nat → Addr} {kv : Nat → List (Str × Value)} {news' : List (Addr × Obj)} (B : Pre prog w m news ol rl tl wl ov rv os rs dA kv) (hs : ∀ p ∈ news, p ∈ news') : Pre prog w m news' ol rl tl wl ov rv os rs dA kv :=
  ⟨B.fO, B.fR, B.fT, B.fW, hs _ B.mO, hs _ B.mR, hs _ B.mT, hs _ B.mW, B.sO, B.sR, B.lO, B.lR, B.bO, B.bR, fun i hi => (B.tab i hi).mono hs⟩
set_option maxRecDepth 100000 in
set_option maxHeartbeats 4000000 in
theorem p4 {Q : Flow → Shared → Prop} {sa : Addr} {vs : List Value} {ns : List Int} {ol rl tl wl : Addr} {ov rv : List Value} {os rs : List Str} {dA : Nat → Addr} {kv : Nat → List (Str × Value)} (P : PL) (hc : c = L + 1) (G : Gd w h₀)
    (hroom : A.depth < recursionLimit) (hh : A.handled = none) (hu : A.units + 100 < cLine) (hg : A.guards = some []) (B : Pre prog w m news ol rl tl wl ov rv os rs dA kv)
    (S : LS h₀ L c s.heap m cv news) (hs : m (Str.ofString "script") = some (.ref sa)) (hl : h₀.IsList sa vs.toArray) (hi : IntsAre vs ns) (hlen : vs.length ≤ 63)
    (H : ∀ h' tk m' cv', LS h₀ L c h' m' cv' news → Q .next { s with heap := h', toks := tk }) :
    wpAny (model prog w) A (exec (lst 4) (lawEnv L fa cd)) Q (fun _ _ => False) s := by
  show wpAny _ _ (exec (Stmt.For (.Name (Str.ofString "x") _) forIter forBody [] _) _) _ _ _
  refine For_invV h₀ kx rfl (iter_eval hh S hs hl hi hlen fun l us h' tk hus S1 => ?_) (by intro _; rfl) PassesOwn.never
  refine ls_loop hh S1 (.head _) (fun _ m₁ _ nw₁ => nw₁ = (l, lst0 us) :: news ∧ Agree lawNames m₁ m) ⟨rfl, Agree.refl⟩ ?_ ?_
  · rintro j v m₁ cv₁ nw₁ h tk own hv _ ⟨rfl, hA⟩ _ S2
    obtain ⟨n, t, rfl⟩ := hus v (List.mem_of_getElem? hv)
    refine turn P hc G hroom hh hu hg (B.mono fun p hp => .tail _ hp) hA S2 fun h3 k3 m3 cv3 hA3 S3 => ?_
    exact ⟨rfl, _, _, _, _, _, rfl, S3, rfl, rfl, hA3⟩
  · rintro m₁ cv₁ nw₁ h tk _ ⟨rfl, hA⟩ S2
    exact H _ _ _ _ (S2.sub fun p hp => .tail _ hp)
set_option maxRecDepth 100000 in
set_option maxHeartbeats 4000000 in
theorem law_all {Q : Flow → Shared → Prop} {sa : Addr} {vs : List Value} {ns : List Int} (P : PL) (TT : TL) (hc : c = L + 1) (G : Gd w h₀)
    (hroom : A.depth < recursionLimit) (hh : A.handled = none) (hu : A.units + 100 < cLine) (hg : A.guards = some [])
    (S : LS h₀ L c s.heap m cv []) (hs : m (Str.ofString "script") = some (.ref sa)) (hl : h₀.IsList sa vs.toArray) (hi : IntsAre vs ns) (hlen : vs.length ≤ 63)
    (H : ∀ h' tk m', Fr h₀ L h' m' → Q (.ret (.bool true)) { s with heap := h', toks := tk }) :
    wpAny (model prog w) A (execs lawBody (lawEnv L fa cd)) Q E s := by
  refine wpAny_mono (E := fun _ _ => False) (Q := Q) ?_ (fun _ _ x => x) fun _ _ x => x.elim
  rw [lawBody_eq]
  -- writers
  refine wpAny_execs_cons ?_
  show wpAny _ _ (exec (Stmt.Assign _ _ _) _) _ _ _
  refine wpAny_Assign_Name (List_ (spliced_more (ld_glob G S globe0 kge0 (by decide) (spliced_more (ld_glob G S globe1 kge1 (by decide) ?_)))))
  refine spliced_more (ld_glob G S globe2 kge2 (by decide) (spliced_more (ld_glob G S globe3 kge3 (by decide) (spliced_more (ld_glob G S globe4 kge4 (by decide) (spliced_none ?_))))))
  refine ls_newList S (by show 5 ≤ 1000; decide) fun wl h1 _ S1 => ?_
  refine st_loc S1 kwriters fun h2 k2 S2 => ?_
  show wpAny _ _ (execs _ _) _ _ _
  -- tables
  refine wpAny_execs_cons ?_
  show wpAny _ _ (exec (Stmt.Assign _ _ _) _) _ _ _
  refine wpAny_Assign_Name (Call_ (ld_glob G S2 glob84 kgtables (by decide) ?_))
  refine callWith_K0 (K := hd.heap_39 w.params) (G.at S2).2 keep84 ?_
  refine tables_pure (G.at S2) hroom fun tl d0 d1 d2 d3 d4 o0 o1 o2 o3 o4 kv0 kv1 kv2 kv3 kv4 s' hK htl hol hds hsay => ?_
  obtain ⟨h3, k3, rfl, hk⟩ := hK
  have S3 := S2.adds (ps := [(tl, lst0 [.ref d0, .ref d1, .ref d2, .ref d3, .ref d4]), (d0, o0), (d1, o1), (d2, o2), (d3, o3), (d4, o4)]) hk (fun p hp => by
    rcases List.mem_cons.mp hp with rfl | hp
    · exact ⟨htl, hol⟩
    · exact ⟨(hds p hp).1, (hds p hp).2.1⟩)
  have lo0 := (hds (d0, o0) (.head _)).2.2
  have lo1 := (hds (d1, o1) (.tail _ (.head _))).2.2
  have lo2 := (hds (d2, o2) (.tail _ (.tail _ (.head _)))).2.2
  have lo3 := (hds (d3, o3) (.tail _ (.tail _ (.tail _ (.head _))))).2.2
  have lo4 := (hds (d4, o4) (.tail _ (.tail _ (.tail _ (.tail _ (.head _)))))).2.2
  refine st_loc S3 ktables fun h4 k4 S4 => ?_
  show wpAny _ _ (execs _ _) _ _ _
  -- owners
  refine wpAny_execs_cons ?_
  show wpAny _ _ (exec (Stmt.Assign _ _ _) _) _ _ _
  refine wpAny_Assign_Name (List_ (spliced_more (Calls.Constant_str (spliced_more (Calls.Constant_str (spliced_more (Calls.Constant_str (spliced_more (Calls.Constant_str ?_)))))))))
  refine spliced_more (Calls.Constant_str (spliced_more (Calls.Constant_str (spliced_more (Calls.Constant_str (spliced_none ?_))))))
  refine ls_newTexts (ys := ownersS) S4 (.cons _ _ (.cons _ _ (.cons _ _ (.cons _ _ (.cons _ _ (.cons _ _ (.cons _ _ .nil))))))) (by show 7 ≤ 1000; decide) fun ov ol h5 hov S5 => ?_
  refine st_loc S5 kowners fun h6 k6 S6 => ?_
  show wpAny _ _ (execs _ _) _ _ _
  -- rests
  refine wpAny_execs_cons ?_
  show wpAny _ _ (exec (Stmt.Assign _ _ _) _) _ _ _
  refine wpAny_Assign_Name (List_ (spliced_more (Calls.Constant_str (spliced_more (Calls.Constant_str (spliced_more (Calls.Constant_str (spliced_more (Calls.Constant_str (spliced_none ?_))))))))))
  refine ls_newTexts (ys := restsS) S6 (.cons _ _ (.cons _ _ (.cons _ _ (.cons _ _ .nil)))) (by show 4 ≤ 1000; decide) fun rv rl h7 hrv S7 => ?_
  refine st_loc S7 krests fun h8 k8 S8 => ?_
  show wpAny _ _ (execs _ _) _ _ _
  -- the loop
  refine wpAny_execs_cons (p4 (ov := ov) (rv := rv) (ol := ol) (rl := rl) (tl := tl) (wl := wl) (os := ownersS) (rs := restsS) (dA := fun i => [d0, d1, d2, d3, d4].getD i 0) (kv := fun i => [kv0, kv1, kv2, kv3, kv4].getD i []) P hc G hroom hh hu hg ?hB S8 ?hsc hl hi hlen fun h9 k9 m9 cv9 S9 => ?hfin)
  case hB =>
    refine ⟨upd_get (by decide) upd_self, upd_self, upd_get (by decide) (upd_get (by decide) upd_self), upd_get (by decide) (upd_get (by decide) (upd_get (by decide) upd_self)), .tail _ (.head _), .head _, .tail _ (.tail _ (.head _)), ?_, hov, hrv, rfl, rfl, by decide +kernel, by decide +kernel, ?_⟩
    · exact .tail _ (.tail _ (List.mem_append_right _ (.head _)))
    · obtain ⟨⟨a0, b0⟩, ⟨a1, b1⟩, ⟨a2, b2⟩, ⟨a3, b3⟩, ⟨a4, b4⟩⟩ := hsay
      intro i hi
      match i, hi with
      | 0, _ => exact ⟨⟨o0, .tail _ (.tail _ (.tail _ (.head _))), a0⟩, lo0, TT.texts _ _ b0, TT.eq _ _ b0⟩
      | 1, _ => exact ⟨⟨o1, .tail _ (.tail _ (.tail _ (.tail _ (.head _)))), a1⟩, lo1, TT.texts _ _ b1, TT.eq _ _ b1⟩
      | 2, _ => exact ⟨⟨o2, .tail _ (.tail _ (.tail _ (.tail _ (.tail _ (.head _))))), a2⟩, lo2, TT.texts _ _ b2, TT.eq _ _ b2⟩
      | 3, _ => exact ⟨⟨o3, .tail _ (.tail _ (.tail _ (.tail _ (.tail _ (.tail _ (.head _)))))), a3⟩, lo3, TT.texts _ _ b3, TT.eq _ _ b3⟩
      | 4, _ => exact ⟨⟨o4, .tail _ (.tail _ (.tail _ (.tail _ (.tail _ (.tail _ (.tail _ (.head _))))))), a4⟩, lo4, TT.texts _ _ b4, TT.eq _ _ b4⟩
  case hsc => exact upd_get (by decide) (upd_get (by decide) (upd_get (by decide) (upd_get (by decide) hs)))
  case hfin =>
    show wpAny _ _ (execs _ _) _ _ _
    refine wpAny_execs_cons ?_
    show wpAny _ _ (exec (Stmt.Return (some (Expr.Constant (.bool true) _ _)) _) _) _ _ _
    refine wpAny_Return_some (wpAny_pure ?_)
    exact H _ _ _ S9.fr
end
end
/-! ### P1 -/
section
/-- a writer's code: the underscore stands for itself, no other sign's word holds one, no word begins another -/
structure Code (f : Nat → List Nat) : Prop where
  u : f 95 = [95]
  ne : ∀ c, f c ≠ []
  off : ∀ c, c ≠ 95 → 95 ∉ f c
  pre : ∀ c d u v, f c ++ u = f d ++ v → c = d
  len : ∀ c, (f c).length ≤ 6
def En (f : Nat → List Nat) (n : List Nat) : List Nat := n.flatMap f
section
variable {f : Nat → List Nat} (C : Code f)
theorem En_nil : En f [] = [] := rfl
theorem En_cons (c : Nat) (n : List Nat) : En f (c :: n) = f c ++ En f n := by unfold En; rw [List.flatMap_cons]
theorem En_append (a b : List Nat) : En f (a ++ b) = En f a ++ En f b := by unfold En; rw [List.flatMap_append]
include C
theorem En_u (n : List Nat) : En f (95 :: n) = 95 :: En f n := by rw [En_cons, C.u]; rfl
theorem En_eq_nil {n : List Nat} (h : En f n = []) : n = [] := by
  cases n with
  | nil => rfl
  | cons c r =>
    rw [En_cons] at h
    exact absurd (List.append_eq_nil_iff.mp h).1 (C.ne c)
theorem En_len (n : List Nat) : (En f n).length ≤ 6 * n.length := by
  induction n with
  | nil => exact Nat.le_refl _
  | cons c r ih =>
    rw [En_cons, List.length_append, List.length_cons]
    have := C.len c
    omega
theorem En_inj : ∀ a b : List Nat, En f a = En f b → a = b
  | [], b, h => (En_eq_nil C h.symm).symm
  | c :: r, [], h => En_eq_nil C h
  | c :: r, d :: t, h => by
    rw [En_cons, En_cons] at h
    have e := C.pre _ _ _ _ h
    subst e
    rw [En_inj r t (List.append_cancel_left h)]
theorem En_split : ∀ n w w' : List Nat, En f n = w ++ 95 :: w' → ∃ a b, n = a ++ 95 :: b ∧ w = En f a ∧ w' = En f b
  | [], w, w', h => by
    rw [En_nil] at h
    cases w <;> cases h
  | d :: r, w, w', h => by
    rw [En_cons] at h
    by_cases hd : d = 95
    · subst hd
      rw [C.u] at h
      cases w with
      | nil =>
        have e := (List.cons.inj h).2
        exact ⟨[], r, rfl, rfl, e.symm⟩
      | cons x w1 =>
        have e := List.cons.inj h
        obtain ⟨a, b, h1, h2, h3⟩ := En_split r w1 w' e.2
        refine ⟨95 :: a, b, by rw [h1]; rfl, ?_, h3⟩
        rw [En_u C, ← h2, ← e.1]
    · rcases List.append_eq_append_iff.mp h with ⟨t, e1, e2⟩ | ⟨t, e1, e2⟩
      · -- w = f d ++ t
        obtain ⟨a, b, h1, h2, h3⟩ := En_split r t w' e2
        exact ⟨d :: a, b, by rw [h1]; rfl, by rw [En_cons, ← h2, e1], h3⟩
      · -- f d = w ++ t
        cases t with
        | nil =>
          rw [List.append_nil] at e1
          obtain ⟨a, b, h1, h2, h3⟩ := En_split r [] w' e2.symm
          exact ⟨d :: a, b, by rw [h1]; rfl, by rw [En_cons, ← h2, List.append_nil, e1], h3⟩
        | cons x t =>
          have e3 := (List.cons.inj e2).1
          exact absurd (e1 ▸ List.mem_append_right w (e3 ▸ List.mem_cons_self)) (C.off d hd)
theorem En_left {n w : List Nat} (h : En f n = 95 :: w) : ∃ b, n = 95 :: b ∧ w = En f b := by
  obtain ⟨a, b, h1, h2, h3⟩ := En_split C n [] w h
  have := En_eq_nil C h2.symm
  subst this
  exact ⟨b, h1, h3⟩
theorem En_right {n w : List Nat} (h : En f n = w ++ [95]) : ∃ a, n = a ++ [95] ∧ w = En f a := by
  obtain ⟨a, b, h1, h2, h3⟩ := En_split C n w [] h
  have := En_eq_nil C h3.symm
  subst this
  exact ⟨a, h1, h2⟩
theorem En_lefts : ∀ (j : Nat) {n w : List Nat}, En f n = List.replicate j 95 ++ w → ∃ b, n = List.replicate j 95 ++ b ∧ w = En f b
  | 0, n, w, h => ⟨n, rfl, h.symm⟩
  | j + 1, n, w, h => by
    rw [List.replicate_succ] at h
    obtain ⟨b, h1, h2⟩ := En_left C h
    obtain ⟨b', h3, h4⟩ := En_lefts j h2.symm
    exact ⟨b', by rw [h1, h3, List.replicate_succ]; rfl, h4⟩
theorem En_rights : ∀ (j : Nat) {n w : List Nat}, En f n = w ++ List.replicate j 95 → ∃ a, n = a ++ List.replicate j 95 ∧ w = En f a
  | 0, n, w, h => ⟨n, by simp, by simpa using h.symm⟩
  | j + 1, n, w, h => by
    rw [List.replicate_succ', ← List.append_assoc] at h
    obtain ⟨b, h1, h2⟩ := En_right C h
    obtain ⟨b', h3, h4⟩ := En_rights j h2.symm
    exact ⟨b', by rw [h1, h3, List.replicate_succ', List.append_assoc], h4⟩
theorem En_rep (j : Nat) : En f (List.replicate j 95) = List.replicate j 95 := by
  induction j with
  | zero => rfl
  | succ j ih => rw [List.replicate_succ, En_u C, ih]
theorem ends_En (n : List Nat) : [95, 95] <:+ En f n ↔ [95, 95] <:+ n := by
  constructor
  · rintro ⟨t, h⟩
    obtain ⟨a, h1, _⟩ := En_rights C 2 (n := n) (w := t) h.symm
    exact ⟨a, h1.symm⟩
  · rintro ⟨t, rfl⟩
    rw [En_append]
    exact ⟨En f t, by rw [En_rep C 2 |> fun e => (show En f [95, 95] = [95, 95] from e)]⟩
end
/-- private: an underscore, the class name, two underscores, something more; and no two underscores at the end -/
def privL (c n : List Nat) : Prop := ∃ r, r ≠ [] ∧ n = 95 :: (c ++ 95 :: 95 :: r) ∧ ¬ [95, 95] <:+ n
section
variable {f : Nat → List Nat} (C : Code f)
include C
theorem priv_En (c n : List Nat) : privL c (En f n) ↔ ∃ s, privL s n ∧ En f s = c := by
  constructor
  · rintro ⟨r, hr, h, he⟩
    obtain ⟨b, h1, h2⟩ := En_left C h
    obtain ⟨s, b1, h3, h4, h5⟩ := En_split C b c (95 :: r) h2.symm
    obtain ⟨b2, h6, h7⟩ := En_left C h5.symm
    refine ⟨s, ⟨b2, ?_, ?_, fun e => he ((ends_En C n).mpr e)⟩, h4.symm⟩
    · rintro rfl
      exact hr h7
    · rw [h1, h3, h6]
  · rintro ⟨s, ⟨r, hr, h, he⟩, rfl⟩
    refine ⟨En f r, fun e => hr (En_eq_nil C e), ?_, fun e => he ((ends_En C n).mp e)⟩
    rw [h, En_u C, En_append, En_u C, En_u C]
theorem priv_EE (c n : List Nat) : privL (En f c) (En f n) ↔ privL c n := by
  rw [priv_En C]
  constructor
  · rintro ⟨s, h, e⟩
    rw [← En_inj C _ _ e]; exact h
  · exact fun h => ⟨c, h, rfl⟩
end
/-- another sign, and just j underscores at either end -/
def dS (j : Nat) (n : List Nat) : Prop := ∃ k, n = List.replicate j 95 ++ k ++ List.replicate j 95 ∧ k ≠ [] ∧ k.head? ≠ some 95 ∧ k.getLast? ≠ some 95
section
variable {f : Nat → List Nat} (C : Code f)
include C
theorem head_En (k : List Nat) : (En f k).head? = some 95 ↔ k.head? = some 95 := by
  constructor
  · intro h
    cases e : En f k with
    | nil => rw [e] at h; cases h
    | cons x r =>
      rw [e] at h
      have : x = 95 := by simpa using h
      subst this
      obtain ⟨b, h1, _⟩ := En_left C e
      rw [h1]; rfl
  · intro h
    cases k with
    | nil => cases h
    | cons x r =>
      have : x = 95 := by simpa using h
      subst this
      rw [En_u C]; rfl
theorem last_En (k : List Nat) : (En f k).getLast? = some 95 ↔ k.getLast? = some 95 := by
  have key : ∀ l : List Nat, l.getLast? = some 95 ↔ ∃ a, l = a ++ [95] := by
    intro l
    rw [List.getLast?_eq_some_iff]
  rw [key, key]
  constructor
  · rintro ⟨a, h⟩
    obtain ⟨b, h1, _⟩ := En_right C h
    exact ⟨b, h1⟩
  · rintro ⟨a, rfl⟩
    exact ⟨En f a, by rw [En_append, En_u C]; rfl⟩
theorem dS_En (j : Nat) (n : List Nat) : dS j (En f n) ↔ dS j n := by
  constructor
  · rintro ⟨k, h, h1, h2, h3⟩
    obtain ⟨a, ha, hb⟩ := En_rights C j h
    obtain ⟨b, hc, hd⟩ := En_lefts C j hb.symm
    subst hd
    refine ⟨b, by rw [ha, hc], ?_, fun e => h2 ((head_En C b).mpr e), fun e => h3 ((last_En C b).mpr e)⟩
    rintro rfl
    exact h1 rfl
  · rintro ⟨k, h, h1, h2, h3⟩
    refine ⟨En f k, by rw [h, En_append, En_append, En_rep C], fun e => h1 (En_eq_nil C e), fun e => h2 ((head_En C k).mp e), fun e => h3 ((last_En C k).mp e)⟩
end
end
/-! ### P2 -/
section
/-! the writers' tables as codes -/
def codeT (tb : List (Nat × Str)) (c : Nat) : List Nat := match tb.lookup c with
  | some r => r.cps.toList
  | none => [c]
def TabGood (tb : List (Nat × Str)) : Prop :=
  (∀ p ∈ tb, p.2.cps.toList.head? = some 38 ∧ 95 ∉ p.2.cps.toList ∧ p.2.cps.toList.length ≤ 6 ∧ p.1 ≠ 95) ∧
  (∀ p ∈ tb, ∀ q ∈ tb, p.2.cps.toList.isPrefixOf q.2.cps.toList = true → p.1 = q.1) ∧ (tb.lookup 38).isSome = true ∧
  (∀ p ∈ tb, tb.foldl (fun l q => subst1 q.1 q.2.cps.toList l) [p.1] = p.2.cps.toList)
theorem mem_of_look {tb : List (Nat × Str)} {c : Nat} {r : Str} (h : tb.lookup c = some r) : (c, r) ∈ tb := by
  induction tb with
  | nil => cases h
  | cons p t ih =>
    obtain ⟨d, q⟩ := p
    rw [List.lookup_cons] at h
    cases e : c == d with
    | true =>
      rw [e] at h
      have h1 : q = r := Option.some.inj h
      have h2 : c = d := eq_of_beq e
      rw [h1, h2]; exact List.mem_cons_self
    | false =>
      rw [e] at h
      exact List.mem_cons_of_mem _ (ih h)
theorem code_of {tb : List (Nat × Str)} (G : TabGood tb) : Code (codeT tb) := by
  obtain ⟨g1, g2, g3, _⟩ := G
  have word : ∀ c, (∃ r, tb.lookup c = some r ∧ (c, r) ∈ tb ∧ codeT tb c = r.cps.toList) ∨ (tb.lookup c = none ∧ codeT tb c = [c]) := by
    intro c
    cases e : tb.lookup c with
    | some r => exact .inl ⟨r, rfl, mem_of_look e, by unfold codeT; rw [e]⟩
    | none => exact .inr ⟨rfl, by unfold codeT; rw [e]⟩
  constructor
  · rcases word 95 with ⟨r, _, hm, _⟩ | ⟨_, h⟩
    · exact absurd rfl (g1 _ hm).2.2.2
    · exact h
  · intro c
    rcases word c with ⟨r, _, hm, h⟩ | ⟨_, h⟩
    · rw [h]
      intro e
      have := (g1 _ hm).1
      rw [show (c, r).2 = r from rfl, e] at this
      cases this
    · rw [h]; simp
  · intro c hc
    rcases word c with ⟨r, _, hm, h⟩ | ⟨_, h⟩
    · rw [h]; exact (g1 _ hm).2.1
    · rw [h]
      intro e
      exact hc (List.mem_singleton.mp e).symm
  · intro c d u v h
    rcases word c with ⟨r, lc, hm, hc⟩ | ⟨lc, hc⟩ <;> rcases word d with ⟨q, ld, hm', hd⟩ | ⟨ld, hd⟩ <;> rw [hc, hd] at h
    · rcases List.append_eq_append_iff.mp h with ⟨t, e, _⟩ | ⟨t, e, _⟩
      · exact g2 _ hm _ hm' (List.isPrefixOf_iff_prefix.mpr ⟨t, e.symm⟩)
      · exact (g2 _ hm' _ hm (List.isPrefixOf_iff_prefix.mpr ⟨t, e.symm⟩)).symm
    · exfalso
      have h1 := (g1 _ hm).1
      have h2 : (r.cps.toList ++ u).head? = some 38 := by rw [List.head?_append, h1]; rfl
      rw [h] at h2
      have : d = 38 := by simpa using h2
      rw [this] at ld
      rw [ld] at g3
      cases g3
    · exfalso
      have h1 := (g1 _ hm').1
      have h2 : (q.cps.toList ++ v).head? = some 38 := by rw [List.head?_append, h1]; rfl
      rw [← h] at h2
      have : c = 38 := by simpa using h2
      rw [this] at lc
      rw [lc] at g3
      cases g3
    · exact (List.cons.inj h).1
  · intro c
    rcases word c with ⟨r, _, hm, h⟩ | ⟨_, h⟩
    · rw [h]; exact (g1 _ hm).2.2.1
    · rw [h]; show 1 ≤ 6; decide
theorem foldl_subst : ∀ (tb : List (Nat × Str)) (l : List Nat), tb.foldl (fun l q => subst1 q.1 q.2.cps.toList l) l = l.flatMap fun c => tb.foldl (fun l q => subst1 q.1 q.2.cps.toList l) [c]
  | [], l => by simp
  | p :: r, l => by
    rw [List.foldl_cons, foldl_subst r]
    conv => lhs; unfold subst1
    rw [List.flatMap_assoc]
    congr 1
    funext c
    rw [List.foldl_cons, foldl_subst r (subst1 p.1 p.2.cps.toList [c])]
    unfold subst1
    simp
theorem foldl_free : ∀ (tb : List (Nat × Str)) (c : Nat), tb.lookup c = none → tb.foldl (fun l q => subst1 q.1 q.2.cps.toList l) [c] = [c]
  | [], _, _ => rfl
  | p :: r, c, h => by
    obtain ⟨d, q⟩ := p
    rw [List.lookup_cons] at h
    cases e : c == d with
    | true => rw [e] at h; cases h
    | false =>
      rw [e] at h
      rw [List.foldl_cons, show subst1 (d, q).1 (d, q).2.cps.toList [c] = [c] from subst1_free (fun hm => by
        have : d = c := List.mem_singleton.mp hm
        rw [this] at e; simp at e), foldl_free r c h]
theorem foldl_rep1 : ∀ (tb : List (Nat × Str)) (x : Str), (tb.foldl (fun x p => rep1 p.1 p.2 x) x).cps.toList = tb.foldl (fun l q => subst1 q.1 q.2.cps.toList l) x.cps.toList
  | [], _ => rfl
  | p :: r, x => by
    rw [List.foldl_cons, List.foldl_cons, foldl_rep1 r]
    rfl
theorem tab_good : ∀ i, TabGood (tabS i)
  | 0 => by unfold TabGood; decide +kernel
  | 1 => by unfold TabGood; decide +kernel
  | 2 => by unfold TabGood; decide +kernel
  | 3 => by unfold TabGood; decide +kernel
  | _ + 4 => by show TabGood (tabS 4); unfold TabGood; decide +kernel
theorem code_good (i : Nat) : Code (codeT (tabS i)) := code_of (tab_good i)
theorem esc_toList (i : Nat) (x : Str) : (escS i x).cps.toList = En (codeT (tabS i)) x.cps.toList := by
  unfold escS
  rw [foldl_rep1, foldl_subst]
  unfold En
  congr 1
  funext c
  cases e : (tabS i).lookup c with
  | none => rw [foldl_free _ _ e]; unfold codeT; rw [e]
  | some r =>
    have := (tab_good i).2.2.2 _ (mem_of_look e)
    rw [this]; unfold codeT; rw [e]
theorem esc_mk (i : Nat) (x : Str) : escS i x = ⟨(En (codeT (tabS i)) x.cps.toList).toArray⟩ := StrLaws.mk_of_toList (esc_toList i x)
theorem strOf_some {v : Value} {r : Str} (h : strOf v = some r) : ∃ u, v = .str r u := by
  unfold strOf at h
  split at h
  · rename_i r' u
    exact ⟨u, by rw [Option.some.inj h]⟩
  · cases h
theorem val_code (c : Nat) : ∀ (kvs : List (Str × Value)) (tb : List (Nat × Str)), (kvs.map fun p => (p.1, strOf p.2)) = (tb.map fun p => ((⟨#[p.1]⟩ : Str), some p.2)) → (valS kvs ⟨#[c]⟩).cps.toList = codeT tb c
  | [], tb, h => by
    cases tb with
    | nil => rfl
    | cons _ _ => cases h
  | (k, v) :: kvs, tb, h => by
    cases tb with
    | nil => cases h
    | cons p r =>
      obtain ⟨d, q⟩ := p
      rw [List.map_cons, List.map_cons] at h
      obtain ⟨h1, h2⟩ := List.cons.inj h
      obtain ⟨h3, h4⟩ := Prod.mk.inj h1
      obtain ⟨u, rfl⟩ := strOf_some h4
      have h3' : k = ⟨#[d]⟩ := h3
      subst h3'
      have ih := val_code c kvs r h2
      by_cases e : c = d
      · subst e
        have e1 : valueAt (((⟨#[c]⟩ : Str), Value.str q u) :: kvs) ⟨#[c]⟩ = some (.str q u) := by unfold valueAt; simp
        have e2 : codeT ((c, q) :: r) c = q.cps.toList := by unfold codeT; rw [List.lookup_cons]; simp
        unfold valS
        rw [e1, e2]
      · have e1 : valueAt (((⟨#[d]⟩ : Str), Value.str q u) :: kvs) ⟨#[c]⟩ = valueAt kvs ⟨#[c]⟩ := by
          unfold valueAt
          rw [List.find?_cons_of_neg]
          intro h
          have h5 : (⟨#[d]⟩ : Str) = ⟨#[c]⟩ := of_decide_eq_true h
          have h6 := congrArg (fun z : Str => z.cps.toList) h5
          simp only [List.cons.injEq, and_true] at h6
          exact e h6.symm
        have e2 : codeT ((d, q) :: r) c = codeT r c := by
          unfold codeT; rw [List.lookup_cons]
          have : (c == d) = false := by simpa using e
          rw [this]
        rw [e2, ← ih]
        unfold valS
        rw [e1]
theorem join_nil_toList : ∀ parts : List Str, (Str.join ⟨#[]⟩ parts).cps.toList = parts.flatMap fun p => p.cps.toList
  | [] => rfl
  | [p] => by simp [Str.join]
  | p :: q :: r => by
    have ih := join_nil_toList (q :: r)
    show (p ++ ⟨#[]⟩ ++ Str.join ⟨#[]⟩ (q :: r)).cps.toList = _
    rw [List.flatMap_cons, ← ih]
    simp [Str.cps_append]
theorem wr_toList {i : Nat} {kvs : List (Str × Value)} (h : Says i kvs) (x : Str) : (wrS kvs x).cps.toList = En (codeT (tabS i)) x.cps.toList := by
  unfold wrS
  show (Builtin.Str.glued (Str.ofString "") _).cps.toList = _
  rw [StrLaws.glued_eq_join, show Str.ofString "" = ⟨#[]⟩ from by decide +kernel, join_nil_toList, List.flatMap_map]
  unfold En
  congr 1
  funext c
  exact val_code c kvs (tabS i) h
theorem tl_ok : TL := by
  constructor
  · intro i kvs h k v hv
    unfold valueAt at hv
    obtain ⟨p, hp, e⟩ := Option.map_eq_some_iff.mp hv
    have hm := List.mem_of_find?_eq_some hp
    have : (p.1, strOf p.2) ∈ kvs.map fun p => (p.1, strOf p.2) := List.mem_map_of_mem (f := fun p : Str × Value => (p.1, strOf p.2)) hm
    rw [h] at this
    obtain ⟨q, hq, e2⟩ := List.mem_map.mp this
    have e3 := (Prod.mk.inj e2).2
    obtain ⟨u, e4⟩ := strOf_some e3.symm
    refine ⟨q.2, u, by rw [← e, e4], ?_⟩
    have := ((tab_good i).1 q hq).2.2.1
    rw [Array.length_toList] at this
    exact this
  · intro i kvs h x
    apply Str.ext'
    have e1 := wr_toList h x
    have e2 := esc_toList i x
    rw [← e2] at e1
    exact Array.toList_inj.mp e1
end
/-! ### P3 -/
section
theorem str_eq_iff {x y : Str} : x = y ↔ x.cps.toList = y.cps.toList := ⟨fun h => by rw [h], fun h => Str.ext' (Array.toList_inj.mp h)⟩
theorem str_beq_iff {x y : Str} : (x == y) = true ↔ x.cps.toList = y.cps.toList := by rw [beq_iff_eq, str_eq_iff]
theorem u1 : (Str.ofString "_").cps.toList = [95] := by decide +kernel
theorem u2 : (Str.ofString "__").cps.toList = [95, 95] := by decide +kernel
theorem len_toList (y : Str) : y.length = y.cps.toList.length := by simp [Str.length]
theorem one_beq (a : Nat) : ((⟨#[a]⟩ : Str) == Str.ofString "_") = decide (a = 95) := by
  rw [Bool.eq_iff_iff, str_beq_iff, u1]
  simp
theorem item_nat {y : Str} {k : Nat} (h : k < y.length) : Txt.item y (k : Int) = ⟨#[y.cps.toList.getD k 0]⟩ := by
  unfold Txt.item Txt.charAt
  have hk : k < y.cps.toList.length := by rw [← len_toList]; exact h
  have e : y.cps[((k : Int)).toNat]? = some (y.cps.toList.getD k 0) := by
    rw [show ((k : Int)).toNat = k from rfl, List.getD_eq_getElem?_getD]
    simp only [Array.getElem?_toList]
    have : k < y.cps.size := h
    simp [this]
  rw [StrLaws.at_nonneg (by omega) e]
  rfl
theorem item_neg {y : Str} {k : Nat} (h1 : 1 ≤ k) (h : k ≤ y.length) : Txt.item y (-(k : Int)) = ⟨#[y.cps.toList.getD (y.length - k) 0]⟩ := by
  unfold Txt.item Txt.charAt
  have hn : (-(k : Int) + y.length).toNat = y.length - k := by omega
  have e : y.cps[(-(k : Int) + y.length).toNat]? = some (y.cps.toList.getD (y.length - k) 0) := by
    rw [hn, List.getD_eq_getElem?_getD]
    simp only [Array.getElem?_toList]
    have : y.length - k < y.cps.size := by show y.length - k < y.length; omega
    simp [this]
  rw [StrLaws.at_neg (by omega) (by omega) e]
  rfl
theorem starts_iff (y p : Str) : Txt.startswith y p = true ↔ p.cps.toList <+: y.cps.toList := by
  unfold Txt.startswith
  rw [Bool.and_eq_true, decide_eq_true_eq, StrLaws.subAt_eq, beq_iff_eq, List.drop_zero, List.prefix_iff_eq_take, len_toList, len_toList]
  constructor
  · rintro ⟨_, h⟩; exact h.symm
  · intro h
    refine ⟨?_, h.symm⟩
    have := congrArg List.length h
    rw [List.length_take] at this
    omega
theorem suffix2_iff {n : List Nat} (h : 2 ≤ n.length) : [95, 95] <:+ n ↔ n.getD (n.length - 1) 0 = 95 ∧ n.getD (n.length - 2) 0 = 95 := by
  rw [List.suffix_iff_eq_drop]
  have e : n.drop (n.length - [95, 95].length) = [n.getD (n.length - 2) 0, n.getD (n.length - 1) 0] := by
    show n.drop (n.length - 2) = _
    apply List.ext_getElem
    · simp; omega
    · intro i h1 h2
      rw [List.getElem_drop]
      have : i < 2 := by simpa using h2
      have hlt : n.length - 2 + i < n.length := by omega
      match i, this with
      | 0, _ =>
        simp [List.getD_eq_getElem?_getD]
        rw [List.getElem?_eq_getElem (by omega)]; rfl
      | 1, _ =>
        have e2 : n.length - 2 + 1 = n.length - 1 := by omega
        simp [List.getD_eq_getElem?_getD, e2]
        rw [List.getElem?_eq_getElem (by omega)]; rfl
  rw [e]
  constructor
  · intro h; simp at h; exact ⟨h.2.symm, h.1.symm⟩
  · rintro ⟨h1, h2⟩; rw [h1, h2]
theorem private_iff (z y : Str) : isPrivate z y = true ↔ privL z.cps.toList y.cps.toList := by
  unfold isPrivate
  rw [Bool.and_eq_true, Bool.and_eq_true, decide_eq_true_eq, starts_iff, Str.cps_append, Str.cps_append, Array.toList_append, Array.toList_append, u1, u2]
  have key : 2 ≤ y.length → ((Txt.item y (-1) != Str.ofString "_" || Txt.item y (-2) != Str.ofString "_") = true ↔ ¬ [95, 95] <:+ y.cps.toList) := by
    intro h2
    rw [suffix2_iff (by rw [← len_toList]; exact h2), show ((-1 : Int)) = -((1 : Nat) : Int) from rfl, show ((-2 : Int)) = -((2 : Nat) : Int) from rfl, item_neg (by decide) (by omega), item_neg (by decide) h2,
      Bool.or_eq_true, bne, bne, one_beq, one_beq, ← len_toList]
    simp only [Bool.not_eq_true', decide_eq_false_iff_not]
    omega
  constructor
  · rintro ⟨h1, ⟨r, hr⟩, h3⟩
    rw [key (by omega)] at h3
    refine ⟨r, ?_, by rw [← hr]; simp, h3⟩
    rintro rfl
    have := congrArg List.length hr
    rw [← len_toList] at this
    simp at this
    have hz : z.length = z.cps.size := rfl
    omega
  · rintro ⟨r, hr, h, h3⟩
    have hl := congrArg List.length h
    rw [← len_toList] at hl
    simp at hl
    have hz : z.length = z.cps.size := rfl
    have hr' : 0 < r.length := List.length_pos_iff.mpr hr
    refine ⟨by omega, ⟨r, by rw [h]; simp⟩, (key (by omega)).mpr h3⟩
/-! the slices -/
theorem slice_to {y : Str} {k : Nat} (h : k ≤ y.length) : (Txt.slice y none (some (k : Int))).cps.toList = y.cps.toList.take k := by
  have := StrLaws.sliceText_to (x := y) (j := (k : Int)) ⟨by omega, by rw [← len_toList]; omega⟩
  have e : Txt.slice y none (some (k : Int)) = StrLaws.sliceText y none (some (k : Int)) := rfl
  rw [e, this]
  simp
theorem slice_last2 {y : Str} (h : 2 ≤ y.length) : (Txt.slice y (some (-2)) none).cps.toList = y.cps.toList.drop (y.length - 2) := by
  have := StrLaws.sliceText_from_neg (x := y) (i := -2) (by decide) (by omega)
  have e : Txt.slice y (some (-2)) none = StrLaws.sliceText y (some (-2)) none := rfl
  rw [e, this]
  have e1 : (-2 + (y.length : Int)).toNat = y.length - 2 := by omega
  rw [e1]
  show List.take _ _ = _
  apply List.take_of_length_le
  rw [List.length_drop, ← len_toList]
  omega
theorem slice_mid {y : Str} {a b : Nat} (hab : a ≤ b) (hb : b ≤ y.length) : (Txt.slice y (some (a : Int)) (some (b : Int))).cps.toList = (y.cps.toList.drop a).take (b - a) := by
  have e : Txt.slice y (some (a : Int)) (some (b : Int)) = StrLaws.sliceText y (some (a : Int)) (some (b : Int)) := rfl
  rw [e, StrLaws.sliceText_nat y hab hb]
theorem noStretch_iff (y : Str) : noStretch y = false ↔ y.cps.toList.take 1 = [95] ∧ ¬ [95, 95] <:+ y.cps.toList := by
  unfold noStretch
  rw [Bool.or_eq_false_iff]
  have h1 : (Txt.slice y none (some 1) != Str.ofString "_") = false ↔ y.cps.toList.take 1 = [95] := by
    rw [bne_eq_false_iff_eq, str_eq_iff, u1]
    by_cases h : 1 ≤ y.length
    · rw [show ((1 : Int)) = ((1 : Nat) : Int) from rfl, slice_to h]
    · have h0 : y.cps.toList = [] := List.length_eq_zero_iff.mp (by rw [← len_toList]; omega)
      have h2 : (Txt.slice y none (some 1)).cps.toList = [] := List.length_eq_zero_iff.mp (by
        have := Txt.slice_le y none (some 1)
        rw [len_toList] at this
        omega)
      rw [h2, h0]; simp
  have h2 : (Txt.slice y (some (-2)) none == Str.ofString "__") = false ↔ ¬ [95, 95] <:+ y.cps.toList := by
    rw [← Bool.not_eq_true, str_beq_iff, u2]
    by_cases h : 2 ≤ y.length
    · rw [slice_last2 h, List.suffix_iff_eq_drop, ← len_toList]
      constructor
      · exact fun a b => a b.symm
      · exact fun a b => a b.symm
    · constructor
      · intro _ hs
        have := hs.length_le
        rw [← len_toList] at this
        simp at this
        omega
      · intro _ e
        have := Txt.slice_le y (some (-2)) none
        rw [len_toList, e] at this
        simp at this
        omega
  rw [h1, h2]
theorem stretch_mem (z y : Str) : z ∈ stretchS y ↔ privL z.cps.toList y.cps.toList := by
  unfold stretchS
  cases hn : noStretch y with
  | true =>
    rw [if_pos rfl]
    constructor
    · intro h; cases h
    · rintro ⟨r, hr, h, h3⟩
      have : noStretch y = false := (noStretch_iff y).mpr ⟨by rw [h]; rfl, h3⟩
      rw [hn] at this; cases this
  | false =>
    rw [if_neg Bool.false_ne_true]
    obtain ⟨ht, he⟩ := (noStretch_iff y).mp hn
    have hN : (((y.length : Int) - 2) - 1).toNat = y.length - 3 := by omega
    unfold cutsS
    rw [hN, List.mem_map]
    have hcut : ∀ p : Nat, p < y.length - 3 → (cutP y (1 + (p : Int)) = true ↔ (y.cps.toList.drop (1 + p)).take 2 = [95, 95]) := fun p hp => by
      unfold cutP
      rw [str_beq_iff, u2, show (1 + (p : Int) + 2) = ((1 + p + 2 : Nat) : Int) from by omega, show (1 + (p : Int)) = ((1 + p : Nat) : Int) from by omega, slice_mid (by omega) (by omega), show 1 + p + 2 - (1 + p) = 2 from by omega]
    have hval : ∀ p : Nat, p < y.length - 3 → (Txt.slice y (some 1) (some (1 + (p : Int)))).cps.toList = (y.cps.toList.drop 1).take p := fun p hp => by
      rw [show (1 + (p : Int)) = ((1 + p : Nat) : Int) from by omega, show ((1 : Int)) = ((1 : Nat) : Int) from rfl, slice_mid (by omega) (by omega), show 1 + p - 1 = p from by omega]
    constructor
    · rintro ⟨p, hp, e⟩
      obtain ⟨hp1, hp2⟩ := List.mem_filter.mp hp
      have hp3 := List.mem_range.mp hp1
      rw [hcut p hp3] at hp2
      have e' := (hval p hp3).symm.trans (str_eq_iff.mp e)
      generalize hnn : y.cps.toList = n at *
      have hl : y.length = n.length := by rw [len_toList, hnn]
      obtain ⟨t, rfl⟩ : ∃ t, n = 95 :: t := by
        cases n with
        | nil => cases ht
        | cons a t => exact ⟨t, by rw [(List.cons.inj (show [a] = [95] from ht)).1]⟩
      rw [List.drop_succ_cons, List.drop_zero] at e'
      rw [show 1 + p = p + 1 from by omega, List.drop_succ_cons] at hp2
      obtain ⟨r, hr⟩ : ∃ r, t.drop p = 95 :: 95 :: r := by
        cases hd : t.drop p with
        | nil => rw [hd] at hp2; cases hp2
        | cons a t1 =>
          rw [hd] at hp2
          cases t1 with
          | nil => cases hp2
          | cons b t2 =>
            have := List.cons.inj (show [a, b] = [95, 95] from hp2)
            exact ⟨t2, by rw [this.1, (List.cons.inj this.2).1]⟩
      have hlr := congrArg List.length hr
      rw [List.length_drop] at hlr
      simp only [List.length_cons] at hlr hl
      refine ⟨r, ?_, ?_, he⟩
      · rintro rfl
        simp at hlr
        omega
      · rw [← e', ← hr, List.take_append_drop]
    · rintro ⟨r, hr, h, _⟩
      have hl := congrArg List.length h
      rw [← len_toList] at hl
      simp at hl
      have hz : z.length = z.cps.size := rfl
      have hr' : 0 < r.length := List.length_pos_iff.mpr hr
      have hp3 : z.length < y.length - 3 := by omega
      refine ⟨z.length, List.mem_filter.mpr ⟨List.mem_range.mpr hp3, ?_⟩, ?_⟩
      · rw [hcut _ hp3, h, show 1 + z.length = z.length + 1 from by omega, List.drop_succ_cons, len_toList z, List.drop_left]
        rfl
      · rw [str_eq_iff, hval _ hp3, h, List.drop_succ_cons, List.drop_zero, len_toList z, List.take_left]
theorem any_iff (y z : Str) : (stretchS y).any (· == z) = true ↔ privL z.cps.toList y.cps.toList := by
  rw [List.any_eq_true, ← stretch_mem]
  constructor
  · rintro ⟨x, hx, e⟩
    rw [← eq_of_beq e]; exact hx
  · exact fun h => ⟨z, h, beq_self_eq_true z⟩
end
/-! ### P4 -/
section
/-- just j underscores at either end, by places -/
def idxS (j : Nat) (n : List Nat) : Prop := 2 * j < n.length ∧ (∀ t, t < j → n[t]? = some 95 ∧ n[n.length - 1 - t]? = some 95) ∧ n[j]? ≠ some 95 ∧ n[n.length - 1 - j]? ≠ some 95
theorem dS_idx (j : Nat) (n : List Nat) : dS j n ↔ idxS j n := by
  constructor
  · rintro ⟨k, rfl, hk, h1, h2⟩
    have hk' : 0 < k.length := List.length_pos_iff.mpr hk
    have hl : (List.replicate j 95 ++ k ++ List.replicate j 95).length = j + k.length + j := by simp; omega
    refine ⟨by rw [hl]; omega, fun t ht => ⟨?_, ?_⟩, ?_, ?_⟩
    · rw [List.append_assoc, List.getElem?_append_left (by simpa using ht), List.getElem?_replicate, if_pos ht]
    · rw [hl, List.getElem?_append_right (by simp; omega), List.getElem?_replicate, if_pos (by simp; omega)]
    · rw [List.append_assoc, List.getElem?_append_right (by simp), List.getElem?_append_left (by simpa using hk')]
      rw [List.length_replicate, Nat.sub_self]
      rw [List.head?_eq_getElem?] at h1
      exact h1
    · rw [hl, List.getElem?_append_left (by simp; omega), List.getElem?_append_right (by simp; omega)]
      rw [List.getLast?_eq_getElem?] at h2
      rw [List.length_replicate, show j + k.length + j - 1 - j - j = k.length - 1 from by omega]
      exact h2
  · rintro ⟨h0, h1, h2, h3⟩
    have hkl : ((n.drop j).take (n.length - 2 * j)).length = n.length - 2 * j := by rw [List.length_take, List.length_drop]; omega
    have hget : ∀ i, i < n.length - 2 * j → ((n.drop j).take (n.length - 2 * j))[i]? = n[j + i]? := fun i hi => by
      rw [List.getElem?_take_of_lt hi, List.getElem?_drop]
    refine ⟨(n.drop j).take (n.length - 2 * j), ?_, ?_, ?_, ?_⟩
    · apply List.ext_getElem?
      intro i
      by_cases hi : i < j
      · rw [(h1 i hi).1, List.append_assoc, List.getElem?_append_left (by simpa using hi), List.getElem?_replicate, if_pos hi]
      · by_cases hi2 : i < n.length - j
        · rw [List.getElem?_append_left (by rw [List.length_append, hkl]; simp; omega), List.getElem?_append_right (by simp; omega), List.length_replicate, hget _ (by omega)]
          congr 1; omega
        · rw [List.getElem?_append_right (by rw [List.length_append, hkl]; simp; omega), List.length_append, hkl, List.length_replicate, List.getElem?_replicate]
          by_cases hi3 : i < n.length
          · rw [if_pos (by omega)]
            have := (h1 (n.length - 1 - i) (by omega)).2
            rw [show n.length - 1 - (n.length - 1 - i) = i from by omega] at this
            exact this
          · rw [if_neg (by omega), List.getElem?_eq_none (by omega)]
    · intro e
      have := congrArg List.length e
      rw [hkl] at this
      simp at this
      omega
    · rw [List.head?_eq_getElem?, hget 0 (by omega)]
      exact h2
    · rw [List.getLast?_eq_getElem?, hkl, hget _ (by omega), show j + (n.length - 2 * j - 1) = n.length - 1 - j from by omega]
      exact h3
theorem getD_iff {n : List Nat} {k : Nat} (h : k < n.length) : n.getD k 0 = 95 ↔ n[k]? = some 95 := by
  rw [List.getD_eq_getElem?_getD, List.getElem?_eq_getElem h]
  simp
theorem take2_iff {n : List Nat} (h : 2 ≤ n.length) : n.take 2 = [95, 95] ↔ n[0]? = some 95 ∧ n[1]? = some 95 := by
  match n, h with
  | a :: b :: r, _ => simp
theorem drop2_iff {n : List Nat} (h : 2 ≤ n.length) : n.drop (n.length - 2) = [95, 95] ↔ n[n.length - 1]? = some 95 ∧ n[n.length - 2]? = some 95 := by
  have := suffix2_iff h
  rw [List.suffix_iff_eq_drop, getD_iff (by omega), getD_iff (by omega)] at this
  rw [← this]
  exact ⟨fun e => e.symm, fun e => e.symm⟩
theorem sunder_iff (y : Str) : isSunder y = true ↔ dS 1 y.cps.toList := by
  rw [dS_idx]
  unfold isSunder idxS
  rw [Bool.and_eq_true, decide_eq_true_eq, ← len_toList]
  by_cases h : 2 < y.length
  · have hl := len_toList y
    rw [show ((0 : Int)) = ((0 : Nat) : Int) from rfl, show ((1 : Int)) = ((1 : Nat) : Int) from rfl, show (-((1 : Nat) : Int)) = -((1 : Nat) : Int) from rfl, show ((-2 : Int)) = -((2 : Nat) : Int) from rfl,
      item_nat (by omega), item_nat (by omega), item_neg (by decide) (by omega), item_neg (by decide) (by omega)]
    simp only [Bool.and_eq_true, bne, Bool.not_eq_true', one_beq, decide_eq_true_eq, decide_eq_false_iff_not]
    rw [str_beq_iff]
    generalize y.cps.toList = n at *
    rw [hl]
    have e1 : n.length - 1 - 0 = n.length - 1 := by omega
    have e2 : n.length - 1 - 1 = n.length - 2 := by omega
    have a0 := getD_iff (n := n) (k := 0) (by omega)
    have a1 := getD_iff (n := n) (k := 1) (by omega)
    have a2 := getD_iff (n := n) (k := n.length - 1) (by omega)
    have a3 := getD_iff (n := n) (k := n.length - 2) (by omega)
    constructor
    · rintro ⟨_, ⟨b1, b2⟩, b3, b4⟩
      have b1' : n.getD 0 0 = n.getD (n.length - 1) 0 := by simpa using b1
      refine ⟨by omega, fun t ht => ?_, fun e => b3 (a1.mpr e), fun e => b4 (a3.mpr (by rw [← e2]; exact e))⟩
      have : t = 0 := by omega
      subst this
      rw [e1]
      exact ⟨a0.mp (b1'.trans b2), a2.mp b2⟩
    · rintro ⟨_, b1, b2, b3⟩
      obtain ⟨b4, b5⟩ := b1 0 (by omega)
      rw [e1] at b5
      refine ⟨by omega, ⟨?_, a2.mpr b5⟩, fun e => b2 (a1.mp e), fun e => b3 (by rw [e2]; exact a3.mp e)⟩
      have : n.getD 0 0 = n.getD (n.length - 1) 0 := (a0.mpr b4).trans (a2.mpr b5).symm
      simpa using this
  · constructor
    · rintro ⟨h1, _⟩; omega
    · rintro ⟨h1, _⟩; omega
theorem dunder_iff (y : Str) : isDunder y = true ↔ dS 2 y.cps.toList := by
  rw [dS_idx]
  unfold isDunder idxS
  rw [Bool.and_eq_true, decide_eq_true_eq, ← len_toList]
  by_cases h : 4 < y.length
  · have hl := len_toList y
    have hs1 : (Txt.slice y none (some 2)).cps.toList = y.cps.toList.take 2 := slice_to (k := 2) (by omega)
    have hs2 := slice_last2 (y := y) (by omega)
    rw [show ((-3 : Int)) = -((3 : Nat) : Int) from rfl, item_neg (by decide) (by omega)]
    have hi2 : Txt.item y 2 = ⟨#[y.cps.toList.getD 2 0]⟩ := item_nat (k := 2) (by omega)
    rw [hi2]
    simp only [Bool.and_eq_true, bne, Bool.not_eq_true', one_beq, decide_eq_false_iff_not]
    rw [str_beq_iff, str_beq_iff, hs1, hs2, u2]
    generalize y.cps.toList = n at *
    rw [hl]
    have e1 : n.length - 1 - 0 = n.length - 1 := by omega
    have e2 : n.length - 1 - 1 = n.length - 2 := by omega
    have e3 : n.length - 1 - 2 = n.length - 3 := by omega
    have a2 := getD_iff (n := n) (k := 2) (by omega)
    have a3 := getD_iff (n := n) (k := n.length - 3) (by omega)
    have t2 := take2_iff (n := n) (by omega)
    have d2 := drop2_iff (n := n) (by omega)
    constructor
    · rintro ⟨_, ⟨b1, b2⟩, b3, b4⟩
      obtain ⟨c0, c1⟩ := t2.mp (b1.trans b2)
      obtain ⟨c2, c3⟩ := d2.mp b2
      refine ⟨by omega, fun t ht => ?_, fun e => b3 (a2.mpr e), fun e => b4 (a3.mpr (by rw [← e3]; exact e))⟩
      obtain rfl | rfl : t = 0 ∨ t = 1 := by omega
      · rw [e1]; exact ⟨c0, c2⟩
      · rw [e2]; exact ⟨c1, c3⟩
    · rintro ⟨_, b1, b2, b3⟩
      obtain ⟨b4, b5⟩ := b1 0 (by omega)
      obtain ⟨b6, b7⟩ := b1 1 (by omega)
      rw [e1] at b5
      rw [e2] at b7
      have f1 := t2.mpr ⟨b4, b6⟩
      have f2 := d2.mpr ⟨b5, b7⟩
      exact ⟨by omega, ⟨f1.trans f2.symm, f2⟩, fun e => b2 (a2.mp e), fun e => b3 (by rw [e3]; exact a3.mp e)⟩
  · constructor
    · rintro ⟨h1, _⟩; omega
    · rintro ⟨h1, _⟩; omega
theorem ends_iff (y : Str) (j : Nat) (hj : 1 ≤ j) : endsI y = ((j : Int), (j : Int)) ↔ dS j y.cps.toList := by
  rw [dS_idx]
  have hl := len_toList y
  have hq : ∀ p, p < y.length → ((Txt.item y (p : Int) != Str.ofString "_") = true ↔ y.cps.toList[p]? ≠ some 95) := fun p hp => by
    rw [item_nat hp, bne, Bool.not_eq_true', one_beq, decide_eq_false_iff_not, getD_iff (by omega)]
  unfold endsI placesI
  generalize hF : (List.range y.length).filter (fun (p : Nat) => Txt.item y (p : Int) != Str.ofString "_") = F
  have memF : ∀ p, p ∈ F ↔ p < y.length ∧ y.cps.toList[p]? ≠ some 95 := fun p => by
    rw [← hF, List.mem_filter, List.mem_range]
    constructor
    · rintro ⟨a, b⟩; exact ⟨a, (hq p a).mp b⟩
    · rintro ⟨a, b⟩; exact ⟨a, (hq p a).mpr b⟩
  have sortF : F.Pairwise (· < ·) := by rw [← hF]; exact List.pairwise_lt_range.filter _
  clear hF hq
  generalize y.cps.toList = n at *
  rw [hl] at *
  by_cases h0 : F = []
  · subst h0
    simp only [List.map_nil, if_true]
    constructor
    · intro e
      have := (Prod.mk.inj e).1
      omega
    · rintro ⟨h1, _, h3, _⟩
      have := (memF j).mpr ⟨by omega, h3⟩
      cases this
  · have hpos : 0 < F.length := List.length_pos_iff.mpr h0
    have hne : F.map (fun (p : Nat) => (p : Int)) ≠ [] := fun e => h0 (List.map_eq_nil_iff.mp e)
    rw [if_neg hne]
    have g0 : (F.map fun (p : Nat) => (p : Int)).getD (Int.toNat 0) 0 = (F[0] : Int) := by
      rw [show Int.toNat 0 = 0 from rfl, List.getD_eq_getElem?_getD, List.getElem?_eq_getElem (by simpa using hpos)]
      simp
    have g1 : (F.map fun (p : Nat) => (p : Int)).getD (-1 + ((F.map fun (p : Nat) => (p : Int)).length : Int)).toNat 0 = (F[F.length - 1] : Int) := by
      rw [List.length_map, show (-1 + (F.length : Int)).toNat = F.length - 1 from by omega, List.getD_eq_getElem?_getD, List.getElem?_eq_getElem (by simp; omega)]
      simp
    rw [g0, g1]
    have lowest : ∀ p ∈ F, F[0] ≤ p := fun p hp => by
      obtain ⟨i, hi, rfl⟩ := List.mem_iff_getElem.mp hp
      by_cases e : i = 0
      · subst e; exact Nat.le_refl _
      · exact Nat.le_of_lt (List.pairwise_iff_getElem.mp sortF 0 i hpos hi (by omega))
    have highest : ∀ p ∈ F, p ≤ F[F.length - 1] := fun p hp => by
      obtain ⟨i, hi, rfl⟩ := List.mem_iff_getElem.mp hp
      by_cases e : i = F.length - 1
      · subst e; exact Nat.le_refl _
      · exact Nat.le_of_lt (List.pairwise_iff_getElem.mp sortF i (F.length - 1) hi (by omega) (by omega))
    have m0 : F[0] ∈ F := List.getElem_mem hpos
    have m1 : F[F.length - 1] ∈ F := List.getElem_mem (by omega)
    generalize F[0] = a at *
    generalize F[F.length - 1] = b at *
    obtain ⟨ha, ha'⟩ := (memF a).mp m0
    obtain ⟨hb, hb'⟩ := (memF b).mp m1
    constructor
    · intro e
      obtain ⟨e1, e2⟩ := Prod.mk.inj e
      have e1' : a = j := by omega
      have e2' : b = n.length - 1 - j := by omega
      have := lowest b m1
      refine ⟨by omega, fun t ht => ⟨?_, ?_⟩, e1' ▸ ha', e2' ▸ hb'⟩
      · refine Decidable.byContradiction fun hne => ?_
        have := lowest t ((memF t).mpr ⟨by omega, hne⟩)
        omega
      · refine Decidable.byContradiction fun hne => ?_
        have := highest (n.length - 1 - t) ((memF _).mpr ⟨by omega, hne⟩)
        omega
    · rintro ⟨h1, h2, h3, h4⟩
      have e1 : a = j := by
        have := lowest j ((memF j).mpr ⟨by omega, h3⟩)
        refine Decidable.byContradiction fun hne => ?_
        exact ha' (h2 a (by omega)).1
      have e2 : b = n.length - 1 - j := by
        have := highest (n.length - 1 - j) ((memF _).mpr ⟨by omega, h4⟩)
        refine Decidable.byContradiction fun hne => ?_
        have := (h2 (n.length - 1 - b) (by omega)).2
        rw [show n.length - 1 - (n.length - 1 - b) = b from by omega] at this
        exact hb' this
      rw [e1, e2]
      refine Prod.ext rfl ?_
      show (n.length : Int) - 1 - ((n.length - 1 - j : Nat) : Int) = (j : Int)
      omega
theorem pl_ok : PL := by
  have priv : ∀ z y, isPrivate z y = (stretchS y).any (· == z) := fun z y => Bool.eq_iff_iff.mpr ((private_iff z y).trans (any_iff y z).symm)
  constructor
  · intro i x
    rw [len_toList, esc_toList, len_toList]
    exact En_len (code_good i) _
  · exact priv
  · intro i z y
    rw [Bool.eq_iff_iff, private_iff, any_iff, esc_toList, esc_toList, priv_EE (code_good i)]
  · intro i z y
    rw [Bool.eq_iff_iff, private_iff, esc_toList, priv_En (code_good i), List.any_eq_true]
    constructor
    · rintro ⟨s, h, e⟩
      refine ⟨escS i ⟨s.toArray⟩, List.mem_map_of_mem ((stretch_mem _ _).mpr h), ?_⟩
      rw [str_beq_iff, esc_toList]
      exact e
    · rintro ⟨x, hx, e⟩
      obtain ⟨s, hs, rfl⟩ := List.mem_map.mp hx
      rw [str_beq_iff, esc_toList] at e
      exact ⟨s.cps.toList, (stretch_mem _ _).mp hs, e⟩
  · intro y
    rw [Bool.eq_iff_iff, decide_eq_true_eq, dunder_iff]
    exact (ends_iff y 2 (by decide)).symm
  · intro y
    rw [Bool.eq_iff_iff, decide_eq_true_eq, sunder_iff]
    exact (ends_iff y 1 (by decide)).symm
  · intro i y
    rw [Bool.eq_iff_iff, dunder_iff, dunder_iff, esc_toList, dS_En (code_good i)]
  · intro i y
    rw [Bool.eq_iff_iff, sunder_iff, sunder_iff, esc_toList, dS_En (code_good i)]
end
/-! ### L13 -/
section
set_option maxRecDepth 100000 in
set_option maxHeartbeats 8000000 in
theorem main (P : PL) (TT : TL) : PySem.Challenge.rw_nb0148_01.Holds := by
  refine Mine.hd ?_
  w_on
  k_go0
  rename Top _ _ _ _ _ _ => T
  rename Frag.In _ _ => KX
  rename News _ _ _ _ => N0
  rename Fr _ _ _ _ => F
  rename IntsAre _ _ => hI
  rename Heap.IsList _ _ _ => hL
  rename Obj.data _ = _ => hcell
  rename ¬ _ < _ => h63
  have hN := N0 _ (.head _)
  refine law_all P TT rfl ⟨⟨_, _, _, _, _, T⟩, KX⟩ ?hroom rfl ?hu rfl ⟨F, News.nil, (fun _ hp => nomatch hp), ⟨_, hN.1, hcell⟩, hN.2.1, hN.2.2⟩ rfl hL hI ?hlen ?H
  case hroom => show 1 + claimMargin + 1 < recursionLimit; decide
  case hlen => rw [hI.length]; omega
  case H =>
    intro h' tk m' F9
    dsimp only
    wrow_close
  case hu => show 4 + 3 + 100 < cLine; decide
end
end Mine
set_option maxRecDepth 100000 in
theorem PySem.Challenge.cw_nb0148_01_holds : PySem.Challenge.rw_nb0148_01.Holds := by
  exact Mine.main Mine.pl_ok Mine.tl_ok
