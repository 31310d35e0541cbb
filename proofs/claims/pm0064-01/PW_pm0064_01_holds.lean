import PyProof.Rows.All
import Wide.All
import OpenK.AllK
import Wide.FinOn
import OpenK.KExp
import PyProof.Rows.RegReprOcc
import PyProof.Rows.StrWeight2
import KE.KLcTest
import Lean
import PySem.Challenge.RW_pm0064_01

set_option linter.all false
set_option compiler.extract_closed false
open PySem PySem.W PyProof.Rows
set_option Elab.async false
set_option maxRecDepth 100000
set_option maxHeartbeats 0
noncomputable def keepN : List Nat := [0, 1, 3, 4, 5, 6, 7, 9, 11, 12, 13, 15, 17, 18, 19, 20, 21, 22]
noncomputable def vw01 : Program := { PySem.Challenge.pw_pm0064_01 with main := { PySem.Challenge.pw_pm0064_01.main with body := keepN.filterMap fun i => PySem.Challenge.pw_pm0064_01.main.body[i]? } }
local macro_rules | `(tactic| o_head $H) => `(tactic| (
  refine holds_open (q := vw01) (loose := [PySem.Str.ofString "tspecials", PySem.Str.ofString "_name_disallowed_re", PySem.Str.ofString "_value_disallowed_re", PySem.Str.ofString "_formatparam"]) (Xt := fun s => xlAt vw01 [] s && recOk (RowW.records (OpenRow.toRowW PySem.Challenge.rw_pm0064_01.row)) s) (XP := XL vw01 []) (Yf := Hook.obs $H) (Ya := Hook.val $H) (YP := Hook.says $H) (N := 3414) ?hl (Hook.of $H) (Hook.keeps $H) (fun s e => xl_of s (Bool.and_eq_true_iff.mp e).1) XL.keeps (by rfl) (by rfl) (by rfl) (fun s e => recFacts_of (Bool.and_eq_true_iff.mp e).2) (by rfl) (by first | assumption | decide +kernel) (by decide +kernel) ⟨rfl, rfl, rfl, rfl, rfl, by decide +kernel⟩ ?hw ?hc;
  (case hl => intro w; kernel_rfl)))
local macro_rules | `(tactic| o_law) => `(tactic| refine holds_law (by decide +kernel) fun said => ?_)
open_top hd01 for PySem.Challenge.rw_pm0064_01

theorem Mine.topOff : True := by
  w_top off
  trivial

section
open PySem PySem.W PySem.Spec PySem.Calls PyProof.Rows
set_option Elab.async false
namespace Mine
noncomputable abbrev SMap := PySem.Str → Option Value
noncomputable abbrev putM (m : SMap) (x : PySem.Str) (v : Value) : SMap := fun y => if y = x then some v else m y
theorem putM_put (m : SMap) (x : PySem.Str) (v v' : Value) : putM (putM m x v) x v' = putM m x v' := by
  funext y; by_cases h : y = x <;> simp [putM, h]
theorem putM_self (m : SMap) (x : PySem.Str) (v : Value) (h : m x = some v) : putM m x v = m := by
  funext y; by_cases q : y = x
  · subst q; simp [putM, h]
  · simp [putM, q]

noncomputable def Turn1 (h₀ : Heap) (L : Addr) (m : SMap) (x : PySem.Str) (news : List (Addr × Obj)) (s : Shared) (P : Int → Prop) (f : Flow) (s' : Shared) : Prop :=
  f = .next ∧ ∃ k' t' h' tk', s' = { s with heap := h', toks := tk' } ∧ P k' ∧ Fr h₀ L h' (putM m x (.int k' t')) ∧ News h₀ L h' news

section
variable {prog : Program} {w : World} {A : Around} {E : Value → Shared → Prop} {Q : Flow → Shared → Prop} {s : Shared} {env : Env} {h₀ : Heap} {L : Addr}

/-- the loop's end, joined -/
noncomputable def Exit1 (h₀ : Heap) (L : Addr) (m : SMap) (x : PySem.Str) (k : Int) (news : List (Addr × Obj)) (s : Shared) (R : Prop) (s' : Shared) : Prop :=
  R ∧ ∃ t' h' tk', s' = { s with heap := h', toks := tk' } ∧ Fr h₀ L h' (putM m x (.int k t')) ∧ News h₀ L h' news

theorem while1 {test : Expr} {body : List Stmt} {pos : Pos} {m : SMap} {news : List (Addr × Obj)} (x : PySem.Str) (P R : Int → Prop) (μ : Int → Nat) {k₀ : Int} {t₀ : Tok}
    (F : Fr h₀ L s.heap m) (N : News h₀ L s.heap news) (hm : m x = some (.int k₀ t₀)) (h0 : P k₀)
    (turn : ∀ k t h₁ tk₁, P k → Fr h₀ L h₁ (putM m x (.int k t)) → News h₀ L h₁ news →
      wpAny (model prog w) A (isTrue test env (eval test env)) (fun b s₂ =>
        if b = true then wpAny (model prog w) A (execs body env) (Turn1 h₀ L m x news s (fun k' => P k' ∧ μ k' < μ k)) E s₂ else Exit1 h₀ L m x k news s (R k) s₂) E { s with heap := h₁, toks := tk₁ })
    (done : ∀ k t h₁ tk₁, P k → R k → Fr h₀ L h₁ (putM m x (.int k t)) → News h₀ L h₁ news → Q .next { s with heap := h₁, toks := tk₁ })
    (hE : PassesOwn (model prog w) A env E := by passes_own) :
    wpAny (model prog w) A (exec (.While test body [] pos) env) Q E s := by
  refine While_inv (fun n m₁ news₁ => news₁ = news ∧ ∃ k t, m₁ = putM m x (.int k t) ∧ P k ∧ n = μ k) (n₀ := μ k₀) F N ⟨rfl, k₀, t₀, (putM_self m x _ hm).symm, h0, rfl⟩ ?_ hE
  rintro n m₁ news₁ h₁ tk₁ F₁ N₁ ⟨rfl, k, t, rfl, hp, rfl⟩
  refine wpAny_mono (turn k t h₁ tk₁ hp F₁ N₁) (fun b s₂ h₂ => ?_) fun _ _ e => e
  cases b with
  | false =>
    simp only [Bool.false_eq_true, if_false] at h₂ ⊢
    obtain ⟨r, t', h', tk', rfl, F', N'⟩ := h₂
    exact done k t' h' tk' hp r F' N'
  | true =>
    simp only [if_true] at h₂ ⊢
    refine wpAny_mono h₂ (fun f s₃ h₃ => ?_) fun _ _ e => e
    obtain ⟨rfl, k', t', h', tk', rfl, ⟨p1, p2⟩, F', N'⟩ := h₃
    exact WhileStep.intro F' N' p2 ⟨rfl, k', t', rfl, p1, rfl⟩
theorem turn1_end {m : SMap} {x : PySem.Str} {news : List (Addr × Obj)} {P : Int → Prop} {k k' : Int} {t t' : Tok} {h' : Heap} {tk' : Nat}
    (F : Fr h₀ L h' (fun y => if y = x then some (.int k' t') else putM m x (.int k t) y)) (N : News h₀ L h' news) (hp : P k') :
    Turn1 h₀ L m x news s P .next { s with heap := h', toks := tk' } :=
  ⟨rfl, k', t', h', tk', rfl, hp, by rw [← putM_put m x (.int k t)]; exact F, N⟩
theorem exit1_end {m : SMap} {x : PySem.Str} {news : List (Addr × Obj)} {R : Prop} {k : Int} {t : Tok} {h' : Heap} {tk' : Nat}
    (F : Fr h₀ L h' (putM m x (.int k t))) (N : News h₀ L h' news) (hr : R) : Exit1 h₀ L m x k news s R { s with heap := h', toks := tk' } :=
  ⟨hr, t, h', tk', rfl, F, N⟩
end
end Mine
end

section
open PySem PySem.W PySem.Spec PySem.Calls PyProof.Rows
set_option Elab.async false
set_option maxRecDepth 100000
set_option maxHeartbeats 0
namespace Mine
noncomputable abbrev PP : Program := PySem.Challenge.pw_pm0064_01
noncomputable abbrev VV : Program := topProg
noncomputable abbrev KK : World → Frag := fun w => hd01.heap_1 w.params
noncomputable abbrev LL : List PySem.Str := [Str.ofString "tspecials", Str.ofString "_name_disallowed_re", Str.ofString "_value_disallowed_re", Str.ofString "_formatparam", Str.ofString "Headers", Str.ofString "_sre", Str.ofString "_wall", Str.ofString "_substitution_cost", Str.ofString "_levenshtein_distance", Str.ofString "_law_lexer", Str.ofString "_law_word", Str.ofString "_law_written", Str.ofString "_law_braid", Str.ofString "_law_tells", Str.ofString "law", Str.ofString "_MAX_STRING_SIZE", Str.ofString "_MOVE_COST", Str.ofString "_CASE_COST", Str.ofString "_netrclex"]

noncomputable def fnAt (K : Frag) (f : Addr) : Option FuncData := match K.lookup f with
  | some ⟨_, _, .func fd, _⟩ => some fd
  | _ => none
noncomputable def fnBody (K : Frag) (f : Addr) : List Stmt := match fnAt K f with
  | some fd => (match fd.body with | .stmts b => b | _ => [])
  | _ => []
noncomputable def fnScope (K : Frag) (f : Addr) : Scope := match fnAt K f with
  | some fd => fd.scope
  | _ => default
noncomputable def fnQual (K : Frag) (f : Addr) : PySem.Str := match fnAt K f with
  | some fd => fd.qualname
  | _ => default
noncomputable def fnCode (K : Frag) (f : Addr) : Value := match fnAt K f with
  | some fd => fd.code
  | _ => .none
noncomputable abbrev fnEnv (K : Frag) (q : PySem.Str) (f L : Addr) : Env := envOf q (fnScope K f) L f (fnCode K f)
end Mine
end

section
open PySem PySem.W PySem.Spec PySem.Calls PyProof.Rows
set_option Elab.async false
set_option maxRecDepth 100000
namespace Mine
/-- the slice a[:post or None] -/
noncomputable def psl (x : PySem.Str) (k : Int) : PySem.Str := Txt.slice x none (if k = 0 then none else some k)
theorem sub_or {prog : Program} {w : World} {A : Around} {E : Value → Shared → Prop} {Q : Value → Shared → Prop} {s : Shared} {h₀ : Heap} {L a : Addr} {m : SMap} {cn : PySem.Str} {cs : Scope} {ccd : Value} {cl : List (PySem.Str × Addr)} {news : List (Addr × Obj)}
    {xa xp : PySem.Str} {p1 p2 p3 p4 p5 p6 : Pos} {kk : Nat} {x : PySem.Str} {k : Int} {t u : Tok}
    (F : Fr h₀ L s.heap m) (N : News h₀ L s.heap news) (ha : m xa = some (.str x t)) (hp : m xp = some (.int k u)) (hx : x.length ≤ 1000)
    (h : ∀ h' t' tk', Fr h₀ L h' m → News h₀ L h' news → (psl x k).length ≤ x.length → Q (.str (psl x k) t') { s with heap := h', toks := tk' })
    (hk : cs.kind = .function := by rfl) (hxa : (envX cn cs L a ccd cl).kindOf xa = some .local := by rfl) (hda : (xa == ("__debug__" : PySem.Str)) = false := by decide)
    (hxp : (envX cn cs L a ccd cl).kindOf xp = some .local := by rfl) (hdp : (xp == ("__debug__" : PySem.Str)) = false := by decide) :
    wpAny (model prog w) A (eval (.Subscript (.Name xa p1) (.Slice none (some (.BoolOp .Or [.Name xp p2, .Constant .none kk p3] p4)) none p5) p6) (envX cn cs L a ccd cl)) Q E s := by
  refine Subscript_ ?_
  refine nameX_L F ha ?_ hk hxa hda
  refine wpAny_Slice ?_
  refine evalPart_none_step ?_
  refine evalPart_some_step ?_
  refine BoolOp_or ?_
  refine nameX_L F hp ?_ hk hxp hdp
  walk1
  by_cases hz : k = 0
  · subst hz
    simp only [bne_self_eq_false, Bool.false_eq_true, if_false]
    refine BoolOp_one ?_
    walk1
    refine evalPart_none_step ?_
    refine slice_strN_nn_len F N (fun h' t' tk' F' N' hl => ?_) (by with_unfolding_all rfl) (by intro _; with_unfolding_all rfl) (by rw [sizeLine_eq]; omega)
    have q := h h' t' tk' F' N'
    simp only [psl, if_true] at q
    exact q hl
  · rw [if_pos (by simpa using hz)]
    refine evalPart_none_step ?_
    refine slice_strN_ns_len F N (fun h' t' tk' F' N' hl => ?_) (by with_unfolding_all rfl) (by intro _; with_unfolding_all rfl) (by rw [sizeLine_eq]; omega)
    have q := h h' t' tk' F' N'
    simp only [psl, if_neg hz] at q
    exact q hl
end Mine
end

section
open PySem PySem.W PySem.Spec PySem.Calls PyProof.Rows PySem.Builtin PySem.Builtin.Str
set_option Elab.async false
namespace Mine
noncomputable abbrev S (l : List Nat) : PySem.Str := ⟨l.toArray⟩
theorem S_of (x : PySem.Str) : x = S x.cps.toList := rfl
@[simp] theorem S_len (l : List Nat) : (S l).length = l.length := by simp [S, PySem.Str.length]
theorem S_inj {l r : List Nat} : S l = S r ↔ l = r := by simp [S]
theorem S_slice {l : List Nat} {k : Int} (h0 : 0 ≤ k) (h1 : k ≤ l.length) : Txt.slice (S l) (some k) none = S (l.drop k.toNat) := by
  rw [slice_from_eq (b := (l.length : Int)) h0 (by simpa using h1) (by simp)]
  simp only [S, PySem.Str.mk.injEq]
  congr 1
  apply List.take_of_length_le
  simp; omega
theorem S_item {l : List Nat} {k : Int} (h0 : 0 ≤ k) (h1 : k < l.length) : Txt.item (S l) k = S [l[k.toNat]'(by omega)] := by
  refine item_meets h0 ?_
  simp
theorem S_itemN {l : List Nat} {k : Int} (h0 : k < 0) (h1 : 0 ≤ l.length + k) : Txt.item (S l) k = S [l[(l.length + k).toNat]'(by omega)] := by
  unfold Txt.item Txt.charAt seqIndex?
  have h2 : (S l).length = l.length := S_len l
  rw [h2]
  have e1 : (decide (0 ≤ k + (l.length : Int)) && decide (k + (l.length : Int) < l.length)) = true := by
    simp; omega
  simp only [h0, if_true]
  rw [e1]
  have e2 : (k + (l.length : Int)).toNat = (l.length + k).toNat := by congr 1; omega
  have e3 : (l.length + k).toNat < l.length := by omega
  simp [e2, e3]
theorem S_slice_all (l : List Nat) : Txt.slice (S l) none none = S l := by
  unfold Txt.slice strSliceIndices sliceRange
  rw [if_pos]
  simp
  by_cases h : 0 < l.length
  · rw [if_pos h]; simp
  · rw [if_neg h]; simp; omega
theorem S_slice_to {l : List Nat} {k : Int} (h0 : k < 0) (h1 : 0 ≤ l.length + k) : Txt.slice (S l) none (some k) = S (l.take (l.length + k).toNat) := by
  have e : Txt.slice (S l) none (some k) = Txt.slice (S l) none (some (l.length + k)) := by
    unfold Txt.slice strSliceIndices
    simp only [S_len]
    have : ¬ ((l.length : Int) + k < 0) := by omega
    simp only [h0, this, if_true, if_false, Int.add_comm k]
  rw [e, beq_iff_eq.mp (slice_closes_to (x := S l) (j := l.length + k) ⟨h1, by simp [S]; omega⟩)]
  simp [S]
theorem psl_S {l : List Nat} {k : Int} (h0 : k ≤ 0) (h1 : 0 ≤ l.length + k) : psl (S l) k = S (l.take (l.length + k).toNat) := by
  unfold psl
  by_cases hz : k = 0
  · subst hz
    simp [S_slice_all]
  · rw [if_neg hz, S_slice_to (by omega) h1]
noncomputable def preL : List Nat → List Nat → Nat
  | p :: ps, q :: qs => if p = q then preL ps qs + 1 else 0
  | _, _ => 0
theorem preL_le1 : ∀ a b : List Nat, preL a b ≤ a.length
  | [], _ => by simp [preL]
  | _ :: _, [] => by simp [preL]
  | p :: ps, q :: qs => by
    unfold preL
    have := preL_le1 ps qs
    split <;> simp <;> omega
theorem preL_le2 : ∀ a b : List Nat, preL a b ≤ b.length
  | [], _ => by simp [preL]
  | _ :: _, [] => by simp [preL]
  | p :: ps, q :: qs => by
    unfold preL
    have := preL_le2 ps qs
    split <;> simp <;> omega
end Mine
namespace Mine
theorem psl_len {x : PySem.Str} {k : Int} (h0 : k ≤ 0) (h1 : 0 ≤ x.length + k) : ((psl x k).length : Int) = x.length + k := by
  have e := psl_S (l := x.cps.toList) (k := k) h0 (by simpa [PySem.Str.length] using h1)
  have e2 : psl x k = S (x.cps.toList.take (x.cps.toList.length + k).toNat) := e
  rw [e2, S_len]
  have h3 : (x.cps.toList.length : Int) = x.length := by simp [PySem.Str.length]
  simp only [List.length_take]
  omega
theorem slice_from_len {x : PySem.Str} {k : Int} (h0 : 0 ≤ k) (h1 : k ≤ x.length) : ((Txt.slice x (some k) none).length : Int) = x.length - k := by
  have e : Txt.slice x (some k) none = S (x.cps.toList.drop k.toNat) := S_slice (l := x.cps.toList) h0 (by simpa [PySem.Str.length] using h1)
  rw [e, S_len]
  have h3 : (x.cps.toList.length : Int) = x.length := by simp [PySem.Str.length]
  simp only [List.length_drop]
  omega
theorem sub_orL {prog : Program} {w : World} {A : Around} {E : Value → Shared → Prop} {Q : Value → Shared → Prop} {s : Shared} {h₀ : Heap} {L a : Addr} {m : SMap} {cn : PySem.Str} {cs : Scope} {ccd : Value} {cl : List (PySem.Str × Addr)} {news : List (Addr × Obj)}
    {xa xp : PySem.Str} {p1 p2 p3 p4 p5 p6 : Pos} {kk : Nat} {x : PySem.Str} {k : Int} {t u : Tok}
    (F : Fr h₀ L s.heap m) (N : News h₀ L s.heap news) (ha : m xa = some (.str x t)) (hp : m xp = some (.int k u)) (hx : x.length ≤ 1000) (h0 : k ≤ 0) (h1 : 0 ≤ x.length + k)
    (h : ∀ h' t' tk', Fr h₀ L h' m → News h₀ L h' news → (psl x k).length ≤ 1000 → ((psl x k).length : Int) = x.length + k → Q (.str (psl x k) t') { s with heap := h', toks := tk' })
    (hk : cs.kind = .function := by rfl) (hxa : (envX cn cs L a ccd cl).kindOf xa = some .local := by rfl) (hda : (xa == ("__debug__" : PySem.Str)) = false := by decide)
    (hxp : (envX cn cs L a ccd cl).kindOf xp = some .local := by rfl) (hdp : (xp == ("__debug__" : PySem.Str)) = false := by decide) :
    wpAny (model prog w) A (eval (.Subscript (.Name xa p1) (.Slice none (some (.BoolOp .Or [.Name xp p2, .Constant .none kk p3] p4)) none p5) p6) (envX cn cs L a ccd cl)) Q E s :=
  sub_or F N ha hp hx (fun h' t' tk' F' N' hl => h h' t' tk' F' N' (by omega) (psl_len h0 h1)) hk hxa hda hxp hdp
/-- the equal letters at the end, k of them seen -/
noncomputable def sfx (x y : PySem.Str) (k : Nat) : Nat := preL (x.cps.toList.reverse.drop k) (y.cps.toList.reverse.drop k)
noncomputable def pfx (x y : PySem.Str) (k : Nat) : Nat := preL (x.cps.toList.drop k) (y.cps.toList.drop k)
theorem preL_nil (a : List Nat) : preL a [] = 0 := by cases a <;> rfl
theorem item_eq {x : PySem.Str} {k : Int} (h0 : 0 ≤ k) (h1 : k < x.length) : ∃ h2, Txt.item x k = S [x.cps.toList[k.toNat]'h2] := by
  have h3 : (x.cps.toList.length : Int) = x.length := by simp [PySem.Str.length]
  exact ⟨_, S_item (l := x.cps.toList) h0 (by omega)⟩
theorem item_eqN {x : PySem.Str} {k : Int} (h0 : k < 0) (h1 : 0 ≤ x.length + k) : ∃ h2, Txt.item x k = S [x.cps.toList[(x.cps.toList.length + k).toNat]'h2] := by
  have h3 : (x.cps.toList.length : Int) = x.length := by simp [PySem.Str.length]
  exact ⟨_, S_itemN (l := x.cps.toList) h0 (by omega)⟩
theorem preL_cons {a b : List Nat} {k : Nat} (ha : k < a.length) (hb : k < b.length) : preL (a.drop k) (b.drop k) = if a[k] = b[k] then preL (a.drop (k + 1)) (b.drop (k + 1)) + 1 else 0 := by
  rw [List.drop_eq_getElem_cons ha, List.drop_eq_getElem_cons hb]
  rfl
theorem pfx_turn {x y : PySem.Str} {k : Int} (h0 : 0 ≤ k) (h1 : k < x.length) (h2 : k < y.length) : pfx x y k.toNat = if (Txt.item x k == Txt.item y k) = true then pfx x y (k + 1).toNat + 1 else 0 := by
  obtain ⟨g1, e1⟩ := item_eq h0 h1
  obtain ⟨g2, e2⟩ := item_eq h0 h2
  rw [e1, e2]
  unfold pfx
  rw [preL_cons g1 g2]
  have e3 : (k + 1).toNat = k.toNat + 1 := by omega
  rw [e3]
  simp [S_inj]
theorem sfx_turn {x y : PySem.Str} {k : Int} (h0 : k ≤ 0) (h1 : 0 < x.length + k) (h2 : 0 < y.length + k) : sfx x y (-k).toNat = if (Txt.item x (k - 1) == Txt.item y (k - 1)) = true then sfx x y (-(k - 1)).toNat + 1 else 0 := by
  obtain ⟨g1, e1⟩ := item_eqN (x := x) (k := k - 1) (by omega) (by omega)
  obtain ⟨g2, e2⟩ := item_eqN (x := y) (k := k - 1) (by omega) (by omega)
  have l1 : (x.cps.toList.length : Int) = x.length := by simp [PySem.Str.length]
  have l2 : (y.cps.toList.length : Int) = y.length := by simp [PySem.Str.length]
  rw [e1, e2]
  unfold sfx
  have e3 : (-(k - 1)).toNat = (-k).toNat + 1 := by omega
  rw [e3, preL_cons (by rw [List.length_reverse]; omega) (by rw [List.length_reverse]; omega)]
  simp only [List.getElem_reverse]
  have e4 : x.cps.toList.length - 1 - (-k).toNat = (x.cps.toList.length + (k - 1)).toNat := by omega
  have e5 : y.cps.toList.length - 1 - (-k).toNat = (y.cps.toList.length + (k - 1)).toNat := by omega
  simp only [e4, e5]
  simp [S_inj]
theorem sfx_end1 {x y : PySem.Str} {k : Int} (h0 : k ≤ 0) (h1 : x.length + k = 0) : sfx x y (-k).toNat = 0 := by
  have l1 : (x.cps.toList.length : Int) = x.length := by simp [PySem.Str.length]
  unfold sfx
  rw [List.drop_eq_nil_of_le (by rw [List.length_reverse]; omega)]
  rfl
theorem sfx_end2 {x y : PySem.Str} {k : Int} (h0 : k ≤ 0) (h1 : y.length + k = 0) : sfx x y (-k).toNat = 0 := by
  have l1 : (y.cps.toList.length : Int) = y.length := by simp [PySem.Str.length]
  unfold sfx
  rw [List.drop_eq_nil_of_le (as := y.cps.toList.reverse) (by rw [List.length_reverse]; omega)]
  exact preL_nil _
theorem pfx_end1 {x y : PySem.Str} {k : Int} (h0 : 0 ≤ k) (h1 : x.length = k) : pfx x y k.toNat = 0 := by
  have l1 : (x.cps.toList.length : Int) = x.length := by simp [PySem.Str.length]
  unfold pfx
  rw [List.drop_eq_nil_of_le (by omega)]
  rfl
theorem pfx_end2 {x y : PySem.Str} {k : Int} (h0 : 0 ≤ k) (h1 : y.length = k) : pfx x y k.toNat = 0 := by
  have l1 : (y.cps.toList.length : Int) = y.length := by simp [PySem.Str.length]
  unfold pfx
  rw [List.drop_eq_nil_of_le (as := y.cps.toList) (by omega)]
  exact preL_nil _
end Mine
end

section
open PySem PySem.W PySem.Spec PySem.Calls PyProof.Rows PyProof.V
set_option Elab.async false
set_option maxRecDepth 100000
namespace Mine
section
variable {prog : Program} {w : World} {A : Around} {E : Value → Shared → Prop} {s : Shared} {h₀ : Heap} {L : Addr} {m : SMap} {news : List (Addr × Obj)}
theorem list_rng {Q : Value → Shared → Prop} {r : Addr} {a b c : Int} {t u v : Tok} (n : Nat) (hh : A.handled = none) (F : Fr h₀ L s.heap m) (N : News h₀ L s.heap news)
    (hr : IsRange s.heap r a b c t u v) (hsmall : Builtin.Range.small a b c = true) (hn : Builtin.Range.rangeSize a b c = (n : Int)) (hlen : n ≤ 2 ^ 24)
    (h : ∀ l h' tk vs k, Fr h₀ L h' m → News h₀ L h' ((l, listOf (List.toArray vs) k) :: news) → IntsAre vs (rangeInts a c n) → (∀ p ∈ news, p.1 < l) → Q (.ref l) { s with heap := h', toks := tk }) :
    wpAny (model prog w) A (call (.type "list") [.ref r]) Q E s := by
  refine list_rangeD hh F N hr hsmall hn hlen fun h' tk ys F' N' hk hf hl hp hc => ?_
  obtain ⟨⟨c', e⟩, hne⟩ := hp
  have hL : s.heap.objs.size ≠ L := by
    have := F.ns.lt
    exact Nat.ne_of_gt this
  refine h s.heap.objs.size h' tk ys c' F' ?_ ?_ fun p hp => Heap.lt_size (N p hp).1
  · intro p hp
    rcases List.mem_cons.mp hp with rfl | hp
    · exact ⟨e, hL, hf⟩
    · exact N' p hp
  · exact IntsAre.ofCarried hc

/-- a turn's end, or a return within it -/
noncomputable def TurnN (h₀ : Heap) (L : Addr) (J : SMap → List (Addr × Obj) → Prop) (own : List (Addr × Obj)) (adr : List Addr) (s₁ : Shared) (Q : Flow → Shared → Prop) (f : Flow) (s₂ : Shared) : Prop := InvPostN h₀ L J own adr s₁ Q f s₂
theorem turnN_next {J : SMap → List (Addr × Obj) → Prop} {own news' : List (Addr × Obj)} {adr : List Addr} {s₁ : Shared} {Q : Flow → Shared → Prop} {m' : SMap} {h' : Heap} {tk : Nat} (nx : List (Addr × Obj))
    (F : Fr h₀ L h' m') (N : News h₀ L h' news') (h1 : ∀ p ∈ nx, p ∈ news') (h2 : ∀ p ∈ own, p ∈ news') (h3 : nx.map (·.1) = adr) (hJ : J m' nx) : TurnN h₀ L J own adr s₁ Q .next { s₁ with heap := h', toks := tk } :=
  ⟨h', tk, m', news', nx, rfl, F, N, h1, h2, h3, hJ⟩
theorem turnN_cont {J : SMap → List (Addr × Obj) → Prop} {own news' : List (Addr × Obj)} {adr : List Addr} {s₁ : Shared} {Q : Flow → Shared → Prop} {m' : SMap} {h' : Heap} {tk : Nat} (nx : List (Addr × Obj))
    (F : Fr h₀ L h' m') (N : News h₀ L h' news') (h1 : ∀ p ∈ nx, p ∈ news') (h2 : ∀ p ∈ own, p ∈ news') (h3 : nx.map (·.1) = adr) (hJ : J m' nx) : TurnN h₀ L J own adr s₁ Q .cont { s₁ with heap := h', toks := tk } :=
  ⟨h', tk, m', news', nx, rfl, F, N, h1, h2, h3, hJ⟩
theorem turnN_next' {J : SMap → List (Addr × Obj) → Prop} {own : List (Addr × Obj)} {adr : List Addr} {s₁ : Shared} {Q : Flow → Shared → Prop} {m' : SMap} {h' : Heap} {tk : Nat} (nx : List (Addr × Obj))
    (F : Fr h₀ L h' m') (N : News h₀ L h' (nx ++ own)) (h3 : nx.map (·.1) = adr) (hJ : J m' nx) : TurnN h₀ L J own adr s₁ Q .next { s₁ with heap := h', toks := tk } :=
  turnN_next nx F N (fun _ h => List.mem_append_left _ h) (fun _ h => List.mem_append_right _ h) h3 hJ
theorem all_app {d : Addr} {a b : List (Addr × Obj)} (h1 : ∀ p ∈ a, p.1 ≠ d) (h2 : ∀ p ∈ b, p.1 ≠ d) : ∀ p ∈ a ++ b, p.1 ≠ d := fun p hp => (List.mem_append.mp hp).elim (h1 p) (h2 p)
theorem all_lt {d : Addr} {a : List (Addr × Obj)} (h1 : ∀ p ∈ a, p.1 < d) : ∀ p ∈ a, p.1 ≠ d := fun p hp => Nat.ne_of_lt (h1 p hp)
theorem turnN_ret {J : SMap → List (Addr × Obj) → Prop} {own : List (Addr × Obj)} {adr : List Addr} {s₁ s₂ : Shared} {Q : Flow → Shared → Prop} {v : Value} (h : Q (.ret v) s₂) : TurnN h₀ L J own adr s₁ Q (.ret v) s₂ := h
theorem turnN_brk {J : SMap → List (Addr × Obj) → Prop} {own : List (Addr × Obj)} {adr : List Addr} {s₁ s₂ : Shared} {Q : Flow → Shared → Prop} (h : Q .next s₂) : TurnN h₀ L J own adr s₁ Q .brk s₂ := h
end
section
variable {prog : Program} {w : World} {A : Around} {E : Value → Shared → Prop} {s : Shared} {env : Env} {h₀ : Heap} {x : PySem.Str} {body : List Stmt} {Q : Flow → Shared → Prop}
theorem for_range {r : Addr} {a₀ b₀ : Int} {t₀ u₀ v₀ : Tok} (n : Nat) {m₀ : SMap} {news : List (Addr × Obj)} (J : Nat → SMap → List (Addr × Obj) → Prop)
    (hh : A.handled = none) (hr : IsRange s.heap r a₀ b₀ 1 t₀ u₀ v₀) (hsmall : Builtin.Range.small a₀ b₀ 1 = true) (hn : Builtin.Range.rangeSize a₀ b₀ 1 = (n : Int)) (F : Fr h₀ env.locals s.heap m₀) (N : News h₀ env.locals s.heap news) (hj : J 0 m₀ news)
    (turn : ∀ (i : Nat) t m₁ news₁ h tk own, i < n → news₁.map (·.1) = news.map (·.1) → OwnOff own (news.map (·.1)) → J i m₁ news₁ → Fr h₀ env.locals h (putM m₁ x (.int (a₀ + i) t)) → News h₀ env.locals h (news₁ ++ own) →
      wpAny (model prog w) A (execs body env) (TurnN h₀ env.locals (J (i + 1)) own (news.map (·.1)) { s with heap := h, toks := tk } Q) E { s with heap := h, toks := tk })
    (done : ∀ m₁ news₁ h tk, J n m₁ news₁ → Fr h₀ env.locals h m₁ → News h₀ env.locals h news₁ → Q .next { s with heap := h, toks := tk }) :
    wpAny (model prog w) A (pyIter (.ref r)) (fun it s₂ => LoopAtV prog w A h₀ env x body Q E it s₂) E s := by
  refine wpAny_pyIter_range hr hsmall ?_
  have W : Walks prog w A s.heap.objs.size [s.heap.objs.size] [s.heap.objs.size] n (fun i v => i < n ∧ ∃ t, v = .int (a₀ + i * 1) t)
      (fun i h => IsRangeIter h s.heap.objs.size (a₀ + (i : Nat) * 1) ((n : Int) - (i : Nat)) 1) := (Walks.range hh _ a₀ 1 n).bound
  refine loop_invN J W ?_ ?_ ?_ ?_ (by show IsRangeIter _ _ _ _ _; rw [hn]; simpa using Heap.get?_push_size _ rfl) (F.push _) (fun p hp => ⟨Heap.get?_push_of_some _ (N p hp).1, (N p hp).2⟩) hj ?_ ?_
  · intro hm
    exact absurd F.ns.lt ((List.mem_singleton.mp hm) ▸ Nat.lt_irrefl _)
  · intro b hb
    rw [List.mem_singleton.mp hb]
    exact next_is_new F
  · intro p hp hI
    exact absurd (Heap.lt_size (N p hp).1) ((List.mem_singleton.mp hI) ▸ Nat.lt_irrefl _)
  · intro p hp hI
    exact absurd (Heap.lt_size (N p hp).1) ((List.mem_singleton.mp hI) ▸ Nat.lt_irrefl _)
  · rintro i v m₁ nx h tk own hi ⟨_, t, rfl⟩ hadr hoff hJ F₁ N₁
    have e1 : a₀ + (i : Int) * 1 = a₀ + (i : Int) := by omega
    rw [e1] at F₁
    exact turn i t m₁ nx h tk own hi hadr hoff hJ F₁ N₁
  · intro m₁ nx h tk hJ F₁ N₁
    exact done m₁ nx h tk hJ F₁ N₁
end
end Mine
namespace Mine
theorem rng2_size (n : Nat) : Builtin.Range.rangeSize 2 (2 * ((n : Int) + 1)) 2 = (n : Int) := by
  unfold Builtin.Range.rangeSize
  simp only [show (2 : Int) > 0 by decide, if_true]
  split <;> omega
theorem fitsL {a : Int} (h1 : -(2 ^ 62) ≤ a) (h2 : a < 2 ^ 62) : Builtin.Range.rangeFitsLong a = true := by
  simp only [Builtin.Range.rangeFitsLong, Bool.and_eq_true, decide_eq_true_eq]
  omega
theorem rng2_small {n : Nat} (h : n ≤ 1000) : Builtin.Range.small 2 (2 * ((n : Int) + 1)) 2 = true := by
  unfold Builtin.Range.small
  rw [rng2_size n, fitsL (a := 2) (by omega) (by omega), fitsL (a := 2 * ((n : Int) + 1)) (by omega) (by omega), fitsL (a := (n : Int)) (by omega) (by omega), if_pos (by decide), fitsL (by omega) (by omega)]
  simp
theorem rng1_size (n : Nat) : Builtin.Range.rangeSize 0 (n : Int) 1 = (n : Int) := by
  unfold Builtin.Range.rangeSize
  simp only [show (1 : Int) > 0 by decide, if_true]
  split <;> omega
theorem rng1_small {n : Nat} (h : n ≤ 1000) : Builtin.Range.small 0 (n : Int) 1 = true := small_one (by omega) (by omega) (by omega) (by omega)
end Mine
namespace Mine
section
variable {prog : Program} {w : World} {A : Around} {E : Value → Shared → Prop} {s : Shared} {env : Env} {h₀ : Heap} {x : PySem.Str} {body : List Stmt} {Q : Flow → Shared → Prop}
theorem for_range0 {r : Addr} {b₀ : Int} {t₀ u₀ v₀ : Tok} (n : Nat) {m₀ : SMap} {news : List (Addr × Obj)} (J : Nat → SMap → List (Addr × Obj) → Prop)
    (hh : A.handled = none) (hr : IsRange s.heap r 0 b₀ 1 t₀ u₀ v₀) (hsmall : Builtin.Range.small 0 b₀ 1 = true) (hn : Builtin.Range.rangeSize 0 b₀ 1 = (n : Int)) (F : Fr h₀ env.locals s.heap m₀) (N : News h₀ env.locals s.heap news) (hj : J 0 m₀ news)
    (turn : ∀ (i : Nat) t m₁ news₁ h tk own, i < n → news₁.map (·.1) = news.map (·.1) → OwnOff own (news.map (·.1)) → J i m₁ news₁ → Fr h₀ env.locals h (putM m₁ x (.int (i : Int) t)) → News h₀ env.locals h (news₁ ++ own) →
      wpAny (model prog w) A (execs body env) (TurnN h₀ env.locals (J (i + 1)) own (news.map (·.1)) { s with heap := h, toks := tk } Q) E { s with heap := h, toks := tk })
    (done : ∀ m₁ news₁ h tk, J n m₁ news₁ → Fr h₀ env.locals h m₁ → News h₀ env.locals h news₁ → Q .next { s with heap := h, toks := tk }) :
    wpAny (model prog w) A (pyIter (.ref r)) (fun it s₂ => LoopAtV prog w A h₀ env x body Q E it s₂) E s :=
  for_range n J hh hr hsmall hn F N hj (fun i t m₁ news₁ h tk own h1 h2 h3 h4 F₁ N₁ => turn i t m₁ news₁ h tk own h1 h2 h3 h4 (by rw [Int.zero_add] at F₁; exact F₁) N₁) done
end
/-- a frame's map: these names, and the rest -/
noncomputable def frm : List (PySem.Str × Value) → SMap → SMap
  | [], m => m
  | p :: r, m => putM (frm r m) p.1 p.2
noncomputable def HasAll (m : SMap) : List (PySem.Str × Value) → Prop
  | [] => True
  | p :: r => m p.1 = some p.2 ∧ HasAll m r
theorem frm_self (m : SMap) : ∀ l : List (PySem.Str × Value), HasAll m l → frm l m = m
  | [], _ => rfl
  | p :: r, h => by
    show putM (frm r m) p.1 p.2 = m
    rw [frm_self m r h.2]
    exact putM_self m p.1 p.2 h.1
theorem frm_eq {m : SMap} {l : List (PySem.Str × Value)} (h : HasAll m l) : m = frm l m := (frm_self m l h).symm
theorem fr_frm {h₀ h : Heap} {L : Addr} {m : SMap} (l : List (PySem.Str × Value)) (F : Fr h₀ L h m) (ha : HasAll m l) : Fr h₀ L h (frm l m) := by
  rw [frm_self m l ha]; exact F
end Mine
namespace Mine
noncomputable def EndQ (Q : Flow → Shared → Prop) (f : Flow) (s : Shared) : Prop := Q f s
noncomputable def subS (x y : PySem.Str) : Int := if x = y then 0 else if Txt.lower x = Txt.lower y then 1 else 2
end Mine
namespace Mine
theorem endI {g h' : Heap} {L : Addr} {m' : SMap} {news : List (Addr × Obj)} {s : Shared} {Q : Flow → Shared → Prop} {X v : Int} {t' : Tok} {tk' : Nat}
    (hret : ∀ (t' : Tok) (h' : Heap) (tk' : Nat) (m' : SMap), Fr g L h' m' → News g L h' news → Q (.ret (.int X t')) { s with heap := h', toks := tk' }) (e : X = v) (F : Fr g L h' m') (N : News g L h' news) :
    EndQ Q (.ret (.int v t')) { s with heap := h', toks := tk' } := e ▸ hret t' h' tk' m' F N
end Mine
end

section
open PySem PySem.W PySem.Spec PySem.Calls PyProof.Rows PyProof.V
set_option Elab.async false
set_option maxRecDepth 100000
namespace Mine
section
variable {prog : Program} {w : World} {A : Around} {E : Value → Shared → Prop} {s : Shared} {h₀ : Heap} {L : Addr} {m : SMap} {news : List (Addr × Obj)}
/-- the texts of one sign each -/
noncomputable abbrev chs (l : List Nat) : List PySem.Str := l.map fun c => ⟨#[c]⟩
theorem list_text {Q : Value → Shared → Prop} {x : PySem.Str} {t : Tok} (hh : A.handled = none) (F : Fr h₀ L s.heap m) (N : News h₀ L s.heap news) (hx : x.length ≤ 1000)
    (h : ∀ l h' tk vs k, Fr h₀ L h' m → News h₀ L h' ((l, listOf (List.toArray vs) k) :: news) → StrsAre vs (chs x.cps.toList) → (∀ p ∈ news, p.1 < l) → Q (.ref l) { s with heap := h', toks := tk }) :
    wpAny (model prog w) A (call (.type "list") [.str x t]) Q E s := by
  refine list_strD hh F N (fun h' tk ys F' N' hk hf hl hp hc => ?_) (by rw [sizeLine_eq]; omega)
  obtain ⟨⟨c', e⟩, hne⟩ := hp
  have hL : s.heap.objs.size ≠ L := Nat.ne_of_gt F.ns.lt
  refine h s.heap.objs.size h' tk ys c' F' ?_ ?_ fun p hp => Heap.lt_size (N p hp).1
  · intro p hp
    rcases List.mem_cons.mp hp with rfl | hp
    · exact ⟨e, hL, hf⟩
    · exact N' p hp
  · exact StrsAre.ofCarried hc
end
end Mine
namespace Mine
theorem allLt_mem {d : Addr} {l : List (Addr × Obj)} (h : AllLt d l) : ∀ p ∈ l, p.1 < d := ktn_ltOf h
theorem all_of_AllLt {d d' : Addr} {l : List (Addr × Obj)} (h : AllLt d' l) (hd : @LE.le Nat _ d' d) : ∀ p ∈ l, p.1 ≠ d := fun p hp => Nat.ne_of_lt (Nat.lt_of_lt_of_le (allLt_mem h p hp) hd)
end Mine
end

section
open PySem PySem.W PySem.Spec PySem.Calls PyProof.Rows PyProof.V PySem.Builtin.ObjectAttr
set_option Elab.async false
set_option maxRecDepth 100000
namespace Mine
theorem tl_fn_setattr : typeLookup (.type "function") "__setattr__" = pure (some (.builtin "object.__setattr__")) := by rw [typeLookup_type, builtinLookup_eq_fast]; kernel_rfl
theorem tl_fn_read : typeLookup (.type "function") "read" = pure none := by rw [typeLookup_type, builtinLookup_eq_fast]; kernel_rfl
theorem tl_fn_getattribute : typeLookup (.type "function") "__getattribute__" = pure (some (.builtin "object.__getattribute__")) := by rw [typeLookup_type, builtinLookup_eq_fast]; kernel_rfl
section
variable {prog : Program} {w : World} {A : Around} {E : Value → Shared → Prop} {s : Shared} {h₀ : Heap} {L x : Addr} {m : SMap} {news pre post : List (Addr × Obj)}
theorem isfn_obj {M : Model} {h : Heap} {ox : Obj} (hx : h.get? x = some ox) (hc : ox.cls = .type "function") : Looks M h (isInstance (.ref x) (.type "object")) true := by
  have l : Looks M h (typeOf (.ref x)) (.type "function") := hc ▸ (Looks.ld hx).andThen .now
  refine l.andThen ?_
  refine Looks.of_pure ?_
  unfold isSubtype
  rw [mroOf_type]
  kernel_rfl
/-- storing an attribute on a function object that has no dict yet -/
theorem set_fn {name : PySem.Str} {ox : Obj} {v : Value} {Q : Unit → Shared → Prop} (F : Fr h₀ L s.heap m) (N : News h₀ L s.heap (pre ++ (x, ox) :: post))
    (hf : ∀ d, ({ ox with dict := some d } : Obj).isFreed = false) (hc : ox.cls = .type "function") (hd : ox.dict = none) (hn : ∀ c, ox.data ≠ .cls c) (hty : typeLookup (.type "function") name = pure none)
    (h1 : ∀ p ∈ pre, p.1 ≠ x) (h2 : ∀ p ∈ post, p.1 ≠ x)
    (h : ∀ d h' tk tk', Fr h₀ L h' m → News h₀ L h' ((d, dictOf [⟨PyData.keyHash w.params name, .str name tk, v⟩] 1) :: (pre ++ (x, { ox with dict := some d }) :: post)) → (∀ p ∈ pre ++ (x, ox) :: post, p.1 < d) → Q () { s with heap := h', toks := tk' }) :
    wpAny (model prog w) A (setAttr (.ref x) name v) Q E s := by
  obtain ⟨hh, g, dr, tk, os⟩ := s
  dsimp only at F N h
  have hx := (N (x, ox) (by simp)).1
  have l : Looks (model prog w) hh (typeOf (.ref x)) (.type "function") := hc ▸ (Looks.ld hx).andThen .now
  have SF := PySem.F.store_object
  unfold setAttr
  refine wpAny_bind (wpAny_mkText ?_)
  unfold callSpecial? specialOf bindSpecial
  refine wpAny_bind (wpAny_bind (wpAny_bind (l.here (s := ⟨hh, g, dr, tk + 1, os⟩) ?_)))
  rw [tl_fn_setattr]
  refine wpAny_pure (wpAny_holding ?_)
  have bs : bindSpecial (.builtin "object.__setattr__") (.ref x) = pure (.builtin "object.__setattr__", [.ref x]) := SF.slot.bind _
  unfold bindSpecial at bs
  rw [bs]
  refine wpAny_bind (wpAny_pure (wpAny_bind (wpAny_call ?_)))
  refine codeAny_call_builtin SF.slot.plain SF.entry (@check_slot (model prog w) _ _ _ "object.__setattr__" "object" "__setattr__" (.ref x) [.str name tk, v] [] _ SF.kind SF.split (isfn_obj hx hc) (SF.args (.ref x) (.str name tk) v) ?_)
  have ms : mroOf (.type "function") = pure [.type "function", .type "object"] := by rw [mroOf_type]; kernel_rfl
  have lo : refuseLoop (.ref x) "__setattr__" [.type "function", .type "object"] = pure () := by kernel_rfl
  dsimp only [List.cons_append, List.nil_append]
  rw [osa_eq, refuse_eq]
  refine wpAny_bind (wpAny_bind (l.here (wpAny_bind ((Looks.of_pure (M := model prog w) ms).here ?_))))
  rw [lo]
  refine wpAny_pure (wpAny_bind (l.here (wpAny_bind ((Looks.of_pure (M := model prog w) hty).here (wpAny_bind (wpAny_pure ?_))))))
  obtain ⟨ocl, odi, oda, osl⟩ := ox
  dsimp only at hc hd hn hf
  subst hc hd
  have N1 := N.push F emptyDict
  have F1 := F.push emptyDict
  have hlt : ∀ p ∈ pre ++ (x, ⟨.type "function", none, oda, osl⟩) :: post, p.1 < hh.objs.size := fun p hp => Heap.lt_size (N p hp).1
  have hxlt := hlt (x, ⟨.type "function", none, oda, osl⟩) (by simp)
  obtain ⟨F2, N2⟩ := news_upd (pre := (hh.objs.size, emptyDict) :: pre) (f := fun o => { o with dict := some hh.objs.size }) F1 N1 (fun p hp => by
    rcases List.mem_cons.mp hp with rfl | hp
    · exact Nat.ne_of_gt hxlt
    · exact h1 p hp) h2 (o' := ⟨.type "function", some hh.objs.size, oda, osl⟩) rfl (hf _)
  obtain ⟨F3, N3⟩ := news_upd (pre := []) (f := Obj.putName name (PyData.keyHash w.params name) (.str name (tk + 1)) v) F2 N2 (fun p hp => by cases hp) (fun p hp => by
    rcases List.mem_append.mp hp with hp | hp
    · exact Nat.ne_of_lt (hlt p (List.mem_append_left _ hp))
    · rcases List.mem_cons.mp hp with rfl | hp
      · exact Nat.ne_of_lt hxlt
      · exact Nat.ne_of_lt (hlt p (List.mem_append_right _ (.tail _ hp)))) (o' := dictOf [⟨PyData.keyHash w.params name, .str name (tk + 1), v⟩] 1) rfl rfl
  have D := (N1 _ (List.mem_cons_self ..)).1
  have hx1 := (N1 _ (List.mem_cons_of_mem _ (List.mem_append_right _ (List.mem_cons_self ..)))).1
  have D2 := (N2 (hh.objs.size, emptyDict) (by simp)).1
  have D3 := (N3 _ (List.mem_cons_self ..)).1
  unfold storeInOwnDict ownStreamTells ownDictForStores instanceDict
  refine wpAny_bind (wpAny_pure (wpAny_bind (wpAny_bind (wpAny_loadPart hx ?_))))
  dsimp only
  rw [if_neg (by decide +kernel)]
  split
  · exact absurd rfl (hn _)
  · refine wpAny_bind (wpAny_alloc ?_)
    refine wpAny_bind (wpAny_update hx1 ?_)
    unfold dictMade
    dsimp only
    rw [if_neg (by decide +kernel)]
    refine wpAny_bind (wpAny_pure ?_)
    refine wpAny_pure ?_
    dsimp only
    unfold storeInDict newKeyGuard
    refine wpAny_bind (wpAny_pure ?_)
    unfold nsSet
    refine wpAny_bind (wpAny_bind (wpAny_bind (wpAny_askSetting (wpAny_pure (wpAny_bind (wpAny_mkText (wpAny_bind (wpAny_loadPart D2 ?_))))))))
    dsimp only
    rw [if_neg (by rw [aRefKeyMayBeTheName_at]; simp)]
    refine wpAny_updatePart D2 ?_
    refine wpAny_bind (wpAny_lookBehind D3 (by exact pastItsLine_dict (by rw [List.size_toArray, sizeLine_eq, List.length_singleton]; omega)) ?_)
    refine wpAny_pure ?_
    refine wpAny_pure (wpAny_pure ?_)
    exact h _ _ _ _ F3 N3 hlt
end
end Mine
end

section
open PySem PySem.W PySem.Spec PySem.Calls PyProof.Rows PyProof.V PySem.Builtin.ObjectAttr
set_option Elab.async false
set_option maxRecDepth 100000
namespace Mine
theorem slot_fn_ga : Slot "function" "__getattribute__" "object.__getattribute__" :=
  .of (owner := "object") (n := "__getattribute__") (by rw [typeLookup_type, builtinLookup_eq_fast]; kernel_rfl) (by decide +kernel) (by decide +kernel) (by decide +kernel)
    (by first | exact .inl (by decide +kernel) | exact .inr (by decide +kernel)) (by rw [isSubtype_type]; kernel_rfl)
theorem ga_noc : (Manifest.canonical "object.__getattribute__" != "object.__getattribute__") = false := by decide +kernel
theorem tl_fn_getattr : typeLookup (.type "function") "__getattr__" = pure none := by rw [typeLookup_type, builtinLookup_eq_fast]; kernel_rfl
section
variable {prog : Program} {w : World} {A : Around} {E : Value → Shared → Prop} {s : Shared} {x d : Addr}
/-- an attribute out of a function object's own dict -/
theorem get_fn {name : PySem.Str} {ox : Obj} {fd : FuncData} {hh : Int} {tk : Tok} {v : Value} {pl : Sem Bool} {Q : Value × List Value → Shared → Prop}
    (hx : s.heap.get? x = some ox) (hc : ox.cls = .type "function") (hd : ox.dict = some d) (hn : ox.data = .func fd) (hdd : s.heap.get? d = some (dictOf [⟨hh, .str name tk, v⟩] 1)) (hv : handedIn v = true)
    (hty : typeLookup (.type "function") name = pure none)
    (h : Q (v, []) { s with toks := s.toks + 1 }) :
    wpAny (model prog w) A (getMethod (.ref x) name pl) Q E s := by
  obtain ⟨hp, g, dr, tk0, os⟩ := s
  dsimp only at hx hdd h
  have hT : ∀ t', (⟨hp, g, dr, t', os⟩ : Shared).TypeIs (.ref x) "function" := fun _ => ⟨_, hx, hc⟩
  have hlk := slot_fn_ga.lookup
  unfold getMethod
  refine wpAny_bind (wpAny_specialOf (hT _) hlk ?_)
  show wpAny _ _ (if (Manifest.canonical "object.__getattribute__" != "object.__getattribute__") = true then _ else _) _ _ _
  rw [ga_noc]
  simp only [Bool.false_eq_true, if_false]
  refine wpAny_bind (wpAny_specialOf (hT _) tl_fn_getattr ?_)
  simp only [Option.isSome_none, Bool.false_eq_true, if_false]
  refine wpAny_bind (wpAny_specialOf (hT _) hty ?_)
  unfold getAttr getAttrBy
  refine wpAny_bind (wpAny_bind (wpAny_mkText (wpAny_holding (wpAny_bind (wpAny_typeOf (hT _) (wpAny_bind (wpAny_of_eq hlk ?_)))))))
  show wpAny _ _ (getAttrByItsOwn (.ref x) (.str name tk0) (.type "function") (.builtin "object.__getattribute__") true false) _ _ _
  unfold getAttrByItsOwn hookBefore callGetattribute boundAndCalled
  refine wpAny_bind (wpAny_of_eq (show (if onTheHeap (.type "function") then typeLookup (.type "function") "__getattr__" else pure none) = pure none from rfl) ?_)
  refine wpAny_bind (wpAny_attempt (wpAny_holding ?_))
  show wpAny _ _ (bindSpecial (.builtin "object.__getattribute__") (.ref x) >>= _) _ _ _
  refine wpAny_bind (wpAny_of_eq (slot_fn_ga.bind _) ?_)
  refine wpAny_mono (Q := fun v' s' => v' = v ∧ s' = ⟨hp, g, dr, tk0 + 1, os⟩) (E := fun _ _ => False)
    (wpAny_call_entry slot_fn_ga (hT _) F.entry_object_getattribute ?_ (F.args_object_getattribute_2 _ _)) (fun v' s' hv' => ?_) fun _ _ z => z.elim
  · unfold Builtin.«object.__getattribute__»
    refine wpAny_bind (wpAny_pure (wpAny_bind (wpAny_pure (wpAny_bind (wpAny_typeOf (hT _) (wpAny_bind ?_))))))
    unfold find
    refine wpAny_bind (wpAny_of_eq hty (wpAny_bind (wpAny_pure (wpAny_bind (wpAny_pure ?_)))))
    unfold ownThenClass Builtin.ObjectAttr.inOwnDict Builtin.ObjectAttr.ownDict instanceDict
    obtain ⟨ocl, odi, oda, osl⟩ := ox
    dsimp only at hc hd hn
    subst hc hd hn
    refine wpAny_bind (wpAny_bind (wpAny_bind (wpAny_loadPart hx ?_)))
    refine wpAny_bind (wpAny_loadPart hx ?_)
    refine wpAny_pure (a := some d) ?_
    refine wpAny_bind (wpAny_loadPart hdd ?_)
    rw [nsLook_of (r := some v) (by unfold lookIn; simp [Value.isStr])]
    refine wpAny_pure ?_
    refine wpAny_bind (wpAny_rule (wpAny_pure ?_))
    exact wpAny_pure ⟨v, rfl, rfl, rfl⟩
  · obtain ⟨rfl, rfl⟩ := hv'
    dsimp only
    rw [handedOut_of hv]
    exact wpAny_pure (wpAny_pure h)
theorem truthy_cons {h₀ : Heap} {L l : Addr} {news : List (Addr × Obj)} {v : Value} {vs : List Value} {k : Nat} {Q : Bool → Shared → Prop} (N : News h₀ L s.heap news) (hm : (l, listOf (v :: vs).toArray k) ∈ news) (hz : (v :: vs).length ≤ 1000)
    (h : Q true { s with toks := s.toks + 1 + 1 }) : wpAny (model prog w) A (truthy (.ref l)) Q E s :=
  wpAny_truthy_list (items := (v :: vs).toArray) ⟨_, (N _ hm).1, rfl, k, rfl⟩ (by rw [List.size_toArray]; omega) (by simpa using h)
theorem pop0 {h₀ : Heap} {L D : Addr} {m : SMap} {news news' : List (Addr × Obj)} {v : Value} {vs : List Value} {n : Nat} {u : Tok} {Q : Value → Shared → Prop} (F : Fr h₀ L s.heap m) (N : News h₀ L s.heap news)
    (U : Upd D (listOf (v :: vs).toArray n) (listOf vs.toArray (n + 1)) news news') (hz : (v :: vs).length ≤ 1000)
    (h : ∀ h', Fr h₀ L h' m → News h₀ L h' news' → Q v { s with heap := h' }) : wpAny (model prog w) A (call (.builtin "list.pop") [.ref D, .int 0 u]) Q E s :=
  kl_popAt (k := 0) (p := []) (q := vs) (y := v) F N rfl (by simp [seqIndex?]) rfl U (by rw [sizeLine_eq]; exact Nat.le_trans hz (by decide)) h
end
end Mine
end

section
open PySem PySem.W PySem.Spec PySem.Calls PyProof.Rows PySem.Builtin PySem.Builtin.Str
set_option Elab.async false
namespace Mine
noncomputable abbrev BIG : Int := 9223372036854775807
/-- Python's min of two ints -/
noncomputable abbrev mn2 (a b : Int) : Int := if b < a then b else a
/-- one row of the table -/
noncomputable def inner (c : Nat → Int) : Nat → List Int → Int → Int → Int → List Int × Int × Int
  | _, [], _, r, mn => ([], r, mn)
  | k, q :: qs, d, r, mn =>
    let r' := mn2 (mn2 r q + 2) (d + c k)
    let z := inner c (k + 1) qs q r' (mn2 mn r')
    (r' :: z.1, z.2)
noncomputable def levO (c : Nat → Nat → Int) (mc : Int) : Nat → Nat → List Int → Int → Int
  | 0, _, _, res => res
  | n + 1, i, row, _ =>
    let z := inner (c i) 0 row (i * 2) (i * 2) BIG
    if z.2.2 > mc then mc + 1 else levO c mc n (i + 1) z.1 z.2.1
theorem inner_len (c : Nat → Int) : ∀ (row : List Int) (k : Nat) (d r mn : Int), (inner c k row d r mn).1.length = row.length
  | [], _, _, _, _ => rfl
  | q :: qs, k, d, r, mn => by simp [inner, inner_len c qs]
noncomputable abbrev costS (x y : PySem.Str) (i j : Nat) : Int := subS (Txt.item y i) (Txt.item x j)
/-- where the inner loop stands -/
noncomputable def InnSt (c : Nat → Int) (row0 : List Int) (d0 r0 m0 : Int) (k : Nat) (row : List Int) (d r mn : Int) : Prop :=
  ∃ done rest, row = done ++ rest ∧ done.length = k ∧ inner c 0 row0 d0 r0 m0 = (done ++ (inner c k rest d r mn).1, (inner c k rest d r mn).2)
theorem InnSt.start (c : Nat → Int) (row0 : List Int) (d0 r0 m0 : Int) : InnSt c row0 d0 r0 m0 0 row0 d0 r0 m0 := ⟨[], row0, rfl, rfl, by simp⟩
theorem InnSt.turn {c : Nat → Int} {row0 : List Int} {d0 r0 m0 : Int} {k : Nat} {row : List Int} {d r mn r' mn' : Int} (h : InnSt c row0 d0 r0 m0 k row d r mn) (hk : k < row.length)
    (hr : r' = mn2 (mn2 r (row.getD k 0) + 2) (d + c k)) (hm : mn' = mn2 mn r') : InnSt c row0 d0 r0 m0 (k + 1) (row.set k r') (row.getD k 0) r' mn' := by
  obtain ⟨dn, rest, rfl, hl, e⟩ := h
  cases rest with
  | nil => simp at hk; omega
  | cons q qs =>
    have hq : (dn ++ q :: qs).getD k 0 = q := by
      rw [← hl]; simp
    rw [hq] at hr ⊢
    subst hm
    refine ⟨dn ++ [r'], qs, ?_, by simp [hl], ?_⟩
    · rw [← hl]; simp
    · rw [e]; subst hr; simp [inner]
theorem InnSt.turnI {c : Nat → Int} {row0 : List Int} {d0 r0 m0 : Int} {k : Nat} {row : List Int} {d r mn r' mn' : Int} (h : InnSt c row0 d0 r0 m0 k row d r mn) (hk : k < row.length)
    (hr : r' = mn2 (mn2 r (row.getD (k : Int).toNat 0) + 2) (d + c k)) (hm : mn' = mn2 mn r') : InnSt c row0 d0 r0 m0 (k + 1) (row.set (k : Int).toNat r') (row.getD (k : Int).toNat 0) r' mn' := by
  simp only [Int.toNat_natCast] at hr ⊢
  exact h.turn hk hr hm
theorem InnSt.done {c : Nat → Int} {row0 : List Int} {d0 r0 m0 : Int} {k : Nat} {row : List Int} {d r mn : Int} (h : InnSt c row0 d0 r0 m0 k row d r mn) (hk : row.length = k) : inner c 0 row0 d0 r0 m0 = (row, r, mn) := by
  obtain ⟨dn, rest, rfl, hl, e⟩ := h
  have : rest = [] := by
    cases rest with
    | nil => rfl
    | cons q qs => simp at hk; omega
  subst this
  rw [e]; simp [inner]
theorem InnSt.len {c : Nat → Int} {row0 : List Int} {d0 r0 m0 : Int} {k : Nat} {row : List Int} {d r mn : Int} (h : InnSt c row0 d0 r0 m0 k row d r mn) : row.length = row0.length := by
  obtain ⟨dn, rest, rfl, hl, e⟩ := h
  have h1 := inner_len c row0 0 d0 r0 m0
  rw [e] at h1
  simp [inner_len] at h1 ⊢
  omega
end Mine
namespace Mine
noncomputable def lev3 (x y : PySem.Str) (mc : Int) : Int :=
  if ((y.length : Int) - x.length) * 2 > mc then mc + 1 else levO (costS x y) mc y.length 0 (rangeInts 2 2 x.length) 0
noncomputable def lev2 (x y : PySem.Str) (mc : Int) : Int :=
  if x.length = 0 ∨ y.length = 0 then 2 * ((x.length : Int) + y.length)
  else if 40 < x.length ∨ 40 < y.length then mc + 1
  else if y.length < x.length then lev3 y x mc else lev3 x y mc
end Mine
namespace Mine
noncomputable def lev1 (x y : PySem.Str) (mc : Int) : Int := lev2 (psl x (-(sfx x y 0 : Int))) (psl y (-(sfx x y 0 : Int))) mc
noncomputable def lev (x y : PySem.Str) (mc : Int) : Int :=
  if x = y then 0 else lev1 (Txt.slice x (some (pfx x y 0 : Int)) none) (Txt.slice y (some (pfx x y 0 : Int)) none) mc
end Mine
end

section
open PySem PySem.W PySem.Spec PySem.Calls PyProof.Rows
set_option Elab.async false
set_option maxRecDepth 100000
set_option maxHeartbeats 0
namespace Mine
/-- the nested def `read` of `_law_lexer` -/
noncomputable def rdDef (w : World) : Stmt := ((fnBody (hd01.heap_1 w.params) 249)[1]?).getD default
noncomputable def defArgs : Stmt → Arguments | .FunctionDef _ a _ _ _ _ _ _ _ _ => a | _ => default
noncomputable def defBody : Stmt → List Stmt | .FunctionDef _ _ b _ _ _ _ _ _ _ => b | _ => []
noncomputable def defScope : Stmt → Scope | .FunctionDef _ _ _ _ _ _ s _ _ _ => s | _ => default
noncomputable abbrev rdObj (w : World) (cell : Addr) (dc pm : Value) (c : Addr) (ct : Value) : Obj :=
  fnMade (Str.ofString "read") (Str.ofString "_law_lexer.<locals>.read") (defArgs (rdDef w)) (defBody (rdDef w)) (defScope (rdDef w)) [(Str.ofString "left", cell)] dc pm c ct
/-- what a lexer is made of -/
structure LexA where
  (pb x dx d fd cfd rd crd lf cell : Addr)
  (fo ocf ocr oc : Obj)
  (dc pm ct : Value)
  (t1 t2 t3 t4 t5 t6 : Tok)
structure LexOk (X : LexA) : Prop where
  ord : @LT.lt Nat _ X.cell X.lf ∧ @LT.lt Nat _ X.lf X.rd ∧ @LT.lt Nat _ X.rd X.fd ∧ @LT.lt Nat _ X.fd X.d ∧ @LT.lt Nat _ X.d X.dx ∧ @LT.lt Nat _ X.dx X.x ∧ @LT.lt Nat _ X.x X.pb
  cr : @LT.lt Nat _ X.crd X.rd ∧ @Ne Nat X.crd X.lf ∧ @LT.lt Nat _ X.cfd X.fd ∧ @Ne Nat X.cfd X.lf
  focls : X.fo.cls = .type "function"
  fodict : X.fo.dict = some X.d
  fofun : ∃ fd, X.fo.data = .func fd
  ocr : ∃ vs t, X.ocr.data = .fields vs ∧ vs[1]? = some (.str (Str.ofString "_law_lexer.<locals>.read") t)
  oc : X.oc.data = .cell (some (.ref X.lf))
noncomputable abbrev lexE (w : World) (X : LexA) (ln : Int) (tl : Tok) (pvs : List Value) (pk : Nat) (lvs : List Value) (lk : Nat) : List (Addr × Obj) :=
  [(X.pb, listOf pvs.toArray pk), (X.x, instObj 90 X.dx),
   (X.dx, dictOf [⟨PyData.keyHash w.params (Str.ofString "lineno"), .str (Str.ofString "lineno") X.t1, .int ln tl⟩, ⟨PyData.keyHash w.params (Str.ofString "instream"), .str (Str.ofString "instream") X.t2, .ref X.fd⟩,
      ⟨PyData.keyHash w.params (Str.ofString "whitespace"), .str (Str.ofString "whitespace") X.t3, .str (Str.ofString "\n\t\r ") X.t4⟩, ⟨PyData.keyHash w.params (Str.ofString "pushback"), .str (Str.ofString "pushback") X.t5, .ref X.pb⟩] 4),
   (X.d, dictOf [⟨PyData.keyHash w.params (Str.ofString "read"), .str (Str.ofString "read") X.t6, .ref X.rd⟩] 1), (X.fd, X.fo), (X.cfd, X.ocf), (X.rd, rdObj w X.cell X.dc X.pm X.crd X.ct), (X.crd, X.ocr), (X.lf, listOf lvs.toArray lk), (X.cell, X.oc)]
noncomputable abbrev lexT (crd cfd : Addr) : Obj := tabObj (#[] ++ #[rawInt 196, rawInt 4, Value.ref crd] ++ #[rawInt 200, rawInt 11, Value.ref cfd])
theorem allLt_mono {d d' : Addr} {l : List (Addr × Obj)} (h : AllLt d' l) (hd : @LE.le Nat _ d' d) : AllLt d l := allLt_of fun p hp => Nat.lt_of_lt_of_le (allLt_mem h p hp) hd
theorem news_ins {h₀ h : Heap} {L : Addr} {e1 e2 e3 e4 e5 e6 e7 e8 t c1 c2 : Addr × Obj} {r : List (Addr × Obj)} (N : News h₀ L h (e1 :: e2 :: e3 :: e4 :: e5 :: e6 :: e7 :: e8 :: t :: c1 :: c2 :: r)) :
    News h₀ L h (e1 :: e2 :: e3 :: e4 :: e5 :: c2 :: e6 :: c1 :: e7 :: e8 :: t :: r) := fun p hp => N p (by
  simp only [List.mem_cons] at hp ⊢
  rcases hp with h | h | h | h | h | h | h | h | h | h | h | h <;> simp [h])
theorem news_to {h₀ h : Heap} {L : Addr} {e1 e2 : Addr × Obj} {l r : List (Addr × Obj)} (N : News h₀ L h (e1 :: e2 :: (l ++ r))) : News h₀ L h (l ++ e1 :: e2 :: r) := fun p hp => N p (by
  simp only [List.mem_cons, List.mem_append] at hp ⊢
  rcases hp with h | h | h | h <;> simp [h])
theorem news_back {h₀ h : Heap} {L : Addr} {e1 e2 : Addr × Obj} {l r : List (Addr × Obj)} (N : News h₀ L h (l ++ e1 :: e2 :: r)) : News h₀ L h (e1 :: e2 :: (l ++ r)) := fun p hp => N p (by
  simp only [List.mem_cons, List.mem_append] at hp ⊢
  rcases hp with h | h | h | h <;> simp [h])
theorem fr_ext {h₀ h h' : Heap} {L it : Addr} {m : SMap} {o o' : Obj} {r : List (Addr × Obj)} (F : Fr h₀ L h m) (N : News h₀ L h ((it, o) :: r)) (hx : Heap.ExtBut it h h') (hi : h'.get? it = some o') (h1 : ∀ p ∈ r, p.1 ≠ it) :
    Fr h₀ L h' m ∧ News h₀ L h' ((it, o') :: r) := by
  have D := N (it, o) (List.mem_cons_self ..)
  refine ⟨⟨F.ns.extBut hx (Ne.symm D.2.1), fun b x q => hx b x (fun e => ?_) (F.keep b x q), F.above⟩, fun p hp => ?_⟩
  · have := D.2.2; rw [← e, q] at this; cases this
  · rcases List.mem_cons.mp hp with rfl | hp
    · exact ⟨hi, D.2⟩
    · have P := N p (List.mem_cons_of_mem _ hp)
      exact ⟨hx _ _ (h1 p hp) P.1, P.2⟩
/-- the lexer, as the code reads: a quoted word, a bare word, a word -/
noncomputable def ws (c : Nat) : Bool := c == 10 || c == 9 || c == 13 || c == 32
noncomputable def lexQ : Nat → List Nat → List Nat → List Nat × List Nat
  | 0, tok, _ => (tok, [])
  | _, tok, [] => (tok, [])
  | n + 1, tok, c :: l => if c = 34 then (tok, l) else if c = 92 then lexQ n (tok ++ l.take 1) l.tail else lexQ n (tok ++ [c]) l
noncomputable def lexU : Nat → List Nat → List Nat → List Nat × List Nat
  | 0, tok, _ => (tok, [])
  | _, tok, [] => (tok, [])
  | n + 1, tok, c :: l => if ws c then (tok, l) else if c = 92 then lexU n (tok ++ l.take 1) l.tail else lexU n (tok ++ [c]) l
noncomputable def lexTok : List Nat → List Nat × List Nat
  | [] => ([], [])
  | c :: l => if ws c then lexTok l else if c = 34 then lexQ (l.length + 1) [] l else if c = 92 then lexU (l.length + 1) (l.take 1) l.tail else lexU (l.length + 1) [c] l
noncomputable def gtFor (w : World) : Stmt := ((fnBody (hd01.heap_1 w.params) 80)[3]?).getD default
noncomputable def forBody : Stmt → List Stmt | .For _ _ b _ _ => b | _ => []
noncomputable def ifThen : Stmt → List Stmt | .If _ b _ _ => b | _ => []
noncomputable def ifElse : Stmt → List Stmt | .If _ _ b _ => b | _ => []
noncomputable def gtQ (w : World) : Stmt := ((ifThen (((forBody (gtFor w))[1]?).getD default))[0]?).getD default
noncomputable def gtU (w : World) : Stmt := ((ifElse (((forBody (gtFor w))[1]?).getD default))[2]?).getD default
theorem lexE_ne {w : World} {Y : LexA} {it : Addr} {ln ln' : Int} {tl tl' : Tok} {pvs pvs' lvs lvs' : List Value} {pk pk' lk lk' : Nat} (h : ∀ p ∈ lexE w Y ln tl pvs pk lvs lk, p.1 ≠ it) : ∀ p ∈ lexE w Y ln' tl' pvs' pk' lvs' lk', p.1 ≠ it := by
  simp only [lexE, List.mem_cons, List.not_mem_nil, or_false, forall_eq_or_imp, forall_eq] at h ⊢
  exact h
theorem offs {w : World} {Y : LexA} {it q : Addr} {o1 o2 : Obj} {ln : Int} {tl : Tok} {pvs lvs : List Value} {pk lk : Nat} {news : List (Addr × Obj)} (hi1 : ∀ p ∈ lexE w Y ln tl pvs pk lvs lk, p.1 ≠ it)
    (hq1 : q ≠ Y.pb) (hq2 : q ≠ Y.dx) (hq3 : q ≠ Y.lf) (ho1 : ∀ p ∈ news, p.1 ≠ Y.pb) (ho2 : ∀ p ∈ news, p.1 ≠ Y.dx) (ho3 : ∀ p ∈ news, p.1 ≠ Y.lf) :
    (∀ p ∈ (it, o1) :: (q, o2) :: news, p.1 ≠ Y.pb) ∧ (∀ p ∈ (it, o1) :: (q, o2) :: news, p.1 ≠ Y.dx) ∧ (∀ p ∈ (it, o1) :: (q, o2) :: news, p.1 ≠ Y.lf) := by
  refine ⟨?_, ?_, ?_⟩
  · intro p hp
    rcases List.mem_cons.mp hp with rfl | hp
    · exact fun e => hi1 _ (List.mem_cons_self ..) e.symm
    · rcases List.mem_cons.mp hp with rfl | hp
      · exact hq1
      · exact ho1 _ hp
  · intro p hp
    rcases List.mem_cons.mp hp with rfl | hp
    · exact fun e => hi1 _ (.tail _ (.tail _ (.head _))) e.symm
    · rcases List.mem_cons.mp hp with rfl | hp
      · exact hq2
      · exact ho2 _ hp
  · intro p hp
    rcases List.mem_cons.mp hp with rfl | hp
    · exact fun e => hi1 _ (.tail _ (.tail _ (.tail _ (.tail _ (.tail _ (.tail _ (.tail _ (.tail _ (.head _))))))))) e.symm
    · rcases List.mem_cons.mp hp with rfl | hp
      · exact hq3
      · exact ho3 _ hp
theorem S_app (a b : List Nat) : S a ++ S b = S (a ++ b) := by
  show PySem.Str.mk (a.toArray ++ b.toArray) = PySem.Str.mk (a ++ b).toArray
  rw [List.append_toArray]
theorem chq_t {c : Nat} (h : ((⟨#[c]⟩ : PySem.Str) == Str.ofString "\"") = true) : c = 34 := by
  have e : (⟨#[c]⟩ : PySem.Str) = ⟨#[34]⟩ := eq_of_beq h
  injection e with e; injection e with e; injection e
theorem chq_f {c : Nat} (h : ((⟨#[c]⟩ : PySem.Str) == Str.ofString "\"") = false) : c ≠ 34 := fun e => by
  subst e; revert h; decide
theorem chb_t {c : Nat} (h : ((⟨#[c]⟩ : PySem.Str) == Str.ofString "\\") = true) : c = 92 := by
  have e : (⟨#[c]⟩ : PySem.Str) = ⟨#[92]⟩ := eq_of_beq h
  injection e with e; injection e with e; injection e
theorem chb_f {c : Nat} (h : ((⟨#[c]⟩ : PySem.Str) == Str.ofString "\\") = false) : c ≠ 92 := fun e => by
  subst e; revert h; decide
/-- how many line ends -/
noncomputable def nlc (l : List Nat) : Int := (l.countP (· == 10) : Nat)
structure LnOk (N0 ln : Int) (l : List Nat) : Prop where
  pos : 0 ≤ ln
  le : ln + l.length ≤ 5000
  eq : ln + nlc l = N0
theorem lnok_t {N0 ln : Int} {c : Nat} {l : List Nat} (h : LnOk N0 ln (c :: l)) (hc : c = 10) : LnOk N0 (ln + 1) l := by
  obtain ⟨h1, h2, h3⟩ := h
  subst hc
  simp only [List.length_cons, nlc, List.countP_cons] at h2 h3
  refine ⟨by omega, by omega, ?_⟩
  rw [← h3]; simp only [nlc, beq_self_eq_true, if_true]; omega
theorem lnok_f {N0 ln : Int} {c : Nat} {l : List Nat} (h : LnOk N0 ln (c :: l)) (hc : c ≠ 10) : LnOk N0 ln l := by
  obtain ⟨h1, h2, h3⟩ := h
  have e : (c == 10) = false := beq_false_of_ne hc
  simp only [List.length_cons, nlc, List.countP_cons, e] at h2 h3
  refine ⟨h1, by omega, ?_⟩
  rw [← h3]; simp [nlc]
theorem chn_t {c : Nat} (h : ((⟨#[c]⟩ : PySem.Str) == Str.ofString "\n") = true) : c = 10 := by
  have e : (⟨#[c]⟩ : PySem.Str) = ⟨#[10]⟩ := eq_of_beq h
  injection e with e; injection e with e; injection e
theorem chn_f {c : Nat} (h : ((⟨#[c]⟩ : PySem.Str) == Str.ofString "\n") = false) : c ≠ 10 := fun e => by
  subst e; revert h; decide
end Mine
end

section
open PySem
set_option Elab.async false
namespace Mine
theorem ws_found (c : Nat) : (∃ i, i + (⟨#[c]⟩ : PySem.Str).length ≤ (Str.ofString "\n\t\r ").length ∧ Builtin.Str.subAt (Str.ofString "\n\t\r ") ⟨#[c]⟩ i = true) ↔ ws c = true := by
  have e : Str.ofString "\n\t\r " = ⟨#[10, 9, 13, 32]⟩ := by decide
  rw [e]
  constructor
  · rintro ⟨i, hi, h⟩
    have hi : i + 1 ≤ 4 := hi
    have h := eq_of_beq (show ((#[10, 9, 13, 32] : Array Nat).extract i (i + 1) == #[c]) = true from h)
    have : i = 0 ∨ i = 1 ∨ i = 2 ∨ i = 3 := by omega
    rcases this with rfl | rfl | rfl | rfl
    · have h : (#[10] : Array Nat) = #[c] := h
      injection h with h; injection h with h; subst h; decide
    · have h : (#[9] : Array Nat) = #[c] := h
      injection h with h; injection h with h; subst h; decide
    · have h : (#[13] : Array Nat) = #[c] := h
      injection h with h; injection h with h; subst h; decide
    · have h : (#[32] : Array Nat) = #[c] := h
      injection h with h; injection h with h; subst h; decide
  · intro h
    have : c = 10 ∨ c = 9 ∨ c = 13 ∨ c = 32 := by simpa [ws, or_assoc] using h
    rcases this with rfl | rfl | rfl | rfl
    · exact ⟨0, by decide, by decide⟩
    · exact ⟨1, by decide, by decide⟩
    · exact ⟨2, by decide, by decide⟩
    · exact ⟨3, by decide, by decide⟩
theorem wsq_t {c : Nat} (h : (Builtin.Str.occurrences (Str.ofString "\n\t\r ") ⟨#[c]⟩ 0 (Str.ofString "\n\t\r ").length 1).isEmpty = false) : ws c = true :=
  (ws_found c).mp ((StrLaws.found_iff _ _).mp (by rw [h]; rfl))
theorem wsq_f {c : Nat} (h : (Builtin.Str.occurrences (Str.ofString "\n\t\r ") ⟨#[c]⟩ 0 (Str.ofString "\n\t\r ").length 1).isEmpty = true) : ¬ ws c = true := fun hw => by
  have := (StrLaws.found_iff _ _).mpr ((ws_found c).mpr hw)
  rw [h] at this; cases this
noncomputable def lexTk : List Nat → List Nat × List Nat
  | [] => ([], [])
  | c :: l => if ws c then lexTk l else if c = 34 then lexQ (l.length + 1) [] l else if c = 92 then lexU (l.tail.length + 1) (l.take 1) l.tail else lexU (l.length + 1) [c] l
end Mine
end

section
open PySem PySem.W PySem.Spec PySem.Calls PyProof.Rows PyProof.V
set_option Elab.async false
set_option maxRecDepth 100000
namespace Mine
noncomputable abbrev citObj (q : Value) (sent : Value) : Obj := { cls := .type "callable_iterator", data := .fields #[q, sent, .bool false] }
noncomputable abbrev citEnd : Obj := { cls := .type "callable_iterator", data := .fields #[.none, .none, .bool true] }
theorem slot_cit_next : Slot "callable_iterator" "__next__" "callable_iterator.__next__" :=
  .of (owner := "callable_iterator") (n := "__next__") (by rw [typeLookup_type, builtinLookup_eq_fast]; kernel_rfl) (by decide +kernel) (by decide +kernel) (by decide +kernel)
    (by first | exact .inl (by decide +kernel) | exact .inr (by decide +kernel)) (by rw [isSubtype_type]; kernel_rfl)
theorem entry_cit_next : entryFor table "callable_iterator.__next__" = some Builtin.«callable_iterator.__next__» := entryFor_of_tree (by kernel_rfl)
theorem args_cit_next (a : Value) : argsOk "callable_iterator.__next__" ⟨[a], []⟩ := by
  unfold argsOk; kernel_rfl
noncomputable def citStop (self : Value) : Sem Unit := do
  slotLetsGo "callable_iterator.__next__" (← field self 0) fun | .builtin "callable_iterator.__next__" x => x.pos.head? == some self | _ => false
  setField self 0 .none; setField self 1 .none; setField self 2 (.bool true)
theorem cit_next_eq (args : Args) : Builtin.«callable_iterator.__next__» args = (do
  let (self, _) ← slotArgs "__next__" 0 args
  if (← field self 2) == .bool true then rule "callable_iterator.__next__.ended"; Builtin.SmallTypes.stopIteration
  match ← (callOutOfASlot (← field self 0)).attempt with
  | .error e =>
    if !(← isInstance e (.type "StopIteration")) then throw e
    rule "callable_iterator.__next__.stop-iteration"; citStop self; Builtin.SmallTypes.stopIteration
  | .ok r =>
    if (← field self 2) == .bool true then rule "callable_iterator.__next__.ended-meanwhile"; Builtin.SmallTypes.stopIteration
    if !(← holding [r] (eqBool (← field self 1) r)) then return ← ret r
    rule "callable_iterator.__next__.sentinel"; citStop self; Builtin.SmallTypes.stopIteration) := rfl
theorem wpAny_callBorrowed {M : Model} {A : Around} {E : Value → Shared → Prop} {s : Shared} {f : Value} {pos : List Value} {Q : Value → Shared → Prop}
    (hc : codeAny M A (.call f ⟨pos, []⟩) (fun r s' => match r with | .ok (.ret v) => Q v s' | .ok _ => False | .error e => E e s') s) :
    wpAny M A (callBorrowed f pos) Q E s := fun Γ p hΓ => by
  unfold callBorrowed
  rw [Sem.wp_call]
  have h2 := hc _ p rfl (hΓ.enter (.call f ⟨pos, []⟩) none p (by intro x; cases x))
  refine wpCode_mono (fun r s' h => ?_) h2
  rcases r with e | (v | _ | _ | _) <;> exact h

section
variable {prog : Program} {w : World} {A : Around} {E : Value → Shared → Prop} {s : Shared} {it q f : Addr} {self : Value} {ts : Tok}
theorem borrows {M : Model} {h : Heap} {of : Obj} {fd : FuncData} (hq : h.get? q = some (methodObj (.ref f) self)) (hf : h.get? f = some of) (hof : of.data = .func fd) : Looks M h (borrowsExactly (.ref q)) true := by
  obtain ⟨ocl, odi, oda, osl⟩ := of
  dsimp only at hof
  subst hof
  unfold borrowsExactly
  refine (Looks.ld hq).andThen ?_
  exact (Looks.ld hf).andThen .now
theorem cit_next {of : Obj} {fd : FuncData} {Q : Option Value → Shared → Prop} (hh : A.handled = none)
    (hit : s.heap.get? it = some (citObj (.ref q) (.str ⟨#[]⟩ ts))) (hq : s.heap.get? q = some (methodObj (.ref f) self)) (hf : s.heap.get? f = some of) (hof : of.data = .func fd)
    (hc : codeAny (model prog w) A.in1 (.call (.ref f) ⟨[self], []⟩) (fun r s₁ => match r with
      | .ok (.ret v) => ∃ y t, v = .str y t ∧ s₁.heap.get? it = some (citObj (.ref q) (.str ⟨#[]⟩ ts)) ∧ s₁.heap.get? q = some (methodObj (.ref f) self) ∧ (∃ of fd, s₁.heap.get? f = some of ∧ of.data = .func fd) ∧
          (y ≠ ⟨#[]⟩ → Q (some v) s₁) ∧ (y = ⟨#[]⟩ → ∀ h', Heap.ExtBut it s₁.heap h' → h'.get? it = some citEnd → Q none { s₁ with heap := h' })
      | .ok _ => False
      | .error _ => False) s) :
    wpAny (model prog w) A (pyNext (.ref it)) Q E s := by
  have hT : s.TypeIs (.ref it) "callable_iterator" := ⟨_, hit, rfl⟩
  unfold pyNext
  refine wpAny_bind (wpAny_attempt (wpAny_callSpecial?_slot (name := Str.ofString "__next__") hT slot_cit_next
    (wpAny_call_entry slot_cit_next hT entry_cit_next ?_ (args_cit_next _))))
  rw [cit_next_eq]
  refine wpAny_bind (wpAny_pure ?_)
  refine wpAny_bind (wpAny_field hit rfl (x := .bool false) rfl ?_)
  dsimp only
  rw [if_neg (by decide)]
  refine wpAny_bind (wpAny_field hit rfl (x := .ref q) rfl ?_)
  refine wpAny_bind (wpAny_attempt ?_)
  unfold callOutOfASlot
  refine wpAny_bind ((borrows hq hf hof).here ?_)
  rw [if_pos rfl]
  refine wpAny_callBorrowed (method_call hq (codeAny_mono hc fun r s₁ z => ?_))
  rcases r with e | (v | _ | _ | _) <;> first | exact z.elim | skip
  obtain ⟨y, t, rfl, hit1, hq1, ⟨of1, fd1, hf1, hof1⟩, z1, z2⟩ := z
  dsimp only
  refine wpAny_bind (wpAny_field hit1 rfl (x := .bool false) rfl ?_)
  rw [if_neg (by decide)]
  refine wpAny_bind (wpAny_field hit1 rfl (x := .str ⟨#[]⟩ ts) rfl ?_)
  refine wpAny_bind (wpAny_holding (eqBool_str ?_))
  by_cases hy : y = ⟨#[]⟩
  · subst hy
    rw [if_neg (by decide)]
    refine wpAny_bind (wpAny_rule (wpAny_bind ?_))
    unfold citStop
    refine wpAny_bind (wpAny_field hit1 rfl (x := .ref q) rfl ?_)
    unfold slotLetsGo
    refine wpAny_bind ?_
    refine wpAny_bind ((borrows hq1 hf1 hof1).here ?_)
    rw [if_pos rfl]
    refine wpAny_pure ?_
    refine wpAny_bind (wpAny_setField hit1 rfl (by simp) ?_)
    have g1 := Heap.get?_update_self (Obj.mapFields (·.setIfInBounds 0 .none)) hit1 rfl
    refine wpAny_bind (wpAny_setField g1 rfl (by simp) ?_)
    have g2 := Heap.get?_update_self (Obj.mapFields (·.setIfInBounds 1 .none)) g1 rfl
    refine wpAny_setField g2 rfl (by simp) ?_
    have g3 := Heap.get?_update_self (Obj.mapFields (·.setIfInBounds 2 (.bool true))) g2 rfl
    unfold Builtin.SmallTypes.stopIteration
    refine wpAny_bind ?_
    simp only [newExc, newTuple]
    refine wpAny_bind (wpAny_newObj_type ?_ (by size_fits))
    refine wpAny_bind (m := firstArgMember _ _) (wpAny_of_eq (a := Value.none) (by first | rfl | (simp only [firstArgMember]; rfl)) ?_)
    refine wpAny_newObj_type ?_ (by size_fits)
    simp only [raiseNew]
    refine wpAny_bind (wpAny_handled ?_)
    first | rw [show A.in1.handled = none from hh] | rw [hh]
    refine wpAny_bind (wpAny_pure (wpAny_throw ?_))
    refine wpAny_bind (wpAny_isInstance (T := "StopIteration") (b := true) ⟨_, Heap.get?_push_size _ rfl, rfl⟩ isSubtype_stop ?_)
    refine wpAny_pure (z2 rfl _ ?_ ?_)
    · exact ((((Heap.SameBut.update ..).trans (Heap.SameBut.update ..)).trans (Heap.SameBut.update ..)).extBut.push _).push _
    · exact Heap.get?_push_of_some _ (Heap.get?_push_of_some _ g3)
  · have hne : (!((⟨#[]⟩ : PySem.Str) == y)) = true := by
      rw [Bool.not_eq_true', beq_eq_false_iff_ne]; exact fun e => hy e.symm
    rw [if_pos hne]
    exact wpAny_pure ⟨_, rfl, wpAny_pure (z1 hy)⟩
theorem kind_iter : builtinKind "iter" = none := by decide +kernel
theorem plain_iter : plainId "iter" = true := by decide +kernel
theorem entry_iter : entryFor table "iter" = some Builtin.«iter» := entryFor_of_tree (by kernel_rfl)
theorem args_iter2 (a b : Value) : argsOk "iter" ⟨[a, b], []⟩ := by unfold argsOk; kernel_rfl
theorem tl_meth_call : typeLookup (.type "method") "__call__" = pure (some (.builtin "method.__call__")) := by rw [typeLookup_type, builtinLookup_eq_fast]; kernel_rfl
theorem iter2 {h₀ : Heap} {L : Addr} {m : SMap} {news : List (Addr × Obj)} {sent : Value} {Q : Value → Shared → Prop} (F : Fr h₀ L s.heap m) (N : News h₀ L s.heap news) (hq : (q, methodObj (.ref f) self) ∈ news)
    (h : ∀ c h', Fr h₀ L h' m → News h₀ L h' ((c, citObj (.ref q) sent) :: news) → (∀ p ∈ news, p.1 < c) → Q (.ref c) { s with heap := h' }) :
    wpAny (model prog w) A (call (.builtin "iter") [.ref q, sent]) Q E s := by
  have hvc := tl_meth_call
  have hT : s.TypeIs (.ref q) "method" := ⟨_, (N _ hq).1, rfl⟩
  refine call_function_entry kind_iter plain_iter entry_iter (args_iter2 _ _) ?_
  unfold Builtin.«iter»
  refine wpAny_bind (wpAny_pure ?_)
  refine wpAny_bind (wpAny_specialOf hT hvc ?_)
  simp only [Option.isNone_some, Bool.false_eq_true, if_false]
  refine wpAny_bind (wpAny_rule (wpAny_bind ?_))
  exact wpAny_newObj_type (wpAny_pure ⟨_, rfl, h _ _ (F.push _) (N.push F _) (fun p hp => Heap.lt_size (N p hp).1)⟩)
end
end Mine
end

section
open PySem PySem.W PySem.Spec PySem.Calls PyProof.Rows PyProof.V
set_option Elab.async false
set_option maxRecDepth 100000
namespace Mine
theorem slot_cit_iter : Slot "callable_iterator" "__iter__" "callable_iterator.__iter__" :=
  .of (owner := "callable_iterator") (n := "__iter__") (by rw [typeLookup_type, builtinLookup_eq_fast]; kernel_rfl) (by decide +kernel) (by decide +kernel) (by decide +kernel)
    (by first | exact .inl (by decide +kernel) | exact .inr (by decide +kernel)) (by rw [isSubtype_type]; kernel_rfl)
theorem entry_cit_iter : entryFor table "callable_iterator.__iter__" = some Builtin.«dict_keyiterator.__iter__» :=
  entryFor_alias (id' := "dict_keyiterator.__iter__") (by kernel_rfl) (by first | rfl | decide +kernel | (unfold String.splitOn; simp +decide [String.splitOnAux])) (by decide +kernel) (by kernel_rfl)
theorem args_cit_iter (a : Value) : argsOk "callable_iterator.__iter__" ⟨[a], []⟩ := by
  unfold argsOk; kernel_rfl
noncomputable def ItAt (it : Addr) (I : Nat → Shared → Prop) (xv : Value) (s₁ : Shared) : Prop := xv = .ref it ∧ s₁.TypeIs (.ref it) "callable_iterator" ∧ ∃ n, I n s₁
noncomputable def NextI (I : Nat → Shared → Prop) (n : Nat) (s : Shared) : Prop := ∃ m, m < n ∧ I m s
section
variable {prog : Program} {w : World} {A : Around} {E : Value → Shared → Prop} {s : Shared} {it : Addr} {env : Env}
theorem cit_iter {Q : Value → Shared → Prop} (hT : s.TypeIs (.ref it) "callable_iterator") (h : Q (.ref it) s) : wpAny (model prog w) A (pyIter (.ref it)) Q E s := by
  refine wpAny_pyIter_slot hT slot_cit_iter (wpAny_call_entry slot_cit_iter hT entry_cit_iter ?_ (args_cit_iter _))
  unfold Builtin.«dict_keyiterator.__iter__»
  exact wpAny_bind (wpAny_pure (wpAny_pure ⟨_, rfl, "callable_iterator", _, hT, slot_cit_next.lookup, h⟩))
theorem For_I {x : PySem.Str} {iter : Expr} {body : List Stmt} {px pos : Pos} {Q : Flow → Shared → Prop} (I : Nat → Shared → Prop)
    (h : wpAny (model prog w) A (eval iter env) (fun xv s₁ => ItAt it I xv s₁) E s)
    (turn : ∀ n s, I n s → wpAny (model prog w) A (pyNext (.ref it)) (fun r s₁ => match r with
      | none => Q .next s₁
      | some v => wpAny (model prog w) A (storeName env x v) (fun _ s₂ => wpAny (model prog w) A (execs body env) (fun f s₃ => match f with
          | .next | .cont => NextI I n s₃
          | .brk => Q .next s₃
          | .ret v => Q (.ret v) s₃) E s₂) E s₁) E s)
    (hs : ∀ x, foldedSetIterable iter env x = pure x := by intro _; rfl)
    (hE : PassesOwn (model prog w) A env E := by passes_own) :
    wpAny (model prog w) A (exec (.For (.Name x px) iter body [] pos) env) Q E s := by
  refine wpAny_For (wpAny_mono h (fun xv s₁ h₁ => ?_) fun _ _ e => e) hs
  obtain ⟨rfl, hT, n, hI⟩ := h₁
  refine cit_iter hT ?_
  refine codeAny_forLoop (R := fun r s' => match r with | .ok f => Q f s' | .error e => cameBackBy (model prog w) A env E e s') I (fun n s hI => ?_) n hI
  refine wpAny_passesOwn hE (wpAny_mono (turn n s hI) (fun r s₁ h₁ => ?_) fun _ _ e => e)
  cases r with
  | none => exact wpAny_execs_nil h₁
  | some v =>
    refine wpAny_assign_Name (wpAny_passesOwn hE (wpAny_mono h₁ (fun _ s₂ h₂ => ?_) fun _ _ e => e))
    refine wpAny_passesOwn hE (wpAny_mono h₂ (fun f s₃ h₃ => ?_) fun _ _ e => e)
    cases f <;> exact h₃
end
end Mine
end

section
open PySem PySem.W PySem.Spec PySem.Calls PyProof.Rows PyProof.V
set_option Elab.async false
set_option maxRecDepth 100000
namespace Mine
section
variable {prog : Program} {w : World} {A : Around} {E : Value → Shared → Prop} {s : Shared} {it : Addr} {env : Env}
theorem cit_next_end {Q : Option Value → Shared → Prop} (hh : A.handled = none) (hit : s.heap.get? it = some citEnd)
    (hQ : ∀ h', Heap.ExtBut it s.heap h' → h'.get? it = some citEnd → Q none { s with heap := h' }) : wpAny (model prog w) A (pyNext (.ref it)) Q E s := by
  have hT : s.TypeIs (.ref it) "callable_iterator" := ⟨_, hit, rfl⟩
  unfold pyNext
  refine wpAny_bind (wpAny_attempt (wpAny_callSpecial?_slot (name := Str.ofString "__next__") hT slot_cit_next
    (wpAny_call_entry slot_cit_next hT entry_cit_next ?_ (args_cit_next _))))
  rw [cit_next_eq]
  refine wpAny_bind (wpAny_pure ?_)
  refine wpAny_bind (wpAny_field hit rfl (x := .bool true) rfl ?_)
  dsimp only
  rw [if_pos (by decide)]
  refine wpAny_bind (wpAny_rule ?_)
  unfold Builtin.SmallTypes.stopIteration
  refine wpAny_bind (wpAny_bind ?_)
  simp only [newExc, newTuple]
  refine wpAny_bind (wpAny_newObj_type ?_ (by size_fits))
  refine wpAny_bind (m := firstArgMember _ _) (wpAny_of_eq (a := Value.none) (by first | rfl | (simp only [firstArgMember]; rfl)) ?_)
  refine wpAny_newObj_type ?_ (by size_fits)
  simp only [raiseNew]
  refine wpAny_bind (wpAny_handled ?_)
  first | rw [show A.in1.handled = none from hh] | rw [hh]
  refine wpAny_bind (wpAny_pure (wpAny_throw ?_))
  refine wpAny_bind (wpAny_isInstance (T := "StopIteration") (b := true) ⟨_, Heap.get?_push_size _ rfl, rfl⟩ isSubtype_stop ?_)
  exact wpAny_pure (hQ _ (((Heap.SameBut.refl ..).extBut.push _).push _) (Heap.get?_push_of_some _ (Heap.get?_push_of_some _ hit)))
end
end Mine
end

section
open PySem PySem.W PySem.Spec PySem.Calls PyProof.Rows PyProof.V
set_option Elab.async false
set_option maxRecDepth 100000
namespace Mine
/-- the regex machine, run in turns, as a pure function -/
noncomputable def driveP : Nat → Sre.M → Option Sre.M
  | 0, _ => none
  | n + 1, m => let m' := m.runFor Builtin.Re.reTurnSteps; if m'.outcome.isSome then some m' else driveP n m'
section
variable {prog : Program} {w : World} {A : Around} {E : Value → Shared → Prop} {s : Shared}
theorem drive_ok {Q : Sre.M → Shared → Prop} : ∀ (n N : Nat) (m m' : Sre.M), n ≤ N → driveP n m = some m' → Q m' s → wpAny (model prog w) A (Builtin.Re.reDrive N m) Q E s
  | 0, _, _, _, _, h, _ => by cases h
  | n + 1, 0, _, _, hn, _, _ => absurd hn (by omega)
  | n + 1, N + 1, m, m', hn, h, q => by
    unfold driveP at h
    unfold Builtin.Re.reDrive
    dsimp only at h ⊢
    split at h
    · rename_i e
      cases h
      rw [if_pos e]; exact wpAny_pure q
    · rename_i e
      rw [if_neg e]
      exact wpAny_bind (wpAny_rule (drive_ok n N _ _ (by omega) h q))
theorem rules_ok {Q : PUnit → Shared → Prop} (f : Nat → Bool) (g : Nat → String) : ∀ (l : List Nat), Q ⟨⟩ s → wpAny (model prog w) A (forIn l PUnit.unit fun i _ => do
      if f i then rule (g i)
      pure (ForInStep.yield PUnit.unit)) Q E s
  | [], q => wpAny_pure q
  | a :: l, q => by
    rw [List.forIn_cons]
    refine wpAny_bind ?_
    split
    · exact wpAny_bind (wpAny_rule (wpAny_pure (rules_ok f g l q)))
    · exact wpAny_pure (rules_ok f g l q)
theorem run_ok {Q : Option Sre.M → Shared → Prop} {n : Nat} {m m' : Sre.M} (hn : n ≤ 2 ^ 64) (h : driveP n m = some m') (ho : m'.outcome = some .failed) (q : Q none s) : wpAny (model prog w) A (Builtin.Re.reRunToEnd m) Q E s := by
  unfold Builtin.Re.reRunToEnd
  refine wpAny_bind (drive_ok n _ m m' hn h ?_)
  refine wpAny_bind ?_
  refine rules_ok (fun i => m'.seen.has i) (fun i => Sre.names.getD i "") _ ?_
  rw [ho]
  exact wpAny_pure q
end
end Mine
end

section
open PySem PySem.W PySem.Spec PySem.Calls PyProof.Rows PyProof.V
set_option Elab.async false
set_option maxRecDepth 100000
namespace Mine
theorem slot_re_search : Slot "re.Pattern" "search" "re.Pattern.search" :=
  .of (owner := "re.Pattern") (n := "search") (by rw [typeLookup_type, builtinLookup_eq_fast]; kernel_rfl) (by decide +kernel) (by decide +kernel) (by decide +kernel)
    (by first | exact .inl (by decide +kernel) | exact .inr (by decide +kernel)) (by rw [isSubtype_type]; kernel_rfl)
theorem plainAttrs_re : PlainAttrs "re.Pattern" :=
  ⟨⟨"object.__getattribute__", by rw [typeLookup_type, builtinLookup_eq_fast]; kernel_rfl, by decide +kernel⟩, by rw [typeLookup_type, builtinLookup_eq_fast]; kernel_rfl⟩
theorem type_re_search : typeOf (.builtin "re.Pattern.search") = pure (.type "method_descriptor") := by show builtinType _ = _; rw [builtinType_eq_fast]; kernel_rfl
theorem entry_re_search : entryFor table "re.Pattern.search" = some Builtin.«re.Pattern.search» := entryFor_of_tree (by kernel_rfl)
theorem args_re_search (a b : Value) : argsOk "re.Pattern.search" ⟨[a, b], []⟩ := by unfold argsOk; kernel_rfl
theorem named_search (v : Value) : Builtin.Re.reNamed "re.Pattern.search" "search" ["string", "pos", "endpos"] 1 [v] [] = pure [some v, none, none] := by rfl
noncomputable def reNo (code : Array Nat) (x : PySem.Str) : Bool := match driveP 200 (Sre.forSearch code x.cps 0 0 (min (2 ^ 63 - 1 : Int).toNat x.cps.size) false) with
  | some m => (match m.outcome with | some .failed => true | _ => false)
  | none => false
section
variable {prog : Program} {w : World} {A : Around} {E : Value → Shared → Prop} {s : Shared} {p c : Addr}
noncomputable abbrev patObj (src : PySem.Str) (t1 t2 t3 t4 : Tok) (fl : Int) (c : Addr) : Obj := { cls := .type "re.Pattern", data := .fields #[.str src t1, .int fl t2, .int 0 t3, .none, .none, .ref c, .int 0 t4] }
theorem re_method {o : Obj} {pl : Sem Bool} {Q : Value × List Value → Shared → Prop} (hp : s.heap.get? p = some o) (hc : o.cls = .type "re.Pattern") (hd : o.dict = none) (h : Q (.builtin "re.Pattern.search", [.ref p]) s) :
    wpAny (model prog w) A (getMethod (.ref p) "search" pl) Q E s :=
  getMethod_builtin ⟨_, hp, hc⟩ plainAttrs_re slot_re_search type_re_search (fun a e => by cases e; exact ⟨_, hp, hd⟩) h
theorem re_search {src x : PySem.Str} {t t1 t2 t3 t4 : Tok} {fl : Int} {oc : Obj} {xs : Array Value} {k : Nat} {Q : Value → Shared → Prop}
    (hp : s.heap.get? p = some (patObj src t1 t2 t3 t4 fl c)) (hcc : s.heap.get? c = some oc) (hcd : oc.data = .seq xs k)
    (hno : reNo ((xs.map Builtin.Re.reRawOf).map (·.toNat)) x = true) (h : Q .none s) :
    wpAny (model prog w) A (call (.builtin "re.Pattern.search") [.ref p, .str x t]) Q E s := by
  refine wpAny_call_entry slot_re_search ⟨_, hp, rfl⟩ entry_re_search ?_ (args_re_search _ _)
  unfold Builtin.«re.Pattern.search» Builtin.Re.reTarget
  refine wpAny_bind ?_
  refine wpAny_bind (wpAny_of_eq (named_search _) ?_)
  refine wpAny_bind (wpAny_pure ?_)
  refine wpAny_bind (wpAny_pure ?_)
  refine wpAny_bind (wpAny_fieldsOf hp rfl ?_)
  refine wpAny_bind (wpAny_bind (wpAny_pure (wpAny_pure ?_)))
  dsimp only
  rw [if_neg (by show ¬ (false = true); exact Bool.false_ne_true), if_neg (by show ¬ (false = true); exact Bool.false_ne_true)]
  refine wpAny_bind (wpAny_pure ?_)
  unfold Builtin.Re.reRawItems seqItems?
  refine wpAny_bind (wpAny_bind (wpAny_bind (wpAny_load hcc ?_)))
  rw [hcd]
  refine wpAny_pure (wpAny_pure (wpAny_pure ?_))
  unfold Builtin.Re.reAnswer
  refine wpAny_bind ?_
  unfold reNo at hno
  split at hno
  · rename_i m hm
    split at hno
    · rename_i ho
      refine run_ok (n := 200) (by decide) hm ho ?_
      exact wpAny_pure ⟨_, rfl, h⟩
    · cases hno
  · cases hno
end
end Mine
end

section
open PySem PySem.W PySem.Spec PySem.Calls PyProof.Rows PyProof.V
set_option Elab.async false
set_option maxRecDepth 100000
namespace Mine
noncomputable def NilAt (h₀ : Heap) (L : Addr) (m : SMap) (news : List (Addr × Obj)) (l : Addr) (k : Nat) (s : Shared) (xv : Value) (s₁ : Shared) : Prop :=
  xv = .ref l ∧ ∃ h' tk', s₁ = { s with heap := h', toks := tk' } ∧ Fr h₀ L h' m ∧ News h₀ L h' news ∧ (l, listOf #[] k) ∈ news
section
variable {prog : Program} {w : World} {A : Around} {E : Value → Shared → Prop} {s : Shared} {env : Env} {h₀ : Heap} {L : Addr} {m : SMap} {news : List (Addr × Obj)}
/-- a for loop over an empty list -/
theorem For_nil {target iter : Expr} {body : List Stmt} {pos : Pos} {Q : Flow → Shared → Prop} {l : Addr} {k : Nat} (hh : A.handled = none) (_F : Fr h₀ L s.heap m) (_N : News h₀ L s.heap news) (_m : (l, listOf #[] k) ∈ news)
    (h : wpAny (model prog w) A (eval iter env) (NilAt h₀ L m news l k s) E s)
    (hq : ∀ h' tk', Fr h₀ L h' m → News h₀ L h' news → Q .next { s with heap := h', toks := tk' })
    (hs : ∀ x, foldedSetIterable iter env x = pure x := by intro _; rfl) :
    wpAny (model prog w) A (exec (.For target iter body [] pos) env) Q E s := by
  refine wpAny_For (wpAny_mono h (fun xv s₁ h₁ => ?_) fun _ _ e => e) hs
  obtain ⟨rfl, h1, tk1, rfl, F, N, hm⟩ := h₁
  have hl : h1.IsList l #[] := ⟨_, (N _ hm).1, rfl, k, rfl⟩
  refine wpAny_pyIter_list (s := { s with heap := h1, toks := tk1 }) hl ?_
  refine codeAny_forLoop_any (R := fun r s' => match r with | .ok f => Q f s' | .error e => cameBackBy (model prog w) A env E e s') (fun n s' => s' = _) (fun n s' e => ?_) 0 rfl
  subst e
  have N2 := N.push F { cls := .type "list_iterator", data := .fields #[.ref l, .int 0 0] }
  have F2 := F.push { cls := .type "list_iterator", data := .fields #[.ref l, .int 0 0] }
  refine wpAny_pyNext_list_end (l := l) (items := #[]) (i := 0) hh ⟨_, Heap.get?_push_size _ rfl, rfl, rfl⟩ ⟨_, (N2 _ (List.mem_cons_of_mem _ hm)).1, rfl, k, rfl⟩ rfl fun h' hx => ?_
  refine wpAny_execs_nil ?_
  have hne : ∀ p ∈ news, p.1 ≠ h1.objs.size := fun p hp => Nat.ne_of_lt (Heap.lt_size (N p hp).1)
  have D := N2 _ (List.mem_cons_self ..)
  exact hq h' tk1 ⟨F2.ns.extBut hx (Ne.symm D.2.1), fun b x q => hx b x (fun e => by have := D.2.2; rw [← e, q] at this; cases this) (F2.keep b x q), F2.above⟩
    fun p hp => ⟨hx _ _ (hne p hp) (N2 p (List.mem_cons_of_mem _ hp)).1, (N2 p (List.mem_cons_of_mem _ hp)).2⟩
end
end Mine
end

section
open PySem PySem.W PySem.Spec PySem.Calls PyProof.Rows PyProof.V
set_option Elab.async false
set_option maxRecDepth 100000
namespace Mine
section
variable {prog : Program} {w : World} {A A₀ : Around} {s : Shared} {K : Frag} {L : Addr} {h₀ base : Heap} {m mg mb : SMap} {news : List (Addr × Obj)} {p : Program} {loose : List PySem.Str} {mean : ExcName → Option Value}
/-- entering a function of the written part whose binder makes one empty dict (for a keyword parameter) -/
theorem code_kw {env : Env} {outer : List Env} {R : Result → Shared → Prop} {name qual : PySem.Str} {params : Arguments} {body : List Stmt} {scope : Scope} {dV kV doc pm cdv ct oc : Value} {an od : Option Addr} {osl : Array (Option Value)} {f : Addr} {args : Args} {binds : Addr → List (PySem.Str × Value)}
    (B : Below A₀ base outer h₀) (F : Fr h₀ L s.heap m) (X₀ : K.In h₀) (N : News h₀ L s.heap news) (T : Top p loose mean mg mb h₀) (hA : A.frames = some (env :: outer)) (hf : env.frame = some L) (hke : env.scope.kind = .function)
    (ho : K.lookup f = some ⟨oc, od, .func (fnX name qual params body scope [] dV kV doc pm an cdv ct), osl⟩) (hcd : codeIn K cdv qual = true) (hroom : A.depth < recursionLimit)
    (hbind : ∀ (M : Model) (A : Around) (E : Value → Shared → Prop) (Q : List (PySem.Str × Value) → Shared → Prop), Q (binds s.heap.objs.size) { s with heap := s.heap.push emptyDict } → wpAny M A (bindArgs (fnX name qual params body scope [] dV kV doc pm an cdv ct) args) Q E s)
    (hloc : ∀ d, ∀ y ∈ binds d, scope.names.lookup y.1 = some .local)
    (h : ∀ d g L' h₁, Fr h₀ L g m → Fr g L' h₁ (fun y => (binds d).reverse.lookup y) → News g L' h₁ ((d, emptyDict) :: news) → (∀ p ∈ news, p.1 < d) → Below A base (env :: outer) g → K.In g → Top p loose mean mg mb g →
      wpAny (model prog w) (A.deeper (envX qual scope L' f cdv [])) (execs body (envX qual scope L' f cdv []))
        (fun fl s' => LeaveK h₀ L m g R (match fl with | .ret v => v | _ => .none) s')
        (fun e s' => wpAny (model prog w) (A.deeper (envX qual scope L' f cdv [])) (leaving (envX qual scope L' f cdv []) e) (fun _ s'' => R (.error e) s'') (fun e' s'' => R (.error e') s'') s')
        { s with heap := h₁, toks := s.toks + (binds d).length })
    (hco : scope.isCoroutine = false) (hgen : scope.isGenerator = false) (hk : scope.kind = .function)
    (hcell : ∀ x ∈ scope.names, x.2 ≠ .cell) : codeAny (model prog w) A (.call (.ref f) args) R s := by
  have F1 := F.push emptyDict
  have N1 := N.push F emptyDict
  obtain ⟨FG, BG, st, lv⟩ := groundX (s := { s with heap := s.heap.push emptyDict }) (R := R) B F1 N1 hA hf hke
  refine codeAny_call_function hroom ((X₀.keeps F.keep) _ _ ho) rfl hco hgen rfl (codeRec_of (X₀.keeps F.keep) hcd) (hbind _ _ _ _ ?_)
  refine wpAny_newFunctionEnv (s := { s with heap := s.heap.push emptyDict }) hcell (hloc _) (fun h₁ hns₀ hsb₀ => ⟨(T.nolimit.keeps F1.keep).fresh _ hsb₀, codeAny_func ?_⟩) hk
  have hk₁ : ∀ b o, (s.heap.push emptyDict).get? b = some o → h₁.get? b = some o := fun b o e => hsb₀.extBut b o (Nat.ne_of_lt (Heap.lt_size e)) (Heap.get?_push_of_some _ e)
  exact wpAny_mono (h s.heap.objs.size _ (s.heap.push emptyDict).objs.size h₁ FG ⟨hns₀, fun b o e => hk₁ b o (of_hideAll _ e), Nat.le_of_eq (hideAll_size _ _)⟩
    (fun p hp => ⟨hk₁ _ _ (N1 p hp).1, Nat.ne_of_lt (Heap.lt_size (N1 p hp).1), hideAll_none _ (List.mem_map_of_mem hp)⟩) (fun p hp => Heap.lt_size (N p hp).1) BG (X₀.keeps st) (T.keeps st)) (fun fl s' hl => lv _ _ hl) fun _ _ y => y
end
end Mine
end

section
open PySem PySem.W PySem.Spec PySem.Calls PyProof.Rows PyProof.V
set_option Elab.async false
set_option maxRecDepth 100000
namespace Mine
noncomputable def NilView (h₀ : Heap) (L : Addr) (m : SMap) (news : List (Addr × Obj)) (d : Addr) (s : Shared) (xv : Value) (s₁ : Shared) : Prop :=
  ∃ v, xv = .ref v ∧ ∃ h' tk', s₁ = { s with heap := h', toks := tk' } ∧ Fr h₀ L h' m ∧ News h₀ L h' ((v, { cls := .type "dict_items", data := .fields #[.ref d] }) :: news) ∧ (d, emptyDict) ∈ news
section
variable {prog : Program} {w : World} {A : Around} {E : Value → Shared → Prop} {s : Shared} {env : Env} {h₀ : Heap} {L : Addr} {m : SMap} {news : List (Addr × Obj)}
/-- a for loop over the items of an empty dict -/
theorem For_nilItems {target iter : Expr} {body : List Stmt} {pos : Pos} {Q : Flow → Shared → Prop} {d : Addr} (hh : A.handled = none) (_F : Fr h₀ L s.heap m) (_N : News h₀ L s.heap news) (_m : (d, emptyDict) ∈ news)
    (h : wpAny (model prog w) A (eval iter env) (NilView h₀ L m news d s) E s)
    (hq : ∀ h' tk', Fr h₀ L h' m → News h₀ L h' news → Q .next { s with heap := h', toks := tk' })
    (hs : ∀ x, foldedSetIterable iter env x = pure x := by intro _; rfl) :
    wpAny (model prog w) A (exec (.For target iter body [] pos) env) Q E s := by
  refine wpAny_For (wpAny_mono h (fun xv s₁ h₁ => ?_) fun _ _ e => e) hs
  obtain ⟨v, rfl, h1, tk1, rfl, F, N, hm⟩ := h₁
  have hv : h1.IsItemsView v d := ⟨_, (N _ (List.mem_cons_self ..)).1, rfl, rfl⟩
  have hd : h1.DictAt (strKind prog w) d [] 0 := ⟨_, #[], (N _ (List.mem_cons_of_mem _ hm)).1, ⟨rfl, rfl, rfl⟩, rfl, (fun e he => absurd he (by simp)), .nil, List.nodup_nil⟩
  refine wpAny_pyIter_items (s := { s with heap := h1, toks := tk1 }) hv hd ?_
  refine codeAny_forLoop_any (R := fun r s' => match r with | .ok f => Q f s' | .error e => cameBackBy (model prog w) A env E e s') (fun n s' => s' = _) (fun n s' e => ?_) 0 rfl
  subst e
  have N2 := N.push F { cls := .type "dict_itemiterator", data := .fields #[.none, .bool false, .ref d, .int 0 0, .int 0 0, .int 0 0, .none, .none] }
  have F2 := F.push { cls := .type "dict_itemiterator", data := .fields #[.none, .bool false, .ref d, .int 0 0, .int 0 0, .int 0 0, .none, .none] }
  refine wpAny_pyNext_items_end (knd := strKind prog w) (kvs := []) (d := d) (i := 0) (ep := 0) hh (Heap.get?_push_size _ rfl) ⟨_, #[], (N2 _ (List.mem_cons_of_mem _ (List.mem_cons_of_mem _ hm))).1, ⟨rfl, rfl, rfl⟩, rfl, (fun e he => absurd he (by simp)), .nil, List.nodup_nil⟩ rfl fun h' hx => ?_
  refine wpAny_execs_nil ?_
  have hne : ∀ p ∈ news, p.1 ≠ h1.objs.size := fun p hp => Nat.ne_of_lt (Heap.lt_size (N p (List.mem_cons_of_mem _ hp)).1)
  have D := N2 _ (List.mem_cons_self ..)
  exact hq h' tk1 ⟨F2.ns.extBut hx (Ne.symm D.2.1), fun b x q => hx b x (fun e => by have := D.2.2; rw [← e, q] at this; cases this) (F2.keep b x q), F2.above⟩
    fun p hp => ⟨hx _ _ (hne p hp) (N2 p (List.mem_cons_of_mem _ (List.mem_cons_of_mem _ hp))).1, (N2 p (List.mem_cons_of_mem _ (List.mem_cons_of_mem _ hp))).2⟩
end
end Mine
end

section
open PySem PySem.W PySem.Spec PySem.Calls PyProof.Rows PyProof.V
set_option Elab.async false
set_option maxRecDepth 100000
namespace Mine
section
variable {h₀ : Heap} {L I C D : Addr} {m : PySem.Str → Option Value} {s₁ : Shared} {oI oC oD : Obj} {S : List (Addr × Obj) → Prop} {rest : Value → List (Addr × Obj) → Prop} {y : Value} {h' : Heap} {tk : Nat} {e1 e2 e3 : Addr × Obj} {news' : List (Addr × Obj)}
theorem uend0 {h₀ : Heap} {L I : Addr} {it : Obj} {rest : (PySem.Str → Option Value) → List (Addr × Obj) → Prop} {s₁ : Shared} {h' : Heap} {tk : Nat} {m' : PySem.Str → Option Value} {news' : List (Addr × Obj)} (F : Fr h₀ L h' m') (N : News h₀ L h' ((I, it) :: news')) (off : ∀ p ∈ news', p.1 ≠ I) (r : rest m' news') :
    UnrEnd h₀ L s₁ I it rest { s₁ with heap := h', toks := tk } := ⟨h', tk, m', news', rfl, F, N, off, r⟩
theorem cend0 (F : Fr h₀ L h' m) (N : News h₀ L h' ((I, oI) :: (C, oC) :: (D, oD) :: news')) (off : LCg.Off3 I C D news') (hS : S news') (r : rest y news') :
    LCg.CompEnd h₀ L m s₁ I oI C oC D oD S rest y { s₁ with heap := h', toks := tk } := LCg.CompEnd.intro F N news' (fun _ h => h) off hS r
theorem cend1 (F : Fr h₀ L h' m) (N : News h₀ L h' (e1 :: (I, oI) :: (C, oC) :: (D, oD) :: news')) (off : LCg.Off3 I C D news') (hS : S news') (r : rest y news') :
    LCg.CompEnd h₀ L m s₁ I oI C oC D oD S rest y { s₁ with heap := h', toks := tk } := LCg.CompEnd.intro F N news' (fun _ h => List.mem_cons_of_mem _ h) off hS r
theorem cend2 (F : Fr h₀ L h' m) (N : News h₀ L h' (e1 :: e2 :: (I, oI) :: (C, oC) :: (D, oD) :: news')) (off : LCg.Off3 I C D news') (hS : S news') (r : rest y news') :
    LCg.CompEnd h₀ L m s₁ I oI C oC D oD S rest y { s₁ with heap := h', toks := tk } := LCg.CompEnd.intro F N news' (fun _ h => List.mem_cons_of_mem _ (List.mem_cons_of_mem _ h)) off hS r
end
end Mine
namespace Mine
open PySem PySem.W
theorem off1_mem {D : Addr} : ∀ {l : List (Addr × Obj)}, LCg.Off1 D l → ∀ p ∈ l, p.1 ≠ D
  | [], _, _, h => nomatch h
  | _ :: _, x, p, h => by
    rcases List.mem_cons.mp h with rfl | h
    · exact x.1
    · exact off1_mem x.2 p h
/-- what get_all gives back -/
noncomputable def gaV (y : PySem.Str) (ps : List (PySem.Str × Value)) : List Value := (ps.filter fun p => Txt.lower p.1 == Txt.lower y).map (·.2)
/-- the word that _law_word makes -/
noncomputable def lwF (n : Int) : PySem.Str := Txt.join (Str.ofString "") [Txt.item (Str.ofString "aAbB\"\\") ((n.fdiv (6 ^ 0)).fmod 6), Txt.item (Str.ofString "aAbB\"\\") ((n.fdiv (6 ^ 1)).fmod 6), Txt.item (Str.ofString "aAbB\"\\") ((n.fdiv (6 ^ 2)).fmod 6)]
end Mine
namespace Mine
open PySem PySem.W
noncomputable def escL (c : Nat) : List Nat := if (Builtin.Str.occurrences (Str.ofString "\"\\") ⟨#[c]⟩ 0 (Str.ofString "\"\\").length 1).isEmpty = true then [c] else [92, c]
/-- what _law_written makes -/
noncomputable def wrtL (c0 c1 c2 : Nat) (n : Int) : List Nat := if (n.fdiv 216).fmod 2 = 1 then [34] ++ (escL c0 ++ escL c1 ++ escL c2) ++ [34] else escL c0 ++ escL c1 ++ escL c2 ++ [10]
theorem q_str {Q : Value → Shared → Prop} {x y : PySem.Str} {t : Tok} {s : Shared} (e : x = y) (h : Q (.str y t) s) : Q (.str x t) s := e ▸ h
end Mine
end

section
open PySem PySem.W PySem.Spec PySem.Calls PyProof.Rows
set_option Elab.async false
set_option maxRecDepth 100000
set_option maxHeartbeats 0
namespace Mine
noncomputable abbrev fnEnvC (K : Frag) (q : PySem.Str) (f L : Addr) : Env := envOfC q (fnScope K f) L f (fnCode K f)
noncomputable def brFor (w : World) : Stmt := ((fnBody (hd01.heap_1 w.params) 266)[2]?).getD default
noncomputable def brCol (w : World) : Stmt := ((forBody (brFor w))[3]?).getD default
noncomputable def colF (ms : List Int) : Int → Int → List Int → Int × List Int
  | _, hd, [] => (hd, [])
  | col, hd, o :: r => if (ms.any fun x => x == col) || decide (o < hd) then ((colF ms (col + 1) o r).1, hd :: (colF ms (col + 1) o r).2) else ((colF ms (col + 1) hd r).1, o :: (colF ms (col + 1) hd r).2)
theorem colF_t {ms rem O' out O : List Int} {i hd o H : Int} (hb : ((ms.any fun x => x == i) || decide (o < hd)) = true) (h : colF ms i hd (o :: rem) = (H, O')) (hout : out ++ O' = O) : ∃ O'', colF ms (i + 1) o rem = (H, O'') ∧ (out ++ [hd]) ++ O'' = O := by
  rw [colF, if_pos hb] at h
  injection h with h1 h2
  exact ⟨(colF ms (i + 1) o rem).2, by rw [← h1], by rw [← hout, ← h2]; simp⟩
theorem colF_f {ms rem O' out O : List Int} {i hd o H : Int} (hb1 : (ms.any fun x => x == i) = false) (hb2 : ¬ o < hd) (h : colF ms i hd (o :: rem) = (H, O')) (hout : out ++ O' = O) : ∃ O'', colF ms (i + 1) hd rem = (H, O'') ∧ (out ++ [o]) ++ O'' = O := by
  rw [colF, if_neg (by rw [hb1]; simpa using hb2)] at h
  injection h with h1 h2
  exact ⟨(colF ms (i + 1) hd rem).2, by rw [← h1], by rw [← hout, ← h2]; simp⟩
theorem nsw {h₀ h : Heap} {L : Addr} {c l r : List (Addr × Obj)} (N : News h₀ L h (c ++ (l ++ r))) : News h₀ L h (l ++ (c ++ r)) := fun p hp => N p (by
  simp only [List.mem_append] at hp ⊢
  rcases hp with h | h | h <;> simp [h])
theorem nsw1 {h₀ h : Heap} {L : Addr} {e : Addr × Obj} {c l r : List (Addr × Obj)} (N : News h₀ L h (e :: (c ++ (l ++ r)))) : News h₀ L h (e :: (l ++ (c ++ r))) := fun p hp => N p (by
  simp only [List.mem_append, List.mem_cons] at hp ⊢
  rcases hp with h | h | h | h <;> simp [h])
theorem nswG {h₀ h : Heap} {L : Addr} {a x b q l r : List (Addr × Obj)} (N : News h₀ L h (a ++ (x ++ (b ++ (q ++ (l ++ r)))))) : News h₀ L h (b ++ (a ++ (l ++ (q ++ r)))) := fun p hp => N p (by
  simp only [List.mem_append] at hp ⊢
  rcases hp with h | h | h | h | h <;> simp [h])
theorem nswB {h₀ h : Heap} {L : Addr} {a b q l r : List (Addr × Obj)} (N : News h₀ L h (b ++ (a ++ (l ++ (q ++ r))))) : News h₀ L h (b ++ (q ++ (l ++ r))) := fun p hp => N p (by
  simp only [List.mem_append] at hp ⊢
  rcases hp with h | h | h | h <;> simp [h])
theorem news3_to {h₀ h : Heap} {L : Addr} {e1 e2 e3 : Addr × Obj} {l r : List (Addr × Obj)} (N : News h₀ L h (e1 :: e2 :: e3 :: (l ++ r))) : News h₀ L h (l ++ e1 :: e2 :: e3 :: r) := nsw (c := [e1, e2, e3]) N
theorem news3_back {h₀ h : Heap} {L : Addr} {e1 e2 e3 : Addr × Obj} {l r : List (Addr × Obj)} (N : News h₀ L h (l ++ e1 :: e2 :: e3 :: r)) : News h₀ L h (e1 :: e2 :: e3 :: (l ++ r)) := nsw (l := [e1, e2, e3]) N
end Mine
namespace Mine
open PySem PySem.W PySem.Calls PyProof.Rows
theorem n2app {h₀ h : Heap} {L : Addr} {e1 e2 : Addr × Obj} {l r own : List (Addr × Obj)} (N : News h₀ L h (e1 :: e2 :: (l ++ (r ++ own)))) : News h₀ L h ((e1 :: e2 :: (l ++ r)) ++ own) := by
  rw [List.cons_append, List.cons_append, List.append_assoc]; exact N
end Mine
namespace Mine
open PySem PySem.W PySem.Calls PyProof.Rows
noncomputable def brRest (w : World) : List Stmt := (forBody (brFor w)).drop 2
noncomputable def brBody (w : World) : List Stmt := forBody (brFor w)
theorem n4_in {h₀ h : Heap} {L : Addr} {e1 e2 e3 e4 : Addr × Obj} {l r : List (Addr × Obj)} (N : News h₀ L h (e1 :: e2 :: e3 :: e4 :: (l ++ r))) : News h₀ L h (e3 :: e4 :: (l ++ e1 :: e2 :: r)) := fun p hp => N p (by
  simp only [List.mem_cons, List.mem_append] at hp ⊢
  rcases hp with h | h | h | h | h | h <;> simp [h])
theorem n4_out {h₀ h : Heap} {L : Addr} {e1 e2 e3 e4 : Addr × Obj} {l r : List (Addr × Obj)} (N : News h₀ L h (e3 :: e4 :: (l ++ e1 :: e2 :: r))) : News h₀ L h (e1 :: e2 :: e3 :: e4 :: (l ++ r)) := fun p hp => N p (by
  simp only [List.mem_cons, List.mem_append] at hp ⊢
  rcases hp with h | h | h | h | h | h <;> simp [h])
theorem off2 {d a b : Addr} {o1 o2 : Obj} {r : List (Addr × Obj)} (h1 : @Ne Nat a d) (h2 : @Ne Nat b d) (h3 : ∀ p ∈ r, p.1 ≠ d) : ∀ p ∈ (a, o1) :: (b, o2) :: r, p.1 ≠ d := by
  intro p hp
  rcases List.mem_cons.1 hp with rfl | hp
  · exact h1
  · rcases List.mem_cons.1 hp with rfl | hp
    · exact h2
    · exact h3 p hp
end Mine
namespace Mine
open PySem PySem.W PySem.Calls PyProof.Rows
theorem news_sub {h₀ h : Heap} {L : Addr} {a b : List (Addr × Obj)} (N : News h₀ L h b) (hs : ∀ p ∈ a, p ∈ b) : News h₀ L h a := fun p hp => N p (hs p hp)
theorem n_rest {h₀ h : Heap} {L : Addr} {ml x1 rr c2 c1 h1 h2 h3 h4 h5 h6 : Addr × Obj} {l r : List (Addr × Obj)} (N : News h₀ L h (ml :: x1 :: rr :: c2 :: c1 :: h1 :: h2 :: h3 :: h4 :: h5 :: h6 :: (l ++ r))) : News h₀ L h (rr :: c2 :: c1 :: ml :: (l ++ (h1 :: h2 :: h3 :: h4 :: h5 :: h6 :: r))) := nswG (a := [ml]) (x := [x1]) (b := [rr, c2, c1]) (q := [h1, h2, h3, h4, h5, h6]) N
theorem n_restB {h₀ h : Heap} {L : Addr} {ml rr c2 c1 h1 h2 h3 h4 h5 h6 : Addr × Obj} {l r : List (Addr × Obj)} (N : News h₀ L h (rr :: c2 :: c1 :: ml :: (l ++ (h1 :: h2 :: h3 :: h4 :: h5 :: h6 :: r)))) : News h₀ L h (rr :: c2 :: c1 :: h1 :: h2 :: h3 :: h4 :: h5 :: h6 :: (l ++ r)) := nswB (a := [ml]) (b := [rr, c2, c1]) (q := [h1, h2, h3, h4, h5, h6]) N
theorem n_ga {h₀ h : Heap} {L : Addr} {rr c2 c1 h1 h2 h3 h4 h5 h6 : Addr × Obj} {l : List (Addr × Obj)} (N : News h₀ L h (rr :: c2 :: c1 :: h1 :: h2 :: h3 :: h4 :: h5 :: h6 :: l)) : News h₀ L h (h1 :: h2 :: h3 :: h4 :: h5 :: h6 :: rr :: c2 :: c1 :: l) := nsw (c := [rr, c2, c1]) (l := [h1, h2, h3, h4, h5, h6]) N
theorem n_gaB {h₀ h : Heap} {L : Addr} {e rr c2 c1 h1 h2 h3 h4 h5 h6 : Addr × Obj} {l : List (Addr × Obj)} (N : News h₀ L h (e :: h1 :: h2 :: h3 :: h4 :: h5 :: h6 :: rr :: c2 :: c1 :: l)) : News h₀ L h (e :: rr :: c2 :: c1 :: h1 :: h2 :: h3 :: h4 :: h5 :: h6 :: l) := nsw1 (c := [h1, h2, h3, h4, h5, h6]) (l := [rr, c2, c1]) N
noncomputable def meetE (n0 n1 n2 s : PySem.Str) : List Int := (if (n0 == s) = true then [0] else []) ++ (if (n1 == s) = true then [2] else []) ++ (if (n2 == s) = true then [4] else [])
noncomputable def meetO (n0 n1 n2 s : PySem.Str) : List Int := (if (Txt.lower n0 == Txt.lower (Txt.upper s)) = true then [1] else []) ++ (if (Txt.lower n1 == Txt.lower (Txt.upper s)) = true then [3] else []) ++ (if (Txt.lower n2 == Txt.lower (Txt.upper s)) = true then [5] else [])
noncomputable def rowMs (n0 n1 n2 wd : PySem.Str) (row : Int) : List Int := if row.fmod 2 = 0 then meetE n0 n1 n2 (Txt.item wd (row.fdiv 2)) else meetO n0 n1 n2 (Txt.item wd (row.fdiv 2))
end Mine
namespace Mine
open PySem PySem.W PySem.Calls PyProof.Rows
/-- the rows from i on: (what waits at the end, the rights) -/
noncomputable def rowsF (n0 n1 n2 wd : PySem.Str) : Nat → Int → List Int → List Int × List Int
  | 0, _, pv => (pv, [])
  | k + 1, row, pv => ((rowsF n0 n1 n2 wd k (row + 1) (colF (rowMs n0 n1 n2 wd row) 0 (5 - row) pv).2).1, (colF (rowMs n0 n1 n2 wd row) 0 (5 - row) pv).1 :: (rowsF n0 n1 n2 wd k (row + 1) (colF (rowMs n0 n1 n2 wd row) 0 (5 - row) pv).2).2)
noncomputable def endsF (n0 n1 n2 wd : PySem.Str) : List Int := (rowsF n0 n1 n2 wd 6 0 [6, 7, 8, 9, 10, 11]).1 ++ (rowsF n0 n1 n2 wd 6 0 [6, 7, 8, 9, 10, 11]).2.reverse
theorem colF_len {ms : List Int} : ∀ {pv : List Int} {c hd : Int}, (colF ms c hd pv).2.length = pv.length
  | [], _, _ => rfl
  | o :: r, c, hd => by
    rw [colF]; split
    · simp [colF_len]
    · simp [colF_len]
end Mine
namespace Mine
open PySem PySem.W PySem.Calls PyProof.Rows
theorem n8_to {h₀ h : Heap} {L : Addr} {e1 e2 e3 e4 e5 e6 e7 e8 : Addr × Obj} {l r : List (Addr × Obj)} (N : News h₀ L h (e1 :: e2 :: e3 :: e4 :: e5 :: e6 :: e7 :: e8 :: (l ++ r))) : News h₀ L h (l ++ (e1 :: e2 :: e3 :: e4 :: e5 :: e6 :: e7 :: e8 :: r)) := nsw (c := [e1, e2, e3, e4, e5, e6, e7, e8]) N
theorem n8_back {h₀ h : Heap} {L : Addr} {e1 e2 e3 e4 e5 e6 e7 e8 : Addr × Obj} {l r : List (Addr × Obj)} (N : News h₀ L h (l ++ (e1 :: e2 :: e3 :: e4 :: e5 :: e6 :: e7 :: e8 :: r))) : News h₀ L h (e1 :: e2 :: e3 :: e4 :: e5 :: e6 :: e7 :: e8 :: (l ++ r)) := nsw (l := [e1, e2, e3, e4, e5, e6, e7, e8]) N
theorem n8_app {h₀ h : Heap} {L : Addr} {e1 e2 e3 e4 e5 e6 e7 e8 : Addr × Obj} {l r own : List (Addr × Obj)} : News h₀ L h (e1 :: e2 :: e3 :: e4 :: e5 :: e6 :: e7 :: e8 :: (l ++ (r ++ own))) ↔ News h₀ L h ((e1 :: e2 :: e3 :: e4 :: e5 :: e6 :: e7 :: e8 :: (l ++ r)) ++ own) := by
  simp only [List.cons_append, List.append_assoc]
theorem n9_app {h₀ h : Heap} {L : Addr} {e0 e1 e2 e3 e4 e5 e6 e7 e8 : Addr × Obj} {l r own : List (Addr × Obj)} : News h₀ L h (e0 :: e1 :: e2 :: e3 :: e4 :: e5 :: e6 :: e7 :: e8 :: (l ++ (r ++ own))) ↔ News h₀ L h ((e0 :: e1 :: e2 :: e3 :: e4 :: e5 :: e6 :: e7 :: e8 :: (l ++ r)) ++ own) := by
  simp only [List.cons_append, List.append_assoc]
theorem off8 {d b1 b2 a1 a2 a3 a4 a5 a6 : Addr} {p1 p2 o1 o2 o3 o4 o5 o6 : Obj} {r : List (Addr × Obj)} (g1 : b1 ≠ d) (g2 : b2 ≠ d) (h1 : a1 ≠ d) (h2 : a2 ≠ d) (h3 : a3 ≠ d) (h4 : a4 ≠ d) (h5 : a5 ≠ d) (h6 : a6 ≠ d) (h : ∀ p ∈ r, p.1 ≠ d) : ∀ p ∈ (b1, p1) :: (b2, p2) :: (a1, o1) :: (a2, o2) :: (a3, o3) :: (a4, o4) :: (a5, o5) :: (a6, o6) :: r, p.1 ≠ d := by
  simp only [List.mem_cons, forall_eq_or_imp]; exact ⟨g1, g2, h1, h2, h3, h4, h5, h6, h⟩
end Mine
namespace Mine
open PySem PySem.W PySem.Calls PyProof.Rows
theorem lexE_lt {w : World} {Y : LexA} {d : Addr} {ln ln' : Int} {tl tl' : Tok} {pvs pvs' lvs lvs' : List Value} {pk pk' lk lk' : Nat} (h : ∀ p ∈ lexE w Y ln tl pvs pk lvs lk, p.1 < d) : ∀ p ∈ lexE w Y ln' tl' pvs' pk' lvs' lk', p.1 < d := by
  simp only [lexE, List.mem_cons, List.not_mem_nil, or_false, forall_eq_or_imp, forall_eq] at h ⊢
  exact h
noncomputable def sixI (i : Nat) : List Int := (List.range i).map fun j : Nat => (6 + (j : Int))
theorem sixI_succ (i : Nat) : sixI (i + 1) = sixI i ++ [6 + (i : Int)] := by simp [sixI, List.range_succ]
theorem sixI_len (i : Nat) : (sixI i).length = i := by simp [sixI]
end Mine
end

section
open PySem PySem.W PySem.Spec PySem.Calls PyProof.Rows
set_option Elab.async false
set_option maxRecDepth 100000
set_option maxHeartbeats 0
namespace Mine
theorem rowsF_step {n0 n1 n2 wd : PySem.Str} {k : Nat} {row : Int} {pv P R' hs R : List Int} (h : rowsF n0 n1 n2 wd (k + 1) row pv = (P, R')) (hR : hs ++ R' = R) :
    ∃ R2, rowsF n0 n1 n2 wd k (row + 1) (colF (rowMs n0 n1 n2 wd row) 0 (5 - row) pv).2 = (P, R2) ∧ (hs ++ [(colF (rowMs n0 n1 n2 wd row) 0 (5 - row) pv).1]) ++ R2 = R := by
  rw [rowsF] at h
  injection h with h1 h2
  exact ⟨_, Prod.ext h1 rfl, by rw [← hR, ← h2]; simp⟩
end Mine
namespace Mine
theorem lt6 {d a1 a2 a3 a4 a5 a6 : Addr} {o1 o2 o3 o4 o5 o6 : Obj} {r : List (Addr × Obj)} (h1 : @LT.lt Nat _ a1 d) (h2 : @LT.lt Nat _ a2 d) (h3 : @LT.lt Nat _ a3 d) (h4 : @LT.lt Nat _ a4 d) (h5 : @LT.lt Nat _ a5 d) (h6 : @LT.lt Nat _ a6 d) (h : ∀ p ∈ r, p.1 < d) : ∀ p ∈ (a1, o1) :: (a2, o2) :: (a3, o3) :: (a4, o4) :: (a5, o5) :: (a6, o6) :: r, p.1 < d := by
  simp only [List.mem_cons, forall_eq_or_imp]; exact ⟨h1, h2, h3, h4, h5, h6, h⟩
theorem fdiv2 (i : Nat) : ((i : Int)).fdiv 2 = ((i / 2 : Nat) : Int) := by
  rw [Int.fdiv_eq_ediv_of_nonneg _ (by decide)]; rfl
end Mine
namespace Mine
theorem n12_to {h₀ h : Heap} {L : Addr} {e1 e2 e3 e4 e5 e6 e7 e8 e9 e10 e11 e12 : Addr × Obj} {l r : List (Addr × Obj)} (N : News h₀ L h (e1 :: e2 :: e3 :: e4 :: e5 :: e6 :: e7 :: e8 :: e9 :: e10 :: e11 :: e12 :: (l ++ r))) : News h₀ L h (l ++ (e1 :: e2 :: e3 :: e4 :: e5 :: e6 :: e7 :: e8 :: e9 :: e10 :: e11 :: e12 :: r)) := nsw (c := [e1, e2, e3, e4, e5, e6, e7, e8, e9, e10, e11, e12]) N
theorem n12_back {h₀ h : Heap} {L : Addr} {e1 e2 e3 e4 e5 e6 e7 e8 e9 e10 e11 e12 : Addr × Obj} {l r : List (Addr × Obj)} (N : News h₀ L h (l ++ (e1 :: e2 :: e3 :: e4 :: e5 :: e6 :: e7 :: e8 :: e9 :: e10 :: e11 :: e12 :: r))) : News h₀ L h (e1 :: e2 :: e3 :: e4 :: e5 :: e6 :: e7 :: e8 :: e9 :: e10 :: e11 :: e12 :: (l ++ r)) := nsw (l := [e1, e2, e3, e4, e5, e6, e7, e8, e9, e10, e11, e12]) N
theorem off4 {d a1 a2 a3 a4 : Addr} {o1 o2 o3 o4 : Obj} {r : List (Addr × Obj)} (h1 : a1 ≠ d) (h2 : a2 ≠ d) (h3 : a3 ≠ d) (h4 : a4 ≠ d) (h : ∀ p ∈ r, p.1 ≠ d) : ∀ p ∈ (a1, o1) :: (a2, o2) :: (a3, o3) :: (a4, o4) :: r, p.1 ≠ d := by
  simp only [List.mem_cons, forall_eq_or_imp]; exact ⟨h1, h2, h3, h4, h⟩
end Mine
namespace Mine
theorem len6 {pv : List Int} (h : pv.length = 6) : ∃ z1 z2 z3 z4 z5 z6, pv = [z1, z2, z3, z4, z5, z6] := by
  match pv, h with
  | [a, b, c, d, e, f], _ => exact ⟨a, b, c, d, e, f, rfl⟩
end Mine
namespace Mine
theorem ints6 {vs : List Value} {pv : List Int} (hi : IntsAre vs pv) (h : pv.length = 6) : ∃ z1 z2 z3 z4 z5 z6 y1 y2 y3 y4 y5 y6, vs = [Value.int z1 y1, Value.int z2 y2, Value.int z3 y3, Value.int z4 y4, Value.int z5 y5, Value.int z6 y6] ∧ pv = [z1, z2, z3, z4, z5, z6] := by
  obtain ⟨z1, z2, z3, z4, z5, z6, rfl⟩ := len6 h
  obtain ⟨y1, v1, e1, h1⟩ := IntsAre.cons_inv hi
  obtain ⟨y2, v2, e2, h2⟩ := IntsAre.cons_inv h1
  obtain ⟨y3, v3, e3, h3⟩ := IntsAre.cons_inv h2
  obtain ⟨y4, v4, e4, h4⟩ := IntsAre.cons_inv h3
  obtain ⟨y5, v5, e5, h5⟩ := IntsAre.cons_inv h4
  obtain ⟨y6, v6, e6, h6⟩ := IntsAre.cons_inv h5
  have e7 := h6.nil_inv
  exact ⟨z1, z2, z3, z4, z5, z6, y1, y2, y3, y4, y5, y6, by rw [e1, e2, e3, e4, e5, e6, e7], rfl⟩
end Mine
namespace Mine
theorem ne_of_obj {h₀ h : Heap} {L a b : Addr} {A B : Obj} {news : List (Addr × Obj)} (N : News h₀ L h news) (h1 : (a, A) ∈ news) (h2 : (b, B) ∈ news) (hne : A ≠ B) : a ≠ b := by
  rintro rfl
  have e := (N _ h1).1
  rw [(N _ h2).1] at e
  exact hne (Option.some.inj e).symm
theorem n_end {h₀ h : Heap} {L : Addr} {e1 e2 e3 e4 e5 e6 : Addr × Obj} {r : List (Addr × Obj)} (N : News h₀ L h (e1 :: e2 :: e3 :: e4 :: e5 :: e6 :: r)) : News h₀ L h (e1 :: r) := news_sub N (fun p hp => by
  simp only [List.mem_cons] at hp ⊢
  rcases hp with h | h <;> simp [h])
theorem ends_lf {lvs : List Value} {xs : List PySem.Str} (hS : StrsAre lvs xs) {z : Int} {y : Tok} {r : List Value} {k k' : Nat} : listOf (Value.int z y :: r).toArray k ≠ listOf lvs.toArray k' := by
  intro e
  injection e with _ _ e _
  injection e with e _
  have e2 : Value.int z y :: r = lvs := by simpa using congrArg Array.toList e
  subst e2
  cases hS
end Mine
end

section
open PySem PySem.W PySem.Spec PySem.Calls PyProof.Rows
set_option Elab.async false
set_option maxRecDepth 100000
set_option maxHeartbeats 0
namespace Mine
theorem pick_aux {vs : List Value} {ns : List Int} (hi : IntsAre vs ns) : ∀ idx : List Nat, ∃ ms, IntsAre (idx.filterMap (vs.toArray[·]?)) ms
  | [] => ⟨[], .nil⟩
  | i :: r => by
    obtain ⟨ms, hm⟩ := pick_aux hi r
    cases e : vs.toArray[i]? with
    | none => exact ⟨ms, by rw [List.filterMap_cons]; simp only [e]; exact hm⟩
    | some v =>
      obtain ⟨n, t, rfl, _⟩ := hi.at i v (by simpa using e)
      exact ⟨n :: ms, by rw [List.filterMap_cons]; simp only [e]; exact .cons _ _ hm⟩
theorem pick_ints {vs : List Value} {ns : List Int} (hi : IntsAre vs ns) (lo h st : Option Int) : ∃ ms, IntsAre (slicePick vs.toArray lo h st).toList ms := by
  unfold slicePick
  exact pick_aux hi _
end Mine
end

section
open PySem PySem.W
set_option Elab.async false
set_option maxRecDepth 100000
namespace Mine
noncomputable def six : List Nat := [97, 65, 98, 66, 34, 92]
theorem six_cases {P : Nat → Prop} (h : P 97 ∧ P 65 ∧ P 98 ∧ P 66 ∧ P 34 ∧ P 92) {c : Nat} (hc : c ∈ six) : P c := by
  obtain ⟨h1, h2, h3, h4, h5, h6⟩ := h
  simp only [six, List.mem_cons, List.not_mem_nil, or_false] at hc
  rcases hc with rfl | rfl | rfl | rfl | rfl | rfl <;> assumption
theorem esc_vals : escL 97 = [97] ∧ escL 65 = [65] ∧ escL 98 = [98] ∧ escL 66 = [66] ∧ escL 34 = [92, 34] ∧ escL 92 = [92, 92] := by
  refine ⟨?_, ?_, ?_, ?_, ?_, ?_⟩ <;> decide +kernel
theorem lexU_one {c : Nat} (hc : c ∈ six) (n : Nat) (tok l : List Nat) : lexU (n + 1) tok (escL c ++ l) = lexU n (tok ++ [c]) l := by
  obtain ⟨e1, e2, e3, e4, e5, e6⟩ := esc_vals
  refine six_cases (P := fun c => lexU (n + 1) tok (escL c ++ l) = lexU n (tok ++ [c]) l) ?_ hc
  refine ⟨?_, ?_, ?_, ?_, ?_, ?_⟩ <;> simp [e1, e2, e3, e4, e5, e6, lexU, ws]
theorem lexQ_one {c : Nat} (hc : c ∈ six) (n : Nat) (tok l : List Nat) : lexQ (n + 1) tok (escL c ++ l) = lexQ n (tok ++ [c]) l := by
  obtain ⟨e1, e2, e3, e4, e5, e6⟩ := esc_vals
  refine six_cases (P := fun c => lexQ (n + 1) tok (escL c ++ l) = lexQ n (tok ++ [c]) l) ?_ hc
  refine ⟨?_, ?_, ?_, ?_, ?_, ?_⟩ <;> simp [e1, e2, e3, e4, e5, e6, lexQ]
theorem lexTk_one {c : Nat} (hc : c ∈ six) (l : List Nat) (hq : escL c ++ l ≠ []) : lexTk (escL c ++ l) = lexU (l.length + 1) [c] l := by
  obtain ⟨e1, e2, e3, e4, e5, e6⟩ := esc_vals
  clear hq
  refine six_cases (P := fun c => lexTk (escL c ++ l) = lexU (l.length + 1) [c] l) ?_ hc
  refine ⟨?_, ?_, ?_, ?_, ?_, ?_⟩ <;> simp [e1, e2, e3, e4, e5, e6, lexTk, ws]
theorem escL_pos {c : Nat} (hc : c ∈ six) : 1 ≤ (escL c).length ∧ (escL c).length ≤ 2 := by
  refine six_cases (P := fun c => 1 ≤ (escL c).length ∧ (escL c).length ≤ 2) ?_ hc
  obtain ⟨e1, e2, e3, e4, e5, e6⟩ := esc_vals
  simp [e1, e2, e3, e4, e5, e6]
theorem lex_word {c0 c1 c2 : Nat} (h0 : c0 ∈ six) (h1 : c1 ∈ six) (h2 : c2 ∈ six) (n : Int) (rest : List Nat) : lexTk (wrtL c0 c1 c2 n ++ rest) = ([c0, c1, c2], rest) := by
  have p0 := escL_pos h0
  have p1 := escL_pos h1
  have p2 := escL_pos h2
  unfold wrtL
  split
  · rw [show [34] ++ (escL c0 ++ escL c1 ++ escL c2) ++ [34] ++ rest = 34 :: (escL c0 ++ (escL c1 ++ (escL c2 ++ (34 :: rest)))) by simp]
    have e : lexTk (34 :: (escL c0 ++ (escL c1 ++ (escL c2 ++ (34 :: rest))))) = lexQ ((escL c0 ++ (escL c1 ++ (escL c2 ++ (34 :: rest)))).length + 1) [] (escL c0 ++ (escL c1 ++ (escL c2 ++ (34 :: rest)))) := by
      simp [lexTk, ws]
    rw [e]
    obtain ⟨m, hm⟩ : ∃ m, (escL c0 ++ (escL c1 ++ (escL c2 ++ (34 :: rest)))).length + 1 = m + 1 + 1 + 1 + 1 := ⟨(escL c0).length + (escL c1).length + (escL c2).length + rest.length + 2 - 4, by simp only [List.length_append, List.length_cons]; omega⟩
    rw [hm, lexQ_one h0, lexQ_one h1, lexQ_one h2]
    simp [lexQ]
  · rw [show escL c0 ++ escL c1 ++ escL c2 ++ [10] ++ rest = escL c0 ++ (escL c1 ++ (escL c2 ++ (10 :: rest))) by simp]
    rw [lexTk_one h0 _ (by simp)]
    obtain ⟨m, hm⟩ : ∃ m, (escL c1 ++ (escL c2 ++ (10 :: rest))).length + 1 = m + 1 + 1 + 1 := ⟨(escL c1).length + (escL c2).length + rest.length + 2 - 3, by simp only [List.length_append, List.length_cons]; omega⟩
    rw [hm, lexU_one h1, lexU_one h2]
    simp [lexU, ws]
theorem lex_end : lexTk [101, 110, 100] = ([101, 110, 100], []) := by decide +kernel
end Mine
namespace Mine
theorem item6 (k : Int) (h0 : 0 ≤ k) (h1 : k < 6) : ∃ c ∈ six, Txt.item (Str.ofString "aAbB\"\\") k = ⟨#[c]⟩ := by
  have : k = 0 ∨ k = 1 ∨ k = 2 ∨ k = 3 ∨ k = 4 ∨ k = 5 := by omega
  rcases this with rfl | rfl | rfl | rfl | rfl | rfl
  · exact ⟨97, by decide, by decide +kernel⟩
  · exact ⟨65, by decide, by decide +kernel⟩
  · exact ⟨98, by decide, by decide +kernel⟩
  · exact ⟨66, by decide, by decide +kernel⟩
  · exact ⟨34, by decide, by decide +kernel⟩
  · exact ⟨92, by decide, by decide +kernel⟩
theorem lwF_six (n : Int) : ∃ c0 c1 c2, c0 ∈ six ∧ c1 ∈ six ∧ c2 ∈ six ∧ lwF n = ⟨#[c0, c1, c2]⟩ := by
  have q : ∀ a : Int, 0 ≤ a.fmod 6 ∧ a.fmod 6 < 6 := fun a => ⟨Int.fmod_nonneg_of_pos a (by decide), Int.fmod_lt_of_pos a (by decide)⟩
  obtain ⟨c0, m0, e0⟩ := item6 _ (q (n.fdiv (6 ^ 0))).1 (q _).2
  obtain ⟨c1, m1, e1⟩ := item6 _ (q (n.fdiv (6 ^ 1))).1 (q _).2
  obtain ⟨c2, m2, e2⟩ := item6 _ (q (n.fdiv (6 ^ 2))).1 (q _).2
  refine ⟨c0, c1, c2, m0, m1, m2, ?_⟩
  unfold lwF
  rw [e0, e1, e2]
  simp only [Txt.join]
  unfold Builtin.Str.glued
  rfl
end Mine
end

section
open PySem PySem.W PySem.Spec PySem.Calls PyProof.Rows
set_option Elab.async false
set_option maxRecDepth 100000
set_option maxHeartbeats 0
namespace Mine
noncomputable abbrev lawEnv (w : World) (fa : Addr) (cd : Value) (L : Addr) : Env := envOfC (Str.ofString "law") (fnScope (hd01.heap_1 w.params) 278) L fa cd
noncomputable def lawRest (w : World) : List Stmt := (fnBody (hd01.heap_1 w.params) 278).drop 2
theorem S_app2 (a b : List Nat) : S a ++ S b = S (a ++ b) := by
  show (⟨a.toArray ++ b.toArray⟩ : PySem.Str) = ⟨(a ++ b).toArray⟩
  simp
theorem text_eq (a b : List Nat) : S a ++ S b ++ Str.ofString "end" = S (a ++ b ++ [101, 110, 100]) := by
  rw [show Str.ofString "end" = S [101, 110, 100] by decide +kernel, S_app2, S_app2]
end Mine
namespace Mine
theorem wrt_len {c0 c1 c2 : Nat} (h0 : c0 ∈ six) (h1 : c1 ∈ six) (h2 : c2 ∈ six) (n : Int) : (wrtL c0 c1 c2 n).length ≤ 8 := by
  have p0 := escL_pos h0
  have p1 := escL_pos h1
  have p2 := escL_pos h2
  unfold wrtL
  split <;> simp only [List.length_append, List.length_cons, List.length_nil] <;> omega
theorem lnok0 {l : List Nat} (h : l.length ≤ 100) : LnOk (1 + nlc l) 1 l := ⟨by decide, by omega, rfl⟩
end Mine
namespace Mine
theorem call_str {M : Model} {A : Around} {f : Value} {x y : PySem.Str} {t : Tok} {Q E : Value → Shared → Prop} {s : Shared} (e : x = y) (h : wpAny M A (call f [Value.str y t]) Q E s) : wpAny M A (call f [Value.str x t]) Q E s := e ▸ h
end Mine
namespace Mine
theorem six_strOk {a b c : Nat} (ha : a ∈ six) (hb : b ∈ six) (hc : c ∈ six) : PyData.strOk ⟨#[a, b, c]⟩ = true := by
  have h : ∀ a ∈ six, ∀ b ∈ six, ∀ c ∈ six, PyData.strOk ⟨#[a, b, c]⟩ = true := by decide +kernel
  exact h a ha b hb c hc
theorem shaped2 {x y : PySem.Str} (hx : PyData.strOk x = true) (hy : PyData.strOk y = true) : SeqAt.shaped (.list [.str x, .str y]) = true := by
  unfold SeqAt.shaped
  simp [PyData.canLay0, PyData.canLayAll0, hx, hy, PyData.depth, PyData.depthAll]
theorem ne_same2 {prog : Program} {w : World} {A : Around} {s : Shared} {h₀ : Heap} {L a b : Addr} {news : List (Addr × Obj)} {x y : PySem.Str} {t1 t2 t3 t4 : Tok} {k1 k2 : Nat} {Q : Value → Shared → Prop} {E : Value → Shared → Prop} (N : News h₀ L s.heap news)
    (ha : (a, listOf #[.str x t1, .str y t2] k1) ∈ news) (hb : (b, listOf #[.str x t3, .str y t4] k2) ∈ news) (hx : PyData.strOk x = true) (hy : PyData.strOk y = true) (hu : A.units + 64 < cLine) (h : Q (.bool false) s) : wpAny (model prog w) A (compareOp .NotEq (.ref a) (.ref b)) Q E s := by
  refine ne_dataH (da := .list [.str x, .str y]) (db := .list [.str x, .str y]) (Reads.list (N _ ha).1 rfl rfl (.cons (.str _ _) (.cons (.str _ _) .nil))) (Reads.list (N _ hb).1 rfl rfl (.cons (.str _ _) (.cons (.str _ _) .nil))) (shaped2 hx hy) (shaped2 hx hy) hu ?_
  have e : PyData.eqv (.list [.str x, .str y]) (.list [.str x, .str y]) = true := by simp [PyData.eqv, PyData.eqvAll]
  rw [e]
  exact h
end Mine
namespace Mine
open PySem PySem.W
noncomputable def lawB (w : World) : List Stmt := (fnBody (hd01.heap_1 w.params) 278).drop 8
noncomputable def lawC (w : World) : List Stmt := (fnBody (hd01.heap_1 w.params) 278).drop 9
noncomputable def lawD (w : World) : List Stmt := (fnBody (hd01.heap_1 w.params) 278).drop 11
end Mine
end

section
open PySem PySem.W PySem.Spec PySem.Calls PyProof.Rows PyProof.V PyProof.Rows.LCg
set_option Elab.async false
set_option maxRecDepth 100000
set_option maxHeartbeats 2000000
namespace Mine
/-- the end of a turn's part that leaves the ledger as it lay -/
noncomputable def PEnd (h₀ : Heap) (L : Addr) (m : SMap) (s : Shared) (all : List (Addr × Obj)) (k : Value → Prop) (y : Value) (s₂ : Shared) : Prop :=
  ∃ h' tk', s₂ = { s with heap := h', toks := tk' } ∧ Fr h₀ L h' m ∧ News h₀ L h' all ∧ k y
/-- the turns over pairs that are left, with a test -/
noncomputable def PT (prog : Program) (w : World) (A : Around) (h₀ : Heap) (L : Addr) (m : SMap) (env : Env) (ct elt : Expr) (x x₂ : PySem.Str) (scope : Scope) (cl : List (PySem.Str × Addr)) (s : Shared) (news : List (Addr × Obj)) (Fin : List Value → Prop) : List Value → List Value → Prop
  | [], ys => Fin ys
  | v :: r, ys => ∃ (t : Addr) (k : Nat) (v₁ v₂ : Value), v = .ref t ∧ (t, { cls := .type "tuple", data := .seq #[v₁, v₂] k }) ∈ news ∧
      ∀ I oI C oC D m₂ h tk (E' : Value → Shared → Prop), NsObj oC m₂ → m₂ x = some v₁ → m₂ x₂ = some v₂ → Fr h₀ L h m → News h₀ L h ((I, oI) :: (C, oC) :: (D, lst ys) :: news) →
      wpAny (model prog w) A (isTrue ct (compEnvC scope cl C env) (eval ct (compEnvC scope cl C env))) (fun ok s' => if ok = true then
        wpAny (model prog w) A (eval elt (compEnvC scope cl C env)) (PEnd h₀ L m { s with heap := h, toks := tk } ((I, oI) :: (C, oC) :: (D, lst ys) :: news) (fun y => PT prog w A h₀ L m env ct elt x x₂ scope cl s news Fin r (ys ++ [y]))) E' s'
        else PEnd h₀ L m { s with heap := h, toks := tk } ((I, oI) :: (C, oC) :: (D, lst ys) :: news) (fun _ => PT prog w A h₀ L m env ct elt x x₂ scope cl s news Fin r ys) .none s') E' { s with heap := h, toks := tk }
noncomputable def SrcPT (prog : Program) (w : World) (A : Around) (h₀ : Heap) (L : Addr) (m : SMap) (env : Env) (ct elt : Expr) (x x₂ : PySem.Str) (scope : Scope) (cl : List (PySem.Str × Addr)) (s : Shared) (Fin : List (Addr × Obj) → List Value → Prop) (xv : Value) (s₁ : Shared) : Prop :=
  ∃ (ax : Addr) (its : List Value) (k : Nat) (news : List (Addr × Obj)) (h1 : Heap) (tk1 : Nat), xv = .ref ax ∧ s₁ = { s with heap := h1, toks := tk1 } ∧ Fr h₀ L h1 m ∧ News h₀ L h1 news ∧ (ax, listOf its.toArray k) ∈ news ∧ its.length ≤ 1000 ∧
    PT prog w A h₀ L m env ct elt x x₂ scope cl s news (Fin news) its []
section
variable {prog : Program} {w : World} {A : Around} {E : Value → Shared → Prop} {s : Shared} {h₀ : Heap} {L : Addr} {m : SMap} {env : Env}
theorem PT_core {elt iter ct : Expr} {x x₂ : PySem.Str} {px px₂ tp : Pos} {tk} {scope : Scope} {cl : List (PySem.Str × Addr)} {pos : Pos} {RR : Value → Addr → Result → Shared → Prop} {Fin : List Value → Prop} {ax : Addr} {its : List Value} {k tk1 : Nat} {news : List (Addr × Obj)} {h1 : Heap} (hh : A.handled = none)
    (hcell : ∀ y ∈ scope.names, y.2 ≠ .cell) (hkind : scope.kind = .function)
    (hx : scope.names.lookup x = some .local) (hx₂ : scope.names.lookup x₂ = some .local) (hxx : x ≠ x₂)
    (F : Fr h₀ L h1 m) (N : News h₀ L h1 news) (hm : (ax, listOf its.toArray k) ∈ news) (hz : its.length ≤ 1000) (R : PT prog w A h₀ L m env ct elt x x₂ scope cl s news Fin its [])
    (hRR : ∀ (D C : Addr) (h : Heap) (tk : Nat) (m' : SMap) (ys : List Value), Fr h₀ L h m → News h₀ L h ((D, lst ys) :: news) → (∀ p ∈ news, p.1 < D) → h.Ns C m' → h₀.get? C = none → C ≠ L → C ≠ D → (∀ p ∈ news, p.1 ≠ C) → Fin ys → RR (.ref D) C (.ok .next) { s with heap := h, toks := tk }) :
    wpAny (model prog w) A (pyIter (.ref ax)) (fun it s₂ => wpAny (model prog w) A (newList []) (fun acc s₃ => wpAny (model prog w) A (newFunctionEnv scope env.globals cl [] env.qual none .none (some env)) (fun cenv s₄ =>
      codeAny (model prog w) A (.compStart (.ListComp elt [⟨.Tuple [.Name x px, .Name x₂ px₂] tk tp, iter, [ct], 0⟩] scope pos) 0 it acc { cenv with scope := relabel scope env }) (RR acc cenv.locals) s₄) E s₃) E s₂) E { s with heap := h1, toks := tk1 } := by
  have hl : h1.IsList ax its.toArray := ⟨_, (N _ hm).1, rfl, k, rfl⟩
  have hax : ax < h1.objs.size := Heap.lt_size (N _ hm).1
  refine wpAny_pyIter_list (s := { s with heap := h1, toks := tk1 }) hl ?_
  generalize hI : h1.objs.size = I at hax
  have low : ∀ p ∈ news, p.1 < I := fun p hp => hI ▸ Heap.lt_size (N p hp).1
  have N1 := N.push F { cls := .type "list_iterator", data := .fields #[.ref ax, .int 0 0] }
  have F1 := F.push { cls := .type "list_iterator", data := .fields #[.ref ax, .int 0 0] }
  have z1 : (h1.push { cls := .type "list_iterator", data := .fields #[.ref ax, .int 0 0] }).objs.size = I + 1 := by rw [Heap.size_push, hI]
  dsimp only
  generalize hh1 : h1.push { cls := .type "list_iterator", data := .fields #[.ref ax, .int 0 0] } = g1 at N1 F1 z1
  rw [hI] at N1
  refine wpAny_newObj_type (wpAny_newFunctionEnv hcell (by intro y hy; simp at hy) (fun h₂ hns hsb => ?_) hkind)
  dsimp only at hns hsb ⊢
  have N2 := N1.push F1 { cls := .type "list", dict := none, data := .seq ([] : List Value).toArray }
  have F2 := F1.push { cls := .type "list", dict := none, data := .seq ([] : List Value).toArray }
  have z2 : (g1.push { cls := .type "list", dict := none, data := .seq ([] : List Value).toArray }).objs.size = I + 1 + 1 := by rw [Heap.size_push, z1]
  generalize hg2 : g1.push { cls := .type "list", dict := none, data := .seq ([] : List Value).toArray } = g2 at hns hsb N2 F2 z2 ⊢
  rw [z1] at N2 ⊢
  rw [z2] at hns hsb ⊢
  have F3 : Fr h₀ L h₂ m := by
    have hL : L ≠ I + 1 + 1 := fun e => by have := F2.ns.lt; rw [e, z2] at this; exact Nat.lt_irrefl _ this
    refine ((F2.push _).change hsb (Ne.symm hL) ?_)
    cases e : h₀.get? (I + 1 + 1) with
    | none => rfl
    | some o' => have := Heap.lt_size (F2.keep _ _ e); rw [z2] at this; exact absurd this (Nat.lt_irrefl _)
  obtain ⟨oC, eC, nC⟩ := ns_obj hns
  have C0 : h₀.get? (I + 1 + 1) = none := by
    cases e : h₀.get? (I + 1 + 1) with
    | none => rfl
    | some o' => have := Heap.lt_size (F2.keep _ _ e); rw [z2] at this; exact absurd this (Nat.lt_irrefl _)
  have CL : I + 1 + 1 ≠ L := fun e => by have := F2.ns.lt; rw [← e, z2] at this; exact Nat.lt_irrefl _ this
  have N2b := N2.push F2 { cls := .type (if (some env).isSome = true then "dict" else "frame"), data := Data.dict #[] }
  have low3 : ∀ p ∈ news, p.1 ≠ I ∧ p.1 ≠ I + 1 ∧ p.1 ≠ I + 1 + 1 := fun p hp => by
    have : @LT.lt Nat _ p.1 I := low p hp
    exact ⟨Nat.ne_of_lt this, Nat.ne_of_lt (Nat.lt_succ_of_lt this), Nat.ne_of_lt (Nat.lt_succ_of_lt (Nat.lt_succ_of_lt this))⟩
  have N3 : News h₀ L h₂ ((I, { cls := Value.type "list_iterator", data := Data.fields #[Value.ref ax, Value.int 0 0] }) :: (I + 1 + 1, oC) :: (I + 1, lst []) :: news) := by
    have up : ∀ p ∈ (I + 1, lst []) :: (I, ({ cls := Value.type "list_iterator", data := Data.fields #[Value.ref ax, Value.int 0 0] } : Obj)) :: news, p.1 ≠ I + 1 + 1 → h₂.get? p.1 = some p.2 ∧ p.1 ≠ L ∧ h₀.get? p.1 = none := fun p hp hn =>
      ⟨hsb.extBut _ _ hn (N2b p (List.mem_cons_of_mem _ hp)).1, (N2b p (List.mem_cons_of_mem _ hp)).2⟩
    intro p hp
    rcases List.mem_cons.1 hp with rfl | hp
    · exact up _ (List.mem_cons_of_mem _ (List.mem_cons_self ..)) (by show I ≠ I + 1 + 1; omega)
    rcases List.mem_cons.1 hp with rfl | hp
    · exact ⟨eC, CL, C0⟩
    rcases List.mem_cons.1 hp with rfl | hp
    · exact up _ (List.mem_cons_self ..) (by show I + 1 ≠ I + 1 + 1; omega)
    · exact up _ (List.mem_cons_of_mem _ (List.mem_cons_of_mem _ hp)) (low3 p hp).2.2
  have W := Walks.list (prog := prog) (w := w) hh I ax (Nat.ne_of_lt hax) its.toArray
  have loop : codeAny (model prog w) A (.compLoop (.ListComp elt [⟨.Tuple [.Name x px, .Name x₂ px₂] tk tp, iter, [ct], 0⟩] scope pos) 0 (.ref I) (.ref (I + 1)) (compEnvC scope cl (I + 1 + 1) env))
      (RR (Value.ref (I + 1)) (I + 1 + 1)) { s with heap := h₂, toks := tk1 + ([] : List (PySem.Str × Value)).length } := by
    refine kct_loop (fun n s' => ∃ (h' : Heap) (tk' i : Nat) (ys r : List Value) (oI oC : Obj) (m' : SMap), s' = { s with heap := h', toks := tk' } ∧ r.length = n ∧ its.drop i = r ∧ ys.length ≤ i ∧ i ≤ its.length ∧ Fr h₀ L h' m ∧
      News h₀ L h' ((I, oI) :: (I + 1 + 1, oC) :: (I + 1, lst ys) :: news) ∧ h'.IsListIter I ax i ∧ NsObj oC m' ∧
      PT prog w A h₀ L m env ct elt x x₂ scope cl s news Fin r ys) ?_ its.length
      ⟨h₂, _, 0, [], its, _, oC, _, rfl, rfl, rfl, Nat.le_refl _, Nat.zero_le _, F3, N3, ⟨_, (N3 _ (List.mem_cons_self ..)).1, rfl, rfl⟩, nC, R⟩
    rintro n s' ⟨h', tk', i, ys, r, oI, oC, m', rfl, rfl, hr, hy, hi, F, N, hit, nC, R⟩
    have sl : h'.IsList ax its.toArray := ⟨_, (N _ (List.mem_cons_of_mem _ (List.mem_cons_of_mem _ (List.mem_cons_of_mem _ hm)))).1, rfl, k, rfl⟩
    have I0 := (N _ (List.mem_cons_self ..)).2
    cases r with
    | nil =>
      have e : i = its.length := Nat.le_antisymm hi (List.drop_eq_nil_iff.1 hr)
      subst e
      refine W.done _ _ _ (by simpa using ⟨hit, sl⟩) fun h3 tk3 up => ?_
      have up' : ∀ b o, b ≠ I → h'.get? b = some o → h3.get? b = some o := fun b o hb e => up b o (by simpa using hb) e
      have F4 : Fr h₀ L h3 m := fr_but F up I0.1.symm I0.2
      have N4 : ∀ p ∈ (I + 1 + 1, oC) :: (I + 1, lst ys) :: news, h3.get? p.1 = some p.2 ∧ p.1 ≠ L ∧ h₀.get? p.1 = none := fun p hp => by
        refine ⟨up' _ _ ?_ (N p (List.mem_cons_of_mem _ hp)).1, (N p (List.mem_cons_of_mem _ hp)).2⟩
        rcases List.mem_cons.1 hp with rfl | hp
        · show I + 1 + 1 ≠ I; omega
        rcases List.mem_cons.1 hp with rfl | hp
        · show I + 1 ≠ I; omega
        · exact (low3 p hp).1
      refine hRR (I + 1) (I + 1 + 1) h3 tk3 m' ys F4 (fun p hp => N4 p (List.mem_cons_of_mem _ hp)) (fun p hp => Nat.lt_succ_of_lt (low p hp)) (nC.ns (N4 _ (List.mem_cons_self ..)).1) C0 CL (by show I + 1 + 1 ≠ I + 1; omega) (fun p hp => (low3 p hp).2.2) R
    | cons v r =>
      have hlt : i < its.length := Nat.lt_of_not_le fun hc => by rw [List.drop_eq_nil_of_le hc] at hr; cases hr
      refine W.item i _ _ _ (by simpa using hlt) ⟨hit, sl⟩ fun v' h3 tk3 hv hst up => ?_
      have up' : ∀ b o, b ≠ I → h'.get? b = some o → h3.get? b = some o := fun b o hb e => up b o (by simpa using hb) e
      have hv2 : its[i]? = some v := by
        have := congrArg List.head? hr
        simpa [List.head?_drop] using this
      obtain rfl : v' = v := by
        have h5 : its[i]? = some v' := by simpa using hv
        rw [h5] at hv2; exact Option.some.inj hv2
      have hr2 : its.drop (i + 1) = r := by rw [← List.tail_drop, hr]; rfl
      obtain ⟨t, kt, v₁, v₂, rfl, hmt, T⟩ := R
      have N4 : ∀ p ∈ (I + 1 + 1, oC) :: (I + 1, lst ys) :: news, h3.get? p.1 = some p.2 ∧ p.1 ≠ L ∧ h₀.get? p.1 = none := fun p hp => by
        refine ⟨up' _ _ ?_ (N p (List.mem_cons_of_mem _ hp)).1, (N p (List.mem_cons_of_mem _ hp)).2⟩
        rcases List.mem_cons.1 hp with rfl | hp
        · show I + 1 + 1 ≠ I; omega
        rcases List.mem_cons.1 hp with rfl | hp
        · show I + 1 ≠ I; omega
        · exact (low3 p hp).1
      have F4 : Fr h₀ L h3 m := fr_but F up I0.1.symm I0.2
      have ht : IsTup h3 t #[v₁, v₂] := ⟨_, (N4 _ (List.mem_cons_of_mem _ (List.mem_cons_of_mem _ hmt))).1, rfl, kt, rfl⟩
      refine wpAny_letOwnedTupleGo_listiter hst.1 ?_
      refine assign_Tuple_tuple hh ht rfl rfl fun h5 he => ?_
      have he' : ∀ b o, h3.get? b = some o → h5.get? b = some o := fun b o e => he b o (Nat.ne_of_lt (Heap.lt_size e)) e
      refine assignInOrder_cons (wpAny_assign_Name (wpAny_storeName_local (lookup_relabel_local hx) ((nC.ns (N4 _ (List.mem_cons_self ..)).1).at' fun o e => he' _ o e) (fun h6 hn6 hs6 => ?_) (by simp [compEnvC, relabel, hkind])))
      refine assignInOrder_cons (wpAny_assign_Name (wpAny_storeName_local (lookup_relabel_local hx₂) hn6 (fun h7 hn7 hs7 => ?_) (by simp [compEnvC, relabel, hkind])))
      refine assignInOrder_nil ?_
      obtain ⟨oC7, eC7, nC7⟩ := ns_obj hn7
      have up7 : ∀ b o, b ≠ I + 1 + 1 → h3.get? b = some o → h7.get? b = some o := fun b o hb e => hs7.extBut b o hb (hs6.extBut b o hb (he' b o e))
      have F7 : Fr h₀ L h7 m := ((F4.keeps he').change hs6 CL C0).change hs7 CL C0
      obtain ⟨oI3, eI3, cI3, dI3⟩ := hst.1
      have N7 : News h₀ L h7 ((I, oI3) :: (I + 1 + 1, oC7) :: (I + 1, lst ys) :: news) := fun p hp => by
        rcases List.mem_cons.1 hp with rfl | hp
        · exact ⟨up7 _ _ (by show I ≠ I + 1 + 1; omega) eI3, I0⟩
        rcases List.mem_cons.1 hp with rfl | hp
        · exact ⟨eC7, CL, C0⟩
        · refine ⟨up7 _ _ ?_ (N4 p (List.mem_cons_of_mem _ hp)).1, (N4 p (List.mem_cons_of_mem _ hp)).2⟩
          rcases List.mem_cons.1 hp with rfl | hp
          · show I + 1 ≠ I + 1 + 1; omega
          · exact (low3 p hp).2.2
      have nxt : ∀ (h8 : Heap) (tk8 : Nat) (ys' : List Value), ys'.length ≤ i + 1 → Fr h₀ L h8 m → News h₀ L h8 ((I, oI3) :: (I + 1 + 1, oC7) :: (I + 1, lst ys') :: news) →
          PT prog w A h₀ L m env ct elt x x₂ scope cl s news Fin r ys' → ∃ n, n < (Value.ref t :: r).length ∧
          ∃ (h' : Heap) (tk' i : Nat) (ys r : List Value) (oI oC : Obj) (m' : SMap), ({ s with heap := h8, toks := tk8 } : Shared) = { s with heap := h', toks := tk' } ∧ r.length = n ∧ its.drop i = r ∧ ys.length ≤ i ∧ i ≤ its.length ∧ Fr h₀ L h' m ∧
            News h₀ L h' ((I, oI) :: (I + 1 + 1, oC) :: (I + 1, lst ys) :: news) ∧ h'.IsListIter I ax i ∧ NsObj oC m' ∧
            PT prog w A h₀ L m env ct elt x x₂ scope cl s news Fin r ys :=
        fun h8 tk8 ys' hl8 F8 N8 R8 => ⟨r.length, Nat.lt_succ_self _, h8, tk8, i + 1, ys', r, oI3, oC7, _, rfl, rfl, hr2, hl8, hlt, F8, N8, ⟨oI3, (N8 _ (List.mem_cons_self ..)).1, cI3, dI3⟩, nC7, R8⟩
      refine wpAny_mono (T I oI3 (I + 1 + 1) oC7 (I + 1) _ h7 _ _ nC7 (by simp [hxx]) (by simp) F7 N7) (fun ok s3 h3' => ?_) fun _ _ e => e
      cases ok with
      | false =>
        obtain ⟨h8, tk8, rfl, F8, N8, R8⟩ := h3'
        exact nxt h8 tk8 ys (Nat.le_succ_of_le hy) F8 N8 R8
      | true =>
        refine wpAny_mono h3' (fun y s4 h4 => ?_) fun _ _ e => e
        obtain ⟨h8, tk8, rfl, F8, N8, R8⟩ := h4
        have zD := (N8 (I + 1, lst ys) (List.mem_cons_of_mem _ (List.mem_cons_of_mem _ (List.mem_cons_self ..))))
        refine append_at (hsz := by show ys.toArray.size ≤ sizeLine; rw [List.size_toArray, sizeLine_eq]; omega) zD.1 fun h9 hs9 hD9 => ?_
        refine nxt h9 tk8 (ys ++ [y]) (by rw [List.length_append, List.length_singleton]; omega) (F8.change hs9 zD.2.1 zD.2.2) (fun p hp => ?_) R8
        rcases List.mem_cons.1 hp with rfl | hp
        · exact ⟨hs9.extBut _ _ (by show I ≠ I + 1; omega) (N8 _ (List.mem_cons_self ..)).1, I0⟩
        rcases List.mem_cons.1 hp with rfl | hp
        · exact ⟨hs9.extBut _ _ (by show I + 1 + 1 ≠ I + 1; omega) (N8 _ (List.mem_cons_of_mem _ (List.mem_cons_self ..))).1, CL, C0⟩
        rcases List.mem_cons.1 hp with rfl | hp
        · exact ⟨hD9.trans (congrArg some (lst_snoc ys y)), zD.2⟩
        · have q := N8 p (List.mem_cons_of_mem _ (List.mem_cons_of_mem _ (List.mem_cons_of_mem _ hp)))
          exact ⟨hs9.extBut _ _ (low3 p hp).2.1 q.1, q.2⟩
  exact codeAny_compStart_list loop (W.self 0 _ _ _ ⟨⟨_, (N3 _ (List.mem_cons_self ..)).1, rfl, rfl⟩, ⟨_, (N3 _ (List.mem_cons_of_mem _ (List.mem_cons_of_mem _ (List.mem_cons_of_mem _ hm)))).1, rfl, k, rfl⟩⟩ loop)
theorem Assign_PT {elt iter ct : Expr} {x x₂ y : PySem.Str} {px px₂ tp py : Pos} {tk} {scope : Scope} {cl : List (PySem.Str × Addr)} {pos spos : Pos} {Q : Flow → Shared → Prop} (hh : A.handled = none) (_F : Fr h₀ L s.heap m) (hLe : env.locals = L)
    (hsw : swapsWith (.ListComp elt [⟨.Tuple [.Name x px, .Name x₂ px₂] tk tp, iter, [ct], 0⟩] scope pos) (some (.Name y py)) spos.line env = pure true)
    (hclos : closureFor scope env = pure cl) (hcell : ∀ z ∈ scope.names, z.2 ≠ .cell) (hkind : scope.kind = .function)
    (hnames : ∀ z ∈ scope.names, z.2 = .local → scope.names.lookup z.1 = some .local) (hx : scope.names.lookup x = some .local) (hx₂ : scope.names.lookup x₂ = some .local) (hxx : x ≠ x₂)
    (hy : env.kindOf y = some .local) (hp : (env.scope.kind == .class || (env.scope.kind == .module && env.locals != env.globals)) = false)
    (h : wpAny (model prog w) A (eval iter env) (SrcPT prog w A h₀ L m env ct elt x x₂ scope cl s (fun news ys => ∀ (D : Addr) (h : Heap) (tk : Nat), Fr h₀ L h (fun z => if z = y then some (.ref D) else m z) → News h₀ L h ((D, lst ys) :: news) → (∀ p ∈ news, p.1 < D) → Q .next { s with heap := h, toks := tk })) E s)
    (hs : ∀ x, foldedSetIterable iter env x = pure x := by intro _; rfl) :
    wpAny (model prog w) A (exec (.Assign [.Name y py] (.ListComp elt [⟨.Tuple [.Name x px, .Name x₂ px₂] tk tp, iter, [ct], 0⟩] scope pos) spos) env) Q E s := by
  subst hLe
  rw [exec_Assign_Name_used _ _ _ _ hsw]
  refine wpAny_bind (wpAny_standAt (wpAny_bind ?_))
  show wpAny _ A (do let _ ← comprehension (.ListComp elt [⟨.Tuple [.Name x px, .Name x₂ px₂] tk tp, iter, [ct], 0⟩] scope pos) scope env _ (newList []) false (eval iter env) (some (assign (.Name y py) env))) _ _ s
  refine wpAny_bind (wpAny_mono (wpAny_comprehension_free (use := some (assign (.Name y py) env)) (Q := fun _ s' => Q .next s') rfl hs hclos hkind hnames
    (wpAny_mono h (fun xv s₁ h₁ => ?_) fun _ _ e => e)) (fun _ s' hq => wpAny_pure (wpAny_pure hq)) fun _ _ e => e)
  obtain ⟨ax, its, k, news, h1, tk1, rfl, rfl, F, N, hm, hz, R⟩ := h₁
  refine PT_core hh hcell hkind hx hx₂ hxx F N hm hz R fun D C h' tk' m' ys F' N' low hn hC₀ hCL hCD offC fin => ?_
  show wpAny _ A (assign (.Name y py) env (.ref D)) _ _ _
  refine wpAny_assign_Name (wpAny_storeName_local hy F'.ns (fun h₂ hn₂ hs₂ => ?_) hp)
  have hL₀ : h₀.get? env.locals = none := Heap.get?_none_of_le F'.above
  have F₂ : Fr h₀ env.locals h₂ (fun z => if z = y then some (.ref D) else m z) := ⟨hn₂, fun b o e => hs₂.extBut b o (fun q => by rw [q, hL₀] at e; cases e) (F'.keep b o e), F'.above⟩
  refine ⟨m', hn.sameBut hs₂ hCL, fun h'' hs'' => fin D h'' _ (F₂.change hs'' hCL hC₀) (fun p hp => ?_) low⟩
  refine ⟨hs''.extBut _ _ ?_ (hs₂.extBut _ _ (N' p hp).2.1 (N' p hp).1), (N' p hp).2⟩
  rcases List.mem_cons.1 hp with rfl | hp
  · exact Ne.symm hCD
  · exact offC p hp
end
end Mine
end

section
open PySem PySem.W PySem.Spec PySem.Calls PyProof.Rows PyProof.V
set_option Elab.async false
set_option maxRecDepth 100000
set_option maxHeartbeats 2000000
namespace Mine
section
variable {prog : Program} {w : World} {A : Around} {E : Value → Shared → Prop} {s : Shared} {env : Env} {h₀ : Heap} {x : PySem.Str} {body : List Stmt} {Q : Flow → Shared → Prop}
theorem unrPost_mono {L I : Addr} {it : Obj} {s₁ : Shared} {r r' : (PySem.Str → Option Value) → List (Addr × Obj) → Prop} {f : Flow} {s₂ : Shared} (h : UnrPost h₀ L s₁ I it r Q f s₂) (hr : ∀ m n, r m n → r' m n) : UnrPost h₀ L s₁ I it r' Q f s₂ := by
  have go : UnrEnd h₀ L s₁ I it r s₂ → UnrEnd h₀ L s₁ I it r' s₂ := fun ⟨h', tk, m', news', e, F, N, o, k⟩ => ⟨h', tk, m', news', e, F, N, o, hr _ _ k⟩
  cases f with
  | ret v => exact h
  | brk => exact h
  | next => exact go h
  | cont => exact go h
/-- the turns over a text's signs, by what holds between them -/
theorem strRest_ind {I : Addr} (J : Nat → SMap → List (Addr × Obj) → Prop) (l : List PySem.Str)
    (turn : ∀ i c m news, l[i]? = some c → J i m news → ∀ (u : Tok) (it : Obj) h tk, Fr h₀ env.locals h (fun y => if y = x then some (.str c u) else m y) → News h₀ env.locals h ((I, it) :: news) →
      wpAny (model prog w) A (execs body env) (UnrPost h₀ env.locals { s with heap := h, toks := tk } I it (J (i + 1)) Q) E { s with heap := h, toks := tk })
    (done : ∀ m news h tk, J l.length m news → Fr h₀ env.locals h m → News h₀ env.locals h news → Q .next { s with heap := h, toks := tk }) :
    ∀ (r : List PySem.Str) (i : Nat) (m : SMap) (news : List (Addr × Obj)), l.drop i = r → i ≤ l.length → J i m news → StrRest prog w A E h₀ env x body Q s I r m news
  | [], i, m, news, hr, hi, hJ => by
    have : i = l.length := Nat.le_antisymm hi (List.drop_eq_nil_iff.1 hr)
    subst this
    exact StrRest.zero fun h tk F N => done m news h tk hJ F N
  | c :: r, i, m, news, hr, hi, hJ => by
    have hv : l[i]? = some c := by
      have := congrArg List.head? hr
      simpa [List.head?_drop] using this
    have hlt : i < l.length := (List.getElem?_eq_some_iff.1 hv).1
    have hr2 : l.drop (i + 1) = r := by rw [← List.tail_drop, hr]; rfl
    exact StrRest.succ fun u it h tk F N => wpAny_mono (turn i c m news hv hJ u it h tk F N) (fun f s₂ h₂ => unrPost_mono h₂ fun m' n' k => strRest_ind J l turn done r (i + 1) m' n' hr2 hlt k) fun _ _ z => z
end
end Mine
end

section
open PySem PySem.W PySem.Spec PySem.Calls PyProof.Rows PyProof.V
set_option Elab.async false
set_option maxRecDepth 100000
set_option maxHeartbeats 2000000
namespace Mine
/-- a range to loop over, by an iterable's value -/
noncomputable def RngAt (h₀ : Heap) (L : Addr) (s : Shared) (a₀ : Int) (n : Nat) (J : Nat → SMap → List (Addr × Obj) → Prop) (xv : Value) (s₁ : Shared) : Prop :=
  ∃ (r : Addr) (b₀ : Int) (t₀ u₀ v₀ : Tok) (h1 : Heap) (tk1 : Nat) (m : SMap) (news : List (Addr × Obj)), xv = .ref r ∧ s₁ = { s with heap := h1, toks := tk1 } ∧ IsRange h1 r a₀ b₀ 1 t₀ u₀ v₀ ∧ Builtin.Range.small a₀ b₀ 1 = true ∧ Builtin.Range.rangeSize a₀ b₀ 1 = (n : Int) ∧
    Fr h₀ L h1 m ∧ News h₀ L h1 news ∧ J 0 m news
noncomputable def RngEnd (h₀ : Heap) (L : Addr) (s : Shared) (K : SMap → List (Addr × Obj) → Prop) (I : Addr) (oI : Obj) (Q : Flow → Shared → Prop) (f : Flow) (s' : Shared) : Prop :=
  match f with
  | .ret v => Q (.ret v) s'
  | .brk => Q .next s'
  | _ => ∃ (h' : Heap) (tk' : Nat) (m' : SMap) (news' : List (Addr × Obj)), s' = { s with heap := h', toks := tk' } ∧ K m' news' ∧ (∀ p ∈ news', p.1 ≠ I) ∧ Fr h₀ L h' m' ∧ News h₀ L h' ((I, oI) :: news')
section
variable {prog : Program} {w : World} {A : Around} {E : Value → Shared → Prop} {s : Shared} {env : Env} {h₀ : Heap} {L : Addr}
theorem rngEnd_next {K : SMap → List (Addr × Obj) → Prop} {I : Addr} {Q : Flow → Shared → Prop} {h' : Heap} {tk' : Nat} {m' : SMap} {news' : List (Addr × Obj)} {oI : Obj} (hk : K m' news') (hn : ∀ p ∈ news', p.1 ≠ I) (F : Fr h₀ L h' m') (N : News h₀ L h' ((I, oI) :: news')) :
    RngEnd h₀ L s K I oI Q .next { s with heap := h', toks := tk' } := ⟨h', tk', m', news', rfl, hk, hn, F, N⟩
theorem For_rng {x : PySem.Str} {iter : Expr} {body : List Stmt} {px pos : Pos} {Q : Flow → Shared → Prop} (n : Nat) (a₀ : Int) (J : Nat → SMap → List (Addr × Obj) → Prop) (hh : A.handled = none)
    (h : wpAny (model prog w) A (eval iter env) (RngAt h₀ L s a₀ n J) E s)
    (turn : ∀ (i : Nat) (t : Tok) (m₁ : SMap) (news₁ : List (Addr × Obj)) (I : Addr) (oI : Obj) (h : Heap) (tk : Nat), i < n → J i m₁ news₁ → (∀ p ∈ news₁, p.1 ≠ I) → Fr h₀ L h m₁ → News h₀ L h ((I, oI) :: news₁) →
      wpAny (model prog w) A (storeName env x (.int (a₀ + i) t)) (fun _ s₂ => wpAny (model prog w) A (execs body env) (RngEnd h₀ L s (J (i + 1)) I oI Q) E s₂) E { s with heap := h, toks := tk })
    (done : ∀ m₁ news₁ h tk, J n m₁ news₁ → Fr h₀ L h m₁ → News h₀ L h news₁ → Q .next { s with heap := h, toks := tk })
    (hs : ∀ x, foldedSetIterable iter env x = pure x := by intro _; rfl)
    (hE : PassesOwn (model prog w) A env E := by passes_own) :
    wpAny (model prog w) A (exec (.For (.Name x px) iter body [] pos) env) Q E s := by
  refine wpAny_For (wpAny_mono h (fun xv s₁ h₁ => ?_) fun _ _ e => e) hs
  obtain ⟨r, b₀, t₀, u₀, v₀, h1, tk1, m, news, rfl, rfl, hr, hsm, hsz, F, N, hJ⟩ := h₁
  refine wpAny_pyIter_range (s := { s with heap := h1, toks := tk1 }) hr hsm ?_
  dsimp only
  rw [hsz]
  have W := Walks.range (prog := prog) (w := w) hh h1.objs.size a₀ 1 n
  have N1 := N.push F { cls := .type "range_iterator", data := .fields #[rawInt a₀, rawInt (n : Int), rawInt 1] }
  have F1 := F.push { cls := .type "range_iterator", data := .fields #[rawInt a₀, rawInt (n : Int), rawInt 1] }
  have low : ∀ p ∈ news, p.1 ≠ h1.objs.size := fun p hp => Nat.ne_of_lt (Heap.lt_size (N p hp).1)
  have I0 := (N1 _ (List.mem_cons_self ..)).2
  refine codeAny_forLoop (R := fun r s' => match r with | .ok f => Q f s' | .error e => cameBackBy (model prog w) A env E e s')
    (fun k s' => ∃ (h' : Heap) (tk' i : Nat) (m' : SMap) (news' : List (Addr × Obj)) (oI : Obj), s' = { s with heap := h', toks := tk' } ∧ k = n - i ∧ i ≤ n ∧ IsRangeIter h' h1.objs.size (a₀ + (i : Nat) * 1) ((n : Int) - (i : Nat)) 1 ∧ J i m' news' ∧ (∀ p ∈ news', p.1 ≠ h1.objs.size) ∧ Fr h₀ L h' m' ∧ News h₀ L h' ((h1.objs.size, oI) :: news')) ?_ n
    ⟨_, _, 0, m, news, _, rfl, rfl, Nat.zero_le _, by simpa using (N1 _ (List.mem_cons_self ..)).1, hJ, low, F1, N1⟩
  rintro k s' ⟨h', tk', i, m', news', oI, rfl, rfl, hi, hit, hJ', hne, F', N'⟩
  by_cases hlt : i < n
  · refine wpAny_passesOwn hE (W.item i _ _ _ hlt hit fun v h2 tk2 hv hst up => ?_)
    obtain ⟨t, rfl⟩ := hv
    have F2 : Fr h₀ L h2 m' := LCg.fr_but F' (fun b o hb e => up b o hb e) I0.1.symm I0.2
    obtain ⟨oN, eN, back⟩ : ∃ o, h2.get? h1.objs.size = some o ∧ ∀ h5 : Heap, h5.get? h1.objs.size = some o → IsRangeIter h5 h1.objs.size (a₀ + ((i + 1 : Nat) : Int) * 1) ((n : Int) - ((i + 1 : Nat) : Int)) 1 := ⟨_, hst, fun _ e => e⟩
    have N2 : News h₀ L h2 ((h1.objs.size, oN) :: news') := fun p hp => by
      rcases List.mem_cons.1 hp with rfl | hp
      · exact ⟨eN, I0⟩
      · exact ⟨up _ _ (by simpa using hne p hp) (N' p (List.mem_cons_of_mem _ hp)).1, (N' p (List.mem_cons_of_mem _ hp)).2⟩
    have T := turn i t m' news' h1.objs.size oN h2 tk2 hlt hJ' hne F2 N2
    rw [show a₀ + (i : Int) = a₀ + (i : Int) * 1 by omega] at T
    refine wpAny_assign_Name (wpAny_passesOwn hE (wpAny_mono T (fun _ s₂ h₂ => ?_) fun _ _ e => e))
    refine wpAny_passesOwn hE (wpAny_mono h₂ (fun f s₃ h₃ => ?_) fun _ _ e => e)
    have go : (∃ (h' : Heap) (tk' : Nat) (m' : SMap) (news' : List (Addr × Obj)), s₃ = { s with heap := h', toks := tk' } ∧ J (i + 1) m' news' ∧ (∀ p ∈ news', p.1 ≠ h1.objs.size) ∧ Fr h₀ L h' m' ∧ News h₀ L h' ((h1.objs.size, oN) :: news')) → ∃ k, k < n - i ∧ ∃ (h' : Heap) (tk' i : Nat) (m' : SMap) (news' : List (Addr × Obj)) (oI : Obj), s₃ = { s with heap := h', toks := tk' } ∧ k = n - i ∧ i ≤ n ∧ IsRangeIter h' h1.objs.size (a₀ + (i : Nat) * 1) ((n : Int) - (i : Nat)) 1 ∧ J i m' news' ∧ (∀ p ∈ news', p.1 ≠ h1.objs.size) ∧ Fr h₀ L h' m' ∧ News h₀ L h' ((h1.objs.size, oI) :: news') := by
      rintro ⟨h5, tk5, m5, news5, rfl, hJ5, hn5, F5, N5⟩
      exact ⟨n - (i + 1), by omega, h5, tk5, i + 1, m5, news5, oN, rfl, rfl, hlt, back _ (N5 _ (List.mem_cons_self ..)).1, hJ5, hn5, F5, N5⟩
    cases f with
    | ret v => exact h₃
    | brk => exact h₃
    | next => exact go h₃
    | cont => exact go h₃
  · obtain rfl : i = n := Nat.le_antisymm hi (Nat.not_lt.1 hlt)
    refine wpAny_passesOwn hE (W.done _ _ _ hit fun h2 tk2 up => ?_)
    refine wpAny_execs_nil (done m' news' h2 tk2 hJ' (LCg.fr_but F' (fun b o hb e => up b o hb e) I0.1.symm I0.2) fun p hp => ?_)
    exact ⟨up _ _ (by simpa using hne p hp) (N' p (List.mem_cons_of_mem _ hp)).1, (N' p (List.mem_cons_of_mem _ hp)).2⟩
end
end Mine
end

section
open PySem PySem.W PySem.Spec PySem.Calls PyProof.Rows
set_option Elab.async false
set_option maxRecDepth 100000
namespace Mine
noncomputable def Cc (a b : Nat) : Int := subS ⟨#[a]⟩ ⟨#[b]⟩
theorem one_inj {a b : Nat} (h : (⟨#[a]⟩ : PySem.Str) = ⟨#[b]⟩) : a = b := by
  injection h with h; injection h with h; injection h
theorem Cc_zero {a b : Nat} : Cc a b = 0 ↔ a = b := by
  unfold Cc subS
  constructor
  · intro h
    split at h
    · rename_i e; exact one_inj e
    · split at h <;> cases h
  · rintro rfl; simp
theorem Cc_symm (a b : Nat) : Cc a b = Cc b a := by
  unfold Cc subS
  by_cases h : (⟨#[a]⟩ : PySem.Str) = ⟨#[b]⟩
  · rw [if_pos h, if_pos h.symm]
  · rw [if_neg h, if_neg (Ne.symm h)]
    by_cases h2 : Txt.lower ⟨#[a]⟩ = Txt.lower ⟨#[b]⟩
    · rw [if_pos h2, if_pos h2.symm]
    · rw [if_neg h2, if_neg (Ne.symm h2)]
noncomputable def kpre (c : Nat → Nat → Int) : List Nat → List Nat → Nat
  | a :: r, b :: s => if c a b = 0 then kpre c r s + 1 else 0
  | _, _ => 0
theorem kpre_map (f g : Nat → Nat) : ∀ l r : List Nat, preL (l.map f) (r.map g) = kpre (fun a b => Cc (f a) (g b)) l r
  | [], r => by cases r <;> rfl
  | a :: l, [] => rfl
  | a :: l, b :: r => by
    have ih := kpre_map f g l r
    simp only [List.map_cons, preL, kpre]
    by_cases h : f a = g b
    · rw [if_pos h, if_pos (Cc_zero.2 h), ih]
    · rw [if_neg h, if_neg (fun e => h (Cc_zero.1 e))]
theorem inner_congr {c c' : Nat → Int} {m : Nat} (h : ∀ j, j < m → c j = c' j) : ∀ (row : List Int) (k : Nat) (d r mn : Int), k + row.length ≤ m → inner c k row d r mn = inner c' k row d r mn
  | [], _, _, _, _, _ => rfl
  | q :: qs, k, d, r, mn, hk => by
    simp only [List.length_cons] at hk
    simp only [inner, h k (by omega), inner_congr h qs (k + 1) _ _ _ (by omega)]
theorem levO_congr {c c' : Nat → Nat → Int} {mc : Int} {m : Nat} : ∀ (n i : Nat) (row : List Int) (res : Int), (∀ a j, i ≤ a → a < i + n → j < m → c a j = c' a j) → row.length = m → levO c mc n i row res = levO c' mc n i row res
  | 0, _, _, _, _, _ => rfl
  | n + 1, i, row, res, h, hr => by
    have e : inner (c i) 0 row (i * 2) (i * 2) BIG = inner (c' i) 0 row (i * 2) (i * 2) BIG := inner_congr (m := m) (fun j hj => h i j (Nat.le_refl _) (by omega) hj) row 0 _ _ _ (by omega)
    simp only [levO, e]
    have l2 := inner_len (c' i) row 0 (i * 2) (i * 2) BIG
    rw [levO_congr n (i + 1) _ _ (fun a j h1 h2 h3 => h a j (by omega) (by omega) h3) (by rw [l2]; exact hr)]
noncomputable def kdp (c : Nat → Nat → Int) (x y : List Nat) (mc : Int) : Int :=
  if ((y.length : Int) - x.length) * 2 > mc then mc + 1 else levO (fun i j => c (x.getD j 0) (y.getD i 0)) mc y.length 0 (rangeInts 2 2 x.length) 0
noncomputable def kl2 (c : Nat → Nat → Int) (x y : List Nat) (mc : Int) : Int :=
  if x.length = 0 ∨ y.length = 0 then 2 * ((x.length : Int) + y.length)
  else if 40 < x.length ∨ 40 < y.length then mc + 1
  else if y.length < x.length then kdp (fun a b => c b a) y x mc else kdp c x y mc
noncomputable def kl1 (c : Nat → Nat → Int) (x y : List Nat) (mc : Int) : Int :=
  kl2 c (x.take (x.length - kpre c x.reverse y.reverse)) (y.take (y.length - kpre c x.reverse y.reverse)) mc
noncomputable def klev (c : Nat → Nat → Int) (x y : List Nat) (mc : Int) : Int :=
  if x.length = y.length ∧ kpre c x y = x.length then 0 else kl1 c (x.drop (kpre c x y)) (y.drop (kpre c x y)) mc
end Mine
end

section
open PySem PySem.W PySem.Spec PySem.Calls PyProof.Rows
set_option Elab.async false
set_option maxRecDepth 100000
namespace Mine
theorem eq_iff (f g : Nat → Nat) : ∀ l r : List Nat, l.map f = r.map g ↔ l.length = r.length ∧ kpre (fun a b => Cc (f a) (g b)) l r = l.length
  | [], [] => by simp [kpre]
  | [], b :: r => by simp
  | a :: l, [] => by simp
  | a :: l, b :: r => by
    have ih := eq_iff f g l r
    simp only [List.map_cons, List.cons.injEq, List.length_cons, kpre]
    by_cases h : f a = g b
    · rw [if_pos (Cc_zero.2 h), ih]
      constructor
      · rintro ⟨_, h1, h2⟩; exact ⟨by omega, by omega⟩
      · rintro ⟨h1, h2⟩; exact ⟨h, by omega, by omega⟩
    · rw [if_neg (fun e => h (Cc_zero.1 e))]
      constructor
      · rintro ⟨h1, _⟩; exact absurd h1 h
      · rintro ⟨_, h2⟩; omega
theorem pfx_S (a b : List Nat) : pfx (S a) (S b) 0 = preL a b := by simp [pfx, S]
theorem sfx_S (a b : List Nat) : sfx (S a) (S b) 0 = preL a.reverse b.reverse := by simp [sfx, S]
theorem kdp_S (f g : Nat → Nat) (x y : List Nat) (mc : Int) : lev3 (S (x.map f)) (S (y.map g)) mc = kdp (fun a b => Cc (f a) (g b)) x y mc := by
  unfold lev3 kdp
  rw [S_len, S_len, List.length_map, List.length_map]
  split
  · rfl
  · refine levO_congr (m := x.length) _ _ _ _ (fun a j _ h2 h3 => ?_) (by rw [rangeInts_length])
    have ha : a < y.length := by omega
    show subS (Txt.item (S (y.map g)) (a : Int)) (Txt.item (S (x.map f)) (j : Int)) = Cc (f (x.getD j 0)) (g (y.getD a 0))
    rw [S_item (l := y.map g) (k := (a : Int)) (by omega) (by rw [List.length_map]; omega), S_item (l := x.map f) (k := (j : Int)) (by omega) (by rw [List.length_map]; omega)]
    rw [Cc_symm]
    have e1 : x.getD j 0 = x[j] := by simp [h3]
    have e2 : y.getD a 0 = y[a] := by simp [ha]
    rw [e1, e2]
    simp [Cc, S]
theorem kl2_S (f g : Nat → Nat) (x y : List Nat) (mc : Int) : lev2 (S (x.map f)) (S (y.map g)) mc = kl2 (fun a b => Cc (f a) (g b)) x y mc := by
  unfold lev2 kl2
  rw [S_len, S_len, List.length_map, List.length_map]
  rw [kdp_S g f y x mc, kdp_S f g x y mc]
  have e : (fun a b => Cc (g a) (f b)) = (fun a b => Cc (f b) (g a)) := by funext a b; exact Cc_symm _ _
  rw [e]
theorem kl1_S (f g : Nat → Nat) (x y : List Nat) (mc : Int) : lev1 (S (x.map f)) (S (y.map g)) mc = kl1 (fun a b => Cc (f a) (g b)) x y mc := by
  unfold lev1 kl1
  rw [sfx_S, ← List.map_reverse, ← List.map_reverse, kpre_map]
  have q1 : kpre (fun a b => Cc (f a) (g b)) x.reverse y.reverse ≤ x.length := by rw [← kpre_map]; have := preL_le1 (x.reverse.map f) (y.reverse.map g); simpa using this
  have q2 : kpre (fun a b => Cc (f a) (g b)) x.reverse y.reverse ≤ y.length := by rw [← kpre_map]; have := preL_le2 (x.reverse.map f) (y.reverse.map g); simpa using this
  generalize kpre (fun a b => Cc (f a) (g b)) x.reverse y.reverse = q at q1 q2 ⊢
  rw [psl_S (l := x.map f) (k := -(q : Int)) (by omega) (by rw [List.length_map]; omega), psl_S (l := y.map g) (k := -(q : Int)) (by omega) (by rw [List.length_map]; omega)]
  rw [List.length_map, List.length_map, show ((x.length : Int) + -(q : Int)).toNat = x.length - q by omega, show ((y.length : Int) + -(q : Int)).toNat = y.length - q by omega]
  rw [← List.map_take, ← List.map_take]
  exact kl2_S f g _ _ mc
theorem lev_abs (f g : Nat → Nat) (x y : List Nat) (mc : Int) : lev (S (x.map f)) (S (y.map g)) mc = klev (fun a b => Cc (f a) (g b)) x y mc := by
  unfold lev klev
  rw [pfx_S, kpre_map]
  have q1 : kpre (fun a b => Cc (f a) (g b)) x y ≤ x.length := by rw [← kpre_map]; have := preL_le1 (x.map f) (y.map g); simpa using this
  have q2 : kpre (fun a b => Cc (f a) (g b)) x y ≤ y.length := by rw [← kpre_map]; have := preL_le2 (x.map f) (y.map g); simpa using this
  by_cases h : S (x.map f) = S (y.map g)
  · rw [if_pos h, if_pos ((eq_iff f g x y).1 (S_inj.1 h))]
  · rw [if_neg h, if_neg (fun e => h (S_inj.2 ((eq_iff f g x y).2 e)))]
    generalize kpre (fun a b => Cc (f a) (g b)) x y = q at q1 q2 ⊢
    rw [S_slice (l := x.map f) (k := (q : Int)) (by omega) (by rw [List.length_map]; omega), S_slice (l := y.map g) (k := (q : Int)) (by omega) (by rw [List.length_map]; omega)]
    rw [Int.toNat_natCast, ← List.map_drop, ← List.map_drop]
    exact kl1_S f g _ _ mc
end Mine
end

section
open PySem PySem.W PySem.Spec PySem.Calls PyProof.Rows
set_option Elab.async false
set_option maxRecDepth 100000
namespace Mine
noncomputable def mnN (a b : Nat) : Nat := cond (Nat.blt b a) b a
theorem mnN_eq (a b : Nat) : mn2 (a : Int) (b : Int) = ((mnN a b : Nat) : Int) := by
  unfold mn2 mnN
  by_cases h : b < a
  · have e : Nat.blt b a = true := by simpa [Nat.blt_eq] using h
    rw [if_pos (by omega), e]; rfl
  · have e : Nat.blt b a = false := by
      cases q : Nat.blt b a with
      | false => rfl
      | true => exact absurd (by simpa [Nat.blt_eq] using q) h
    rw [if_neg (by omega), e]; rfl
noncomputable def innN (c : Nat → Nat) : Nat → List Nat → Nat → Nat → Nat → List Nat × Nat × Nat
  | _, [], _, r, mn => ([], r, mn)
  | k, q :: qs, d, r, mn =>
    let r' := mnN (mnN r q + 2) (d + c k)
    let z := innN c (k + 1) qs q r' (mnN mn r')
    (r' :: z.1, z.2)
theorem innN_eq (c : Nat → Nat) : ∀ (row : List Nat) (k d r mn : Nat), inner (fun j => (c j : Int)) k (row.map fun z : Nat => (z : Int)) d r mn = ((innN c k row d r mn).1.map fun z : Nat => (z : Int), ((innN c k row d r mn).2.1 : Int), ((innN c k row d r mn).2.2 : Int))
  | [], _, _, _, _ => rfl
  | q :: qs, k, d, r, mn => by
    have e : mn2 (mn2 (r : Int) (q : Int) + 2) ((d : Int) + (c k : Int)) = ((mnN (mnN r q + 2) (d + c k) : Nat) : Int) := by
      rw [mnN_eq, show ((mnN r q : Nat) : Int) + 2 = ((mnN r q + 2 : Nat) : Int) by omega, show (d : Int) + (c k : Int) = ((d + c k : Nat) : Int) by omega, mnN_eq]
    simp only [List.map_cons, inner]
    simp only [e]
    simp only [mnN_eq, innN_eq c qs, innN]
    rfl
noncomputable def levN (c : Nat → Nat → Nat) (mc : Int) : Nat → Nat → List Nat → Nat → Int
  | 0, _, _, res => (res : Int)
  | n + 1, i, row, _ =>
    let z := innN (c i) 0 row (i * 2) (i * 2) 9223372036854775807
    if (z.2.2 : Int) > mc then mc + 1 else levN c mc n (i + 1) z.1 z.2.1
theorem levN_eq (c : Nat → Nat → Nat) (mc : Int) : ∀ (n i : Nat) (row : List Nat) (res : Nat), levO (fun a b => (c a b : Int)) mc n i (row.map fun z : Nat => (z : Int)) (res : Int) = levN c mc n i row res
  | 0, _, _, _ => rfl
  | n + 1, i, row, res => by
    have e := innN_eq (c i) row 0 (i * 2) (i * 2) 9223372036854775807
    simp only [levO, levN]
    rw [show ((i : Int) * 2) = ((i * 2 : Nat) : Int) by omega, show BIG = ((9223372036854775807 : Nat) : Int) from rfl, e]
    simp only [levN_eq c mc n (i + 1)]
noncomputable def kpreN (c : Nat → Nat → Nat) : List Nat → List Nat → Nat
  | a :: r, b :: s => cond (Nat.beq (c a b) 0) (kpreN c r s + 1) 0
  | _, _ => 0
theorem kpreN_eq (c : Nat → Nat → Nat) : ∀ l r, kpre (fun a b => (c a b : Int)) l r = kpreN c l r
  | [], _ => by cases ‹List Nat› <;> rfl
  | a :: l, [] => rfl
  | a :: l, b :: r => by
    simp only [kpre, kpreN, kpreN_eq c l r]
    by_cases h : c a b = 0
    · have e : Nat.beq (c a b) 0 = true := by rw [h]; rfl
      rw [if_pos (by omega), e]; rfl
    · have e : Nat.beq (c a b) 0 = false := by
        cases q : Nat.beq (c a b) 0 with
        | false => rfl
        | true => exact absurd (Nat.eq_of_beq_eq_true q) h
      rw [if_neg (by omega), e]; rfl
noncomputable def kdpN (c : Nat → Nat → Nat) (x y : List Nat) (mc : Int) : Int :=
  if ((y.length : Int) - x.length) * 2 > mc then mc + 1 else levN (fun i j => c (x.getD j 0) (y.getD i 0)) mc y.length 0 ((List.range x.length).map fun k => 2 + k * 2) 0
theorem kdpN_eq (c : Nat → Nat → Nat) (x y : List Nat) (mc : Int) : kdp (fun a b => (c a b : Int)) x y mc = kdpN c x y mc := by
  unfold kdp kdpN
  have e : rangeInts 2 2 x.length = ((List.range x.length).map fun k => 2 + k * 2).map fun z : Nat => (z : Int) := by
    simp [rangeInts]
  rw [e]
  have q := levN_eq (fun i j => c (x.getD j 0) (y.getD i 0)) mc y.length 0 ((List.range x.length).map fun k => 2 + k * 2) 0
  rw [← q]; rfl
noncomputable def kl2N (c : Nat → Nat → Nat) (x y : List Nat) (mc : Int) : Int :=
  if x.length = 0 ∨ y.length = 0 then 2 * ((x.length : Int) + y.length)
  else if 40 < x.length ∨ 40 < y.length then mc + 1
  else if y.length < x.length then kdpN (fun a b => c b a) y x mc else kdpN c x y mc
theorem kl2N_eq (c : Nat → Nat → Nat) (x y : List Nat) (mc : Int) : kl2 (fun a b => (c a b : Int)) x y mc = kl2N c x y mc := by
  unfold kl2 kl2N
  rw [kdpN_eq c x y, kdpN_eq (fun a b => c b a) y x]
noncomputable def klevN (c : Nat → Nat → Nat) (x y : List Nat) (mc : Int) : Int :=
  if x.length = y.length ∧ kpreN c x y = x.length then 0 else
    let x1 := x.drop (kpreN c x y); let y1 := y.drop (kpreN c x y)
    kl2N c (x1.take (x1.length - kpreN c x1.reverse y1.reverse)) (y1.take (y1.length - kpreN c x1.reverse y1.reverse)) mc
theorem klevN_eq (c : Nat → Nat → Nat) (x y : List Nat) (mc : Int) : klev (fun a b => (c a b : Int)) x y mc = klevN c x y mc := by
  unfold klev klevN kl1
  rw [kpreN_eq]
  split
  · rfl
  · rw [kpreN_eq, kl2N_eq]
end Mine
end

section
open PySem PySem.W PySem.Spec PySem.Calls PyProof.Rows
set_option Elab.async false
set_option maxRecDepth 100000
namespace Mine
/-- reckon the number first -/
noncomputable def seqN {α : Type} (n : Nat) (k : Nat → α) : α := Nat.rec (motive := fun _ => (Nat → α) → α) (fun k => k 0) (fun m _ k => k (m + 1)) n k
theorem seqN_eq {α : Type} (n : Nat) (k : Nat → α) : seqN n k = k n := by cases n <;> rfl
noncomputable def innA {α : Type} (K : List Nat → Nat → Nat → α) : List Nat → List Nat → Nat → Nat → Nat → List Nat → α
  | _, [], _, r, mn, acc => K acc.reverse r mn
  | [], _ :: _, _, r, mn, acc => K acc.reverse r mn
  | c :: cs, q :: qs, d, r, mn, acc => seqN (mnN (mnN r q + 2) (d + c)) fun r' => seqN (mnN mn r') fun mn' => innA K cs qs q r' mn' (r' :: acc)
theorem innA_eq {α : Type} (K : List Nat → Nat → Nat → α) (c : Nat → Nat) : ∀ (row : List Nat) (k : Nat) (d r mn : Nat) (acc : List Nat) (cs : List Nat), cs.length = row.length → (∀ j, j < row.length → cs[j]? = some (c (k + j))) →
    innA K cs row d r mn acc = K (acc.reverse ++ (innN c k row d r mn).1) (innN c k row d r mn).2.1 (innN c k row d r mn).2.2
  | [], k, d, r, mn, acc, cs, _, _ => by cases cs <;> simp [innA, innN]
  | q :: qs, k, d, r, mn, acc, [], h, _ => by simp at h
  | q :: qs, k, d, r, mn, acc, c0 :: cs, h, hc => by
    have e0 : c0 = c k := by simpa using hc 0 (by simp)
    have ih := innA_eq K c qs (k + 1) q (mnN (mnN r q + 2) (d + c0)) (mnN mn (mnN (mnN r q + 2) (d + c0))) (mnN (mnN r q + 2) (d + c0) :: acc) cs (by simpa using h) (fun j hj => by
      have := hc (j + 1) (by simpa using hj)
      rw [show k + 1 + j = k + (j + 1) by omega]; simpa using this)
    rw [innA, seqN_eq, seqN_eq, ih, e0]
    simp [innN]
theorem innN_len (c : Nat → Nat) : ∀ (row : List Nat) (k d r mn : Nat), (innN c k row d r mn).1.length = row.length
  | [], _, _, _, _ => rfl
  | q :: qs, k, d, r, mn => by simp [innN, innN_len c qs]
noncomputable def levA (mc : Int) : List (List Nat) → Nat → List Nat → Nat → Int
  | [], _, _, res => (res : Int)
  | cs :: rest, i, row, _ => innA (fun row' r mn => if (mn : Int) > mc then mc + 1 else levA mc rest (i + 1) row' r) cs row (i * 2) (i * 2) 9223372036854775807 []
theorem levA_eq (c : Nat → Nat → Nat) (mc : Int) (m : Nat) : ∀ (n i : Nat) (row : List Nat) (res : Nat), row.length = m → levA mc ((List.range' i n).map fun a => (List.range m).map (c a)) i row res = levN c mc n i row res
  | 0, _, _, _, _ => rfl
  | n + 1, i, row, res, hm => by
    have e : levA mc ((List.range' i (n + 1)).map fun a => (List.range m).map (c a)) i row res = innA (fun row' r mn => if (mn : Int) > mc then mc + 1 else levA mc ((List.range' (i + 1) n).map fun a => (List.range m).map (c a)) (i + 1) row' r) ((List.range m).map (c i)) row (i * 2) (i * 2) 9223372036854775807 [] := by
      rw [List.range'_succ, List.map_cons, levA]
    have hl := innN_len (c i) row 0 (i * 2) (i * 2) 9223372036854775807
    rw [e, innA_eq _ (c i) row 0 _ _ _ _ _ (by simp [hm]) (fun j hj => by rw [hm] at hj; simp [hj])]
    simp only [levN, List.reverse_nil, List.nil_append]
    rw [levA_eq c mc m n (i + 1) _ _ (by rw [hl]; exact hm)]
end Mine
namespace Mine
theorem map_getD {β : Type} (h : Nat → β) (x : List Nat) : (List.range x.length).map (fun j => h (x.getD j 0)) = x.map h := by
  apply List.ext_getElem
  · simp
  · intro i h1 h2
    have h3 : i < x.length := by simpa using h2
    simp [h3]
noncomputable def kdpA (c : Nat → Nat → Nat) (x y : List Nat) (mc : Int) : Int :=
  if ((y.length : Int) - x.length) * 2 > mc then mc + 1 else levA mc (y.map fun b => x.map fun a => c a b) 0 ((List.range x.length).map fun k => 2 + k * 2) 0
theorem kdpA_eq (c : Nat → Nat → Nat) (x y : List Nat) (mc : Int) : kdpN c x y mc = kdpA c x y mc := by
  unfold kdpN kdpA
  rw [← levA_eq (fun i j => c (x.getD j 0) (y.getD i 0)) mc x.length y.length 0 _ 0 (by simp)]
  have e : ((List.range' 0 y.length).map fun a => (List.range x.length).map fun j => c (x.getD j 0) (y.getD a 0)) = y.map fun b => x.map fun a => c a b := by
    rw [← List.range_eq_range', ← map_getD (fun b => x.map fun a => c a b) y]
    apply List.map_congr_left
    intro i _
    exact map_getD (fun a => c a (y.getD i 0)) x
  rw [e]
noncomputable def kl2A (c : Nat → Nat → Nat) (x y : List Nat) (mc : Int) : Int :=
  if x.length = 0 ∨ y.length = 0 then 2 * ((x.length : Int) + y.length)
  else if 40 < x.length ∨ 40 < y.length then mc + 1
  else if y.length < x.length then kdpA (fun a b => c b a) y x mc else kdpA c x y mc
noncomputable def klevA (c : Nat → Nat → Nat) (x y : List Nat) (mc : Int) : Int :=
  if x.length = y.length ∧ kpreN c x y = x.length then 0 else
    let x1 := x.drop (kpreN c x y); let y1 := y.drop (kpreN c x y)
    kl2A c (x1.take (x1.length - kpreN c x1.reverse y1.reverse)) (y1.take (y1.length - kpreN c x1.reverse y1.reverse)) mc
theorem klevA_eq (c : Nat → Nat → Nat) (x y : List Nat) (mc : Int) : klevN c x y mc = klevA c x y mc := by
  unfold klevN klevA kl2N kl2A
  simp only [kdpA_eq]
end Mine
end

section
open PySem PySem.W PySem.Spec PySem.Calls PyProof.Rows
set_option Elab.async false
set_option maxRecDepth 100000
set_option maxHeartbeats 0
namespace Mine
/-- the cost of two signs, by a table -/
noncomputable def KT (a b : Nat) : Nat := cond (Nat.beq a b) 0 (cond (Nat.beq (Nat.min a b + 32) (Nat.max a b) && Nat.ble 65 (Nat.min a b)) 1 2)
theorem KT_eq {a b : Nat} (ha : a ∈ six) (hb : b ∈ six) : Cc a b = ((KT a b : Nat) : Int) := by
  have h : ∀ a ∈ six, ∀ b ∈ six, Cc a b = ((KT a b : Nat) : Int) := by decide +kernel
  exact h a ha b hb
theorem KT_oth {a : Nat} (ha : a ∈ six) : Cc a 33 = 2 ∧ Cc a 46 = 2 ∧ Cc 33 a = 2 ∧ Cc 46 a = 2 := by
  have h : ∀ a ∈ six, Cc a 33 = 2 ∧ Cc a 46 = 2 ∧ Cc 33 a = 2 ∧ Cc 46 a = 2 := by decide +kernel
  exact h a ha
theorem KT_33 : Cc 33 33 = 0 ∧ Cc 33 46 = 2 ∧ Cc 46 33 = 2 := by decide +kernel
theorem eq_K {a b : Nat} (ha : a ∈ six) (hb : b ∈ six) : ((⟨#[b]⟩ : PySem.Str) == ⟨#[a]⟩) = Nat.beq (KT a b) 0 := by
  have h : ∀ a ∈ six, ∀ b ∈ six, ((⟨#[b]⟩ : PySem.Str) == ⟨#[a]⟩) = Nat.beq (KT a b) 0 := by decide +kernel
  exact h a ha b hb
theorem low_K {a b : Nat} (ha : a ∈ six) (hb : b ∈ six) : (Txt.lower ⟨#[b]⟩ == Txt.lower (Txt.upper ⟨#[a]⟩)) = Nat.ble (KT a b) 1 := by
  have h : ∀ a ∈ six, ∀ b ∈ six, (Txt.lower ⟨#[b]⟩ == Txt.lower (Txt.upper ⟨#[a]⟩)) = Nat.ble (KT a b) 1 := by decide +kernel
  exact h a ha b hb
noncomputable def RSs : List (List (List Nat)) := [[[0, 0, 0], [1, 1, 1], [2, 2, 2]],
  [[0, 0, 1], [1, 1, 0], [2, 2, 2]],
  [[0, 0, 2], [1, 1, 2], [2, 2, 0], [2, 2, 1], [2, 2, 2]],
  [[0, 1, 0], [1, 0, 1], [2, 2, 2]],
  [[0, 1, 1], [1, 0, 0], [2, 2, 2]],
  [[0, 1, 2], [1, 0, 2], [2, 2, 0], [2, 2, 1], [2, 2, 2]],
  [[0, 2, 0], [1, 2, 1], [2, 0, 2], [2, 1, 2], [2, 2, 2]],
  [[0, 2, 1], [1, 2, 0], [2, 0, 2], [2, 1, 2], [2, 2, 2]],
  [[0, 2, 2], [1, 2, 2], [2, 0, 0], [2, 1, 1], [2, 2, 2]],
  [[0, 2, 2], [1, 2, 2], [2, 0, 1], [2, 1, 0], [2, 2, 2]],
  [[0, 2, 2], [1, 2, 2], [2, 0, 2], [2, 1, 2], [2, 2, 0], [2, 2, 2]],
  [[0, 2, 2], [1, 2, 2], [2, 0, 2], [2, 2, 0], [2, 2, 1], [2, 2, 2]],
  [[0, 2, 2], [2, 0, 2], [2, 1, 2], [2, 2, 0], [2, 2, 1], [2, 2, 2]]]
theorem rows_in {d0 d1 d2 : Nat} (h0 : d0 ∈ six) (h1 : d1 ∈ six) (h2 : d2 ∈ six) : ∃ R ∈ RSs, ∀ c ∈ six, [KT c d0, KT c d1, KT c d2] ∈ R := by
  have h : ∀ d0 ∈ six, ∀ d1 ∈ six, ∀ d2 ∈ six, ∃ R ∈ RSs, ∀ c ∈ six, [KT c d0, KT c d1, KT c d2] ∈ R := by decide +kernel
  exact h d0 h0 d1 h1 d2 h2
end Mine
end

section
open PySem PySem.W PySem.Spec PySem.Calls PyProof.Rows PyProof.V
set_option Elab.async false
set_option maxRecDepth 100000
set_option maxHeartbeats 2000000
namespace Mine
/-- a made list to loop over, by an iterable's value -/
noncomputable def LstAt (h₀ : Heap) (L : Addr) (s : Shared) (n : Nat) (PV : List Value → Prop) (J : Nat → SMap → List (Addr × Obj) → Prop) (xv : Value) (s₁ : Shared) : Prop :=
  ∃ (ax : Addr) (vs : List Value) (k : Nat) (h1 : Heap) (tk1 : Nat) (m : SMap) (news : List (Addr × Obj)), xv = .ref ax ∧ s₁ = { s with heap := h1, toks := tk1 } ∧ vs.length = n ∧ PV vs ∧ (∀ p ∈ news, p.1 ≠ ax) ∧
    Fr h₀ L h1 m ∧ News h₀ L h1 ((ax, listOf vs.toArray k) :: news) ∧ J 0 m news
noncomputable def LstEnd (h₀ : Heap) (L : Addr) (s : Shared) (K : SMap → List (Addr × Obj) → Prop) (I : Addr) (oI : Obj) (ax : Addr) (oX : Obj) (Q : Flow → Shared → Prop) (f : Flow) (s' : Shared) : Prop :=
  match f with
  | .ret v => Q (.ret v) s'
  | .brk => Q .next s'
  | _ => ∃ (h' : Heap) (tk' : Nat) (m' : SMap) (news' : List (Addr × Obj)), s' = { s with heap := h', toks := tk' } ∧ K m' news' ∧ (∀ p ∈ news', p.1 ≠ I) ∧ (∀ p ∈ news', p.1 ≠ ax) ∧ Fr h₀ L h' m' ∧ News h₀ L h' ((I, oI) :: (ax, oX) :: news')
section
variable {prog : Program} {w : World} {A : Around} {E : Value → Shared → Prop} {s : Shared} {env : Env} {h₀ : Heap} {L : Addr}
theorem lstEnd_next {K : SMap → List (Addr × Obj) → Prop} {I ax : Addr} {Q : Flow → Shared → Prop} {h' : Heap} {tk' : Nat} {m' : SMap} {news' : List (Addr × Obj)} {oI oX : Obj} (hk : K m' news') (hn : ∀ p ∈ news', p.1 ≠ I) (ha : ∀ p ∈ news', p.1 ≠ ax) (F : Fr h₀ L h' m') (N : News h₀ L h' ((I, oI) :: (ax, oX) :: news')) :
    LstEnd h₀ L s K I oI ax oX Q .next { s with heap := h', toks := tk' } := ⟨h', tk', m', news', rfl, hk, hn, ha, F, N⟩
theorem For_lst {x : PySem.Str} {iter : Expr} {body : List Stmt} {px pos : Pos} {Q : Flow → Shared → Prop} (n : Nat) (PV : List Value → Prop) (J : Nat → SMap → List (Addr × Obj) → Prop) (hh : A.handled = none)
    (h : wpAny (model prog w) A (eval iter env) (LstAt h₀ L s n PV J) E s)
    (turn : ∀ (i : Nat) (v : Value) (vs : List Value) (ax : Addr) (k : Nat) (m₁ : SMap) (news₁ : List (Addr × Obj)) (I : Addr) (oI : Obj) (h : Heap) (tk : Nat), i < n → PV vs → vs[i]? = some v → J i m₁ news₁ → (∀ p ∈ news₁, p.1 ≠ I) → (∀ p ∈ news₁, p.1 ≠ ax) → @Ne Nat ax I → Fr h₀ L h m₁ → News h₀ L h ((I, oI) :: (ax, listOf vs.toArray k) :: news₁) →
      wpAny (model prog w) A (storeName env x v) (fun _ s₂ => wpAny (model prog w) A (execs body env) (LstEnd h₀ L s (J (i + 1)) I oI ax (listOf vs.toArray k) Q) E s₂) E { s with heap := h, toks := tk })
    (done : ∀ m₁ news₁ h tk, J n m₁ news₁ → Fr h₀ L h m₁ → News h₀ L h news₁ → Q .next { s with heap := h, toks := tk })
    (hs : ∀ x, foldedSetIterable iter env x = pure x := by intro _; rfl)
    (hE : PassesOwn (model prog w) A env E := by passes_own) :
    wpAny (model prog w) A (exec (.For (.Name x px) iter body [] pos) env) Q E s := by
  refine wpAny_For (wpAny_mono h (fun xv s₁ h₁ => ?_) fun _ _ e => e) hs
  obtain ⟨ax, vs, k, h1, tk1, m, news, rfl, rfl, hn, hP, hax, F, N, hJ⟩ := h₁
  have hl : h1.IsList ax vs.toArray := ⟨_, (N _ (List.mem_cons_self ..)).1, rfl, k, rfl⟩
  have hlt : ax < h1.objs.size := Heap.lt_size (N _ (List.mem_cons_self ..)).1
  refine wpAny_pyIter_list (s := { s with heap := h1, toks := tk1 }) hl ?_
  dsimp only
  have W := Walks.list (prog := prog) (w := w) hh h1.objs.size ax (Nat.ne_of_lt hlt) vs.toArray
  have N1 := N.push F { cls := .type "list_iterator", data := .fields #[.ref ax, .int 0 0] }
  have F1 := F.push { cls := .type "list_iterator", data := .fields #[.ref ax, .int 0 0] }
  have low : ∀ p ∈ (ax, listOf vs.toArray k) :: news, p.1 ≠ h1.objs.size := fun p hp => Nat.ne_of_lt (Heap.lt_size (N p hp).1)
  have haI : @Ne Nat ax h1.objs.size := Nat.ne_of_lt hlt
  have I0 := (N1 _ (List.mem_cons_self ..)).2
  refine codeAny_forLoop (R := fun r s' => match r with | .ok f => Q f s' | .error e => cameBackBy (model prog w) A env E e s')
    (fun q s' => ∃ (h' : Heap) (tk' i : Nat) (m' : SMap) (news' : List (Addr × Obj)) (oI : Obj), s' = { s with heap := h', toks := tk' } ∧ q = n - i ∧ i ≤ n ∧ h'.IsListIter h1.objs.size ax i ∧ J i m' news' ∧ (∀ p ∈ news', p.1 ≠ h1.objs.size) ∧ (∀ p ∈ news', p.1 ≠ ax) ∧ Fr h₀ L h' m' ∧ News h₀ L h' ((h1.objs.size, oI) :: (ax, listOf vs.toArray k) :: news')) ?_ n
    ⟨_, _, 0, m, news, _, rfl, rfl, Nat.zero_le _, ⟨_, (N1 _ (List.mem_cons_self ..)).1, rfl, rfl⟩, hJ, fun p hp => low p (List.mem_cons_of_mem _ hp), hax, F1, N1⟩
  rintro q s' ⟨h', tk', i, m', news', oI, rfl, rfl, hi, hit, hJ', hne, hax', F', N'⟩
  have sl : h'.IsList ax vs.toArray := ⟨_, (N' _ (List.mem_cons_of_mem _ (List.mem_cons_self ..))).1, rfl, k, rfl⟩
  by_cases hlt2 : i < n
  · refine wpAny_passesOwn hE (W.item i _ _ _ (by simpa [hn] using hlt2) ⟨hit, sl⟩ fun v h2 tk2 hv hst up => ?_)
    have hv2 : vs[i]? = some v := by simpa using hv
    have up' : ∀ b o, b ≠ h1.objs.size → h'.get? b = some o → h2.get? b = some o := fun b o hb e => up b o (by simpa using hb) e
    have F2 : Fr h₀ L h2 m' := LCg.fr_but F' (fun b o hb e => up b o hb e) I0.1.symm I0.2
    obtain ⟨oN, eN, cN, dN⟩ := hst.1
    have N2 : News h₀ L h2 ((h1.objs.size, oN) :: (ax, listOf vs.toArray k) :: news') := fun p hp => by
      rcases List.mem_cons.1 hp with rfl | hp
      · exact ⟨eN, I0⟩
      · refine ⟨up' _ _ ?_ (N' p (List.mem_cons_of_mem _ hp)).1, (N' p (List.mem_cons_of_mem _ hp)).2⟩
        rcases List.mem_cons.1 hp with rfl | hp
        · exact haI
        · exact hne p hp
    have T := turn i v vs ax k m' news' h1.objs.size oN h2 tk2 hlt2 hP hv2 hJ' hne hax' haI F2 N2
    refine wpAny_assign_Name (wpAny_passesOwn hE (wpAny_mono T (fun _ s₂ h₂ => ?_) fun _ _ e => e))
    refine wpAny_passesOwn hE (wpAny_mono h₂ (fun f s₃ h₃ => ?_) fun _ _ e => e)
    have go : (∃ (h' : Heap) (tk' : Nat) (m' : SMap) (news' : List (Addr × Obj)), s₃ = { s with heap := h', toks := tk' } ∧ J (i + 1) m' news' ∧ (∀ p ∈ news', p.1 ≠ h1.objs.size) ∧ (∀ p ∈ news', p.1 ≠ ax) ∧ Fr h₀ L h' m' ∧ News h₀ L h' ((h1.objs.size, oN) :: (ax, listOf vs.toArray k) :: news')) → ∃ q, q < n - i ∧ ∃ (h' : Heap) (tk' i : Nat) (m' : SMap) (news' : List (Addr × Obj)) (oI : Obj), s₃ = { s with heap := h', toks := tk' } ∧ q = n - i ∧ i ≤ n ∧ h'.IsListIter h1.objs.size ax i ∧ J i m' news' ∧ (∀ p ∈ news', p.1 ≠ h1.objs.size) ∧ (∀ p ∈ news', p.1 ≠ ax) ∧ Fr h₀ L h' m' ∧ News h₀ L h' ((h1.objs.size, oI) :: (ax, listOf vs.toArray k) :: news') := by
      rintro ⟨h5, tk5, m5, news5, rfl, hJ5, hn5, ha5, F5, N5⟩
      exact ⟨n - (i + 1), by omega, h5, tk5, i + 1, m5, news5, oN, rfl, rfl, hlt2, ⟨oN, (N5 _ (List.mem_cons_self ..)).1, cN, dN⟩, hJ5, hn5, ha5, F5, N5⟩
    cases f with
    | ret v => exact h₃
    | brk => exact h₃
    | next => exact go h₃
    | cont => exact go h₃
  · obtain rfl : i = n := Nat.le_antisymm hi (Nat.not_lt.1 hlt2)
    refine wpAny_passesOwn hE (W.done _ _ _ (by simpa [hn] using And.intro hit sl) fun h2 tk2 up => ?_)
    have up' : ∀ b o, b ≠ h1.objs.size → h'.get? b = some o → h2.get? b = some o := fun b o hb e => up b o (by simpa using hb) e
    refine wpAny_execs_nil (done m' news' h2 tk2 hJ' (LCg.fr_but F' (fun b o hb e => up b o hb e) I0.1.symm I0.2) fun p hp => ?_)
    exact ⟨up' _ _ (hne p hp) (N' p (List.mem_cons_of_mem _ (List.mem_cons_of_mem _ hp))).1, (N' p (List.mem_cons_of_mem _ (List.mem_cons_of_mem _ hp))).2⟩
end
end Mine
end

section
open PySem PySem.W PySem.Spec PySem.Calls PyProof.Rows PyProof.Rows.LCg PyProof.Rows.LCt
set_option Elab.async false
set_option maxRecDepth 100000
set_option maxHeartbeats 2000000
namespace Mine
section
variable {prog : Program} {w : World} {A : Around} {h₀ : Heap} {L : Addr} {m : SMap} {env : Env} {elt ct : Expr} {x : PySem.Str} {scope : Scope} {cl : List (PySem.Str × Addr)} {s : Shared} {S : List (Addr × Obj) → Prop} {P : Nat → Value → Prop} {Fin : List Value → List (Addr × Obj) → Prop}
theorem compEnd_mono {s₁ : Shared} {I C D : Addr} {oI oC oD : Obj} {rest rest' : Value → List (Addr × Obj) → Prop} {y : Value} {s₂ : Shared} (h : CompEnd h₀ L m s₁ I oI C oC D oD S rest y s₂) (hr : ∀ n, S n → rest y n → rest' y n) : CompEnd h₀ L m s₁ I oI C oC D oD S rest' y s₂ := by
  obtain ⟨h', tk, news', e, F, N, off, hS, r⟩ := h
  exact ⟨h', tk, news', e, F, N, off, hS, hr _ hS r⟩
/-- the turns of a comprehension, by what holds between them -/
theorem comp_ind (J : Nat → List Value → List (Addr × Obj) → Prop) (n : Nat)
    (turn : ∀ i ys news, i < n → J i ys news → ∀ v I oI C oC D m₂ h tk (E' : Value → Shared → Prop), P i v → NsObj oC m₂ → m₂ x = some v → Fr h₀ L h m → News h₀ L h ((I, oI) :: (C, oC) :: (D, lst ys) :: news) → Off3 I C D news → ((@Ne Nat I C) ∧ (@Ne Nat I D) ∧ (@Ne Nat C D)) →
      wpAny (model prog w) A (eval elt (compEnvC scope cl C env)) (CompEnd h₀ L m { s with heap := h, toks := tk } I oI C oC D (lst ys) S (fun y news' => J (i + 1) (ys ++ [y]) news')) E' { s with heap := h, toks := tk })
    (fin : ∀ ys news, J n ys news → Fin ys news) : ∀ (k i : Nat) (ys : List Value) (news : List (Addr × Obj)), i + k = n → J i ys news → CompRest prog w A h₀ L m env elt x scope cl s S P Fin k i ys news
  | 0, i, ys, news, e, hJ => by
    have : i = n := by omega
    subst this
    exact CompRest.zero (fin ys news hJ)
  | k + 1, i, ys, news, e, hJ => CompRest.succ fun v I oI C oC D m₂ h tk E' hP hns hx F N off ne =>
    wpAny_mono (turn i ys news (by omega) hJ v I oI C oC D m₂ h tk E' hP hns hx F N off ne) (fun y s₂ h₂ => compEnd_mono h₂ fun news' _ hJ' => comp_ind J n turn fin k (i + 1) (ys ++ [y]) news' (by omega) hJ') fun _ _ z => z
/-- the same with a test -/
theorem compT_ind (J : Nat → List Value → List (Addr × Obj) → Prop) (n : Nat)
    (turn : ∀ i ys news, i < n → J i ys news → ∀ v I oI C oC D m₂ h tk (E' : Value → Shared → Prop), P i v → NsObj oC m₂ → m₂ x = some v → Fr h₀ L h m → News h₀ L h ((I, oI) :: (C, oC) :: (D, lst ys) :: news) → Off3 I C D news → ((@Ne Nat I C) ∧ (@Ne Nat I D) ∧ (@Ne Nat C D)) →
      wpAny (model prog w) A (isTrue ct (compEnvC scope cl C env) (eval ct (compEnvC scope cl C env))) (fun ok s' => if ok = true then
        wpAny (model prog w) A (eval elt (compEnvC scope cl C env)) (CompEnd h₀ L m { s with heap := h, toks := tk } I oI C oC D (lst ys) S (fun y news' => J (i + 1) (ys ++ [y]) news')) E' s'
        else CompEnd h₀ L m { s with heap := h, toks := tk } I oI C oC D (lst ys) S (fun _ news' => J (i + 1) ys news') Value.none s') E' { s with heap := h, toks := tk })
    (fin : ∀ ys news, J n ys news → Fin ys news) : ∀ (k i : Nat) (ys : List Value) (news : List (Addr × Obj)), i + k = n → J i ys news → CompRestT prog w A h₀ L m env ct elt x scope cl s S P Fin k i ys news
  | 0, i, ys, news, e, hJ => by
    have : i = n := by omega
    subst this
    exact CompRestT.zero (fin ys news hJ)
  | k + 1, i, ys, news, e, hJ => CompRestT.succ fun v I oI C oC D m₂ h tk E' hP hns hx F N off ne =>
    wpAny_mono (turn i ys news (by omega) hJ v I oI C oC D m₂ h tk E' hP hns hx F N off ne) (fun ok s' h₁ => by
      cases ok with
      | true =>
        simp only [if_true] at h₁ ⊢
        exact wpAny_mono h₁ (fun y s₂ h₂ => compEnd_mono h₂ fun news' _ hJ' => compT_ind J n turn fin k (i + 1) (ys ++ [y]) news' (by omega) hJ') fun _ _ z => z
      | false =>
        simp only [Bool.false_eq_true, if_false] at h₁ ⊢
        exact compEnd_mono h₁ fun news' _ hJ' => compT_ind J n turn fin k (i + 1) ys news' (by omega) hJ') fun _ _ z => z
end
end Mine
end

section
open PySem PySem.W PySem.Spec PySem.Calls PyProof.Rows PyProof.Rows.LCg PyProof.V
set_option Elab.async false
set_option maxRecDepth 100000
set_option maxHeartbeats 2000000
namespace Mine
section
variable {prog : Program} {w : World} {A : Around} {h₀ : Heap} {L : Addr} {m : SMap} {env : Env} {ct elt : Expr} {x x₂ : PySem.Str} {scope : Scope} {cl : List (PySem.Str × Addr)} {s : Shared} {news : List (Addr × Obj)} {Fin : List Value → Prop}
/-- the turns over pairs, by what holds between them -/
theorem PT_ind (J : Nat → List Value → Prop) (its : List Value)
    (turn : ∀ i v ys, its[i]? = some v → J i ys → ∃ (t : Addr) (k : Nat) (v₁ v₂ : Value), v = .ref t ∧ (t, { cls := .type "tuple", data := .seq #[v₁, v₂] k }) ∈ news ∧
      ∀ I oI C oC D m₂ h tk (E' : Value → Shared → Prop), NsObj oC m₂ → m₂ x = some v₁ → m₂ x₂ = some v₂ → Fr h₀ L h m → News h₀ L h ((I, oI) :: (C, oC) :: (D, lst ys) :: news) →
      wpAny (model prog w) A (isTrue ct (compEnvC scope cl C env) (eval ct (compEnvC scope cl C env))) (fun ok s' => if ok = true then
        wpAny (model prog w) A (eval elt (compEnvC scope cl C env)) (PEnd h₀ L m { s with heap := h, toks := tk } ((I, oI) :: (C, oC) :: (D, lst ys) :: news) (fun y => J (i + 1) (ys ++ [y]))) E' s'
        else PEnd h₀ L m { s with heap := h, toks := tk } ((I, oI) :: (C, oC) :: (D, lst ys) :: news) (fun _ => J (i + 1) ys) .none s') E' { s with heap := h, toks := tk })
    (fin : ∀ ys, J its.length ys → Fin ys) : ∀ (r : List Value) (i : Nat) (ys : List Value), i ≤ its.length → its.drop i = r → J i ys → PT prog w A h₀ L m env ct elt x x₂ scope cl s news Fin r ys
  | [], i, ys, hi, hr, hJ => by
    have : i = its.length := Nat.le_antisymm hi (List.drop_eq_nil_iff.1 hr)
    subst this
    exact fin ys hJ
  | v :: r, i, ys, hi, hr, hJ => by
    have hv : its[i]? = some v := by
      have := congrArg List.head? hr
      simpa [List.head?_drop] using this
    have hlt : i < its.length := (List.getElem?_eq_some_iff.1 hv).1
    have hr2 : its.drop (i + 1) = r := by rw [← List.tail_drop, hr]; rfl
    obtain ⟨t, k, v₁, v₂, e, hm, T⟩ := turn i v ys hv hJ
    have up : ∀ (all : List (Addr × Obj)) (s₁ : Shared) (y : Value) (ys' : List Value) (s₂ : Shared), PEnd h₀ L m s₁ all (fun _ => J (i + 1) ys') y s₂ → PEnd h₀ L m s₁ all (fun _ => PT prog w A h₀ L m env ct elt x x₂ scope cl s news Fin r ys') y s₂ := by
      rintro all s₁ y ys' s₂ ⟨h', tk', e, F, N, k⟩
      exact ⟨h', tk', e, F, N, PT_ind J its turn fin r (i + 1) ys' hlt hr2 k⟩
    refine ⟨t, k, v₁, v₂, e, hm, fun I oI C oC D m₂ h tk E' a1 a2 a3 a4 a5 => wpAny_mono (T I oI C oC D m₂ h tk E' a1 a2 a3 a4 a5) (fun ok s' h₁ => ?_) fun _ _ z => z⟩
    cases ok with
    | true =>
      simp only [if_true] at h₁ ⊢
      refine wpAny_mono h₁ (fun y s₂ h₂ => ?_) fun _ _ z => z
      obtain ⟨h', tk', e, F, N, k⟩ := h₂
      exact ⟨h', tk', e, F, N, PT_ind J its turn fin r (i + 1) (ys ++ [y]) hlt hr2 k⟩
    | false =>
      simp only [Bool.false_eq_true, if_false] at h₁ ⊢
      exact up _ _ _ _ _ h₁
end
end Mine
end

section
open PySem PySem.W PySem.Spec PySem.Calls PyProof.Rows
set_option Elab.async false
set_option maxRecDepth 100000
set_option maxHeartbeats 0
namespace Mine
/-- the first i of three, where the test holds -/
noncomputable def pk3 (b0 b1 b2 : Bool) (z0 z1 z2 : Int) : Nat → List Int
  | 0 => []
  | 1 => (if b0 = true then [z0] else [])
  | 2 => (if b0 = true then [z0] else []) ++ (if b1 = true then [z1] else [])
  | _ => (if b0 = true then [z0] else []) ++ (if b1 = true then [z1] else []) ++ (if b2 = true then [z2] else [])
theorem pk3_len (b0 b1 b2 : Bool) (z0 z1 z2 : Int) : (pk3 b0 b1 b2 z0 z1 z2 3).length ≤ 10 := by cases b0 <;> cases b1 <;> cases b2 <;> simp [pk3]
theorem ints_snoc {vs : List Value} {ms : List Int} (h : IntsAre vs ms) (z : Int) (t : Tok) : IntsAre (vs ++ [.int z t]) (ms ++ [z]) := h.append (.cons _ _ .nil)
/-- the digits that get_all gives, and what is made of each -/
theorem pick_at {α β γ : Type} (p : α → Bool) (f : α → β) (g : α → γ) {l : List α} {i : Nat} {v : β} (h : ((l.filter p).map f)[i]? = some v) : ∃ a ∈ l, v = f a ∧ ((l.filter p).map g)[i]? = some (g a) := by
  rw [List.getElem?_map] at h ⊢
  cases ha : (l.filter p)[i]? with
  | none => rw [ha] at h; cases h
  | some a => rw [ha] at h; exact ⟨a, (List.mem_filter.1 (List.mem_of_getElem? ha)).1, (Option.some.inj h).symm, rfl⟩
theorem pk3_filter (b0 b1 b2 : Bool) (q : Nat → Bool) (h0 : q 0 = b0) (h1 : q 1 = b1) (h2 : q 2 = b2) (f : Nat → Int) : pk3 b0 b1 b2 (f 0) (f 1) (f 2) 3 = (([0, 1, 2] : List Nat).filter q).map f := by
  simp only [List.filter, h0, h1, h2]
  cases b0 <;> cases b1 <;> cases b2 <;> rfl
theorem dig3 {y n0 n1 n2 : PySem.Str} {u0 u1 u2 : Tok} {i : Nat} {v : Value} (h : (gaV y [(n0, .str (Str.ofString "0") u0), (n1, .str (Str.ofString "1") u1), (n2, .str (Str.ofString "2") u2)])[i]? = some v) :
    ∃ u, (v = .str (Str.ofString "0") u ∧ (pk3 (Txt.lower n0 == Txt.lower y) (Txt.lower n1 == Txt.lower y) (Txt.lower n2 == Txt.lower y) 1 3 5 3)[i]? = some 1) ∨ (v = .str (Str.ofString "1") u ∧ (pk3 (Txt.lower n0 == Txt.lower y) (Txt.lower n1 == Txt.lower y) (Txt.lower n2 == Txt.lower y) 1 3 5 3)[i]? = some 3) ∨ (v = .str (Str.ofString "2") u ∧ (pk3 (Txt.lower n0 == Txt.lower y) (Txt.lower n1 == Txt.lower y) (Txt.lower n2 == Txt.lower y) 1 3 5 3)[i]? = some 5) := by
  let F : Nat → PySem.Str × Value := fun k => match k with | 0 => (n0, .str (Str.ofString "0") u0) | 1 => (n1, .str (Str.ofString "1") u1) | _ => (n2, .str (Str.ofString "2") u2)
  let G : Nat → Int := fun k => match k with | 0 => 1 | 1 => 3 | _ => 5
  have e : gaV y [(n0, .str (Str.ofString "0") u0), (n1, .str (Str.ofString "1") u1), (n2, .str (Str.ofString "2") u2)] = (([0, 1, 2] : List Nat).filter fun k => Txt.lower (F k).1 == Txt.lower y).map fun k => (F k).2 := by
    show (([0, 1, 2] : List Nat).map F |>.filter fun p => Txt.lower p.1 == Txt.lower y).map (·.2) = _
    rw [List.filter_map, List.map_map]; rfl
  rw [e] at h
  obtain ⟨k, hk, hv, hz⟩ := pick_at _ _ G h
  rw [← pk3_filter (Txt.lower n0 == Txt.lower y) (Txt.lower n1 == Txt.lower y) (Txt.lower n2 == Txt.lower y) _ rfl rfl rfl G] at hz
  rcases hk with _ | ⟨_, _ | ⟨_, _ | ⟨_, hk⟩⟩⟩
  · exact ⟨u0, .inl ⟨hv, hz⟩⟩
  · exact ⟨u1, .inr (.inl ⟨hv, hz⟩)⟩
  · exact ⟨u2, .inr (.inr ⟨hv, hz⟩)⟩
  · cases hk
theorem gaV_len (y n0 n1 n2 : PySem.Str) (v0 v1 v2 : Value) : (gaV y [(n0, v0), (n1, v1), (n2, v2)]).length = (pk3 (Txt.lower n0 == Txt.lower y) (Txt.lower n1 == Txt.lower y) (Txt.lower n2 == Txt.lower y) 1 3 5 3).length := by
  simp only [gaV, List.filter, pk3]
  cases Txt.lower n0 == Txt.lower y <;> cases Txt.lower n1 == Txt.lower y <;> cases Txt.lower n2 == Txt.lower y <;> rfl
theorem pk3_t0 {b0 b1 b2 : Bool} {z0 z1 z2 : Int} (h : b0 = true) : pk3 b0 b1 b2 z0 z1 z2 1 = pk3 b0 b1 b2 z0 z1 z2 0 ++ [z0] := by subst h; simp [pk3]
theorem pk3_f0 {b0 b1 b2 : Bool} {z0 z1 z2 : Int} (h : b0 = false) : pk3 b0 b1 b2 z0 z1 z2 1 = pk3 b0 b1 b2 z0 z1 z2 0 := by subst h; simp [pk3]
theorem pk3_t1 {b0 b1 b2 : Bool} {z0 z1 z2 : Int} (h : b1 = true) : pk3 b0 b1 b2 z0 z1 z2 2 = pk3 b0 b1 b2 z0 z1 z2 1 ++ [z1] := by subst h; simp [pk3]
theorem pk3_f1 {b0 b1 b2 : Bool} {z0 z1 z2 : Int} (h : b1 = false) : pk3 b0 b1 b2 z0 z1 z2 2 = pk3 b0 b1 b2 z0 z1 z2 1 := by subst h; simp [pk3]
theorem pk3_t2 {b0 b1 b2 : Bool} {z0 z1 z2 : Int} (h : b2 = true) : pk3 b0 b1 b2 z0 z1 z2 3 = pk3 b0 b1 b2 z0 z1 z2 2 ++ [z2] := by subst h; simp [pk3]
theorem pk3_f2 {b0 b1 b2 : Bool} {z0 z1 z2 : Int} (h : b2 = false) : pk3 b0 b1 b2 z0 z1 z2 3 = pk3 b0 b1 b2 z0 z1 z2 2 := by subst h; simp [pk3]
theorem take_snoc {l : List Int} {i : Nat} {z : Int} (h : l[i]? = some z) : l.take (i + 1) = l.take i ++ [z] := by rw [List.take_add_one, h]; rfl
end Mine
end

section
open PySem PySem.W PySem.Spec PySem.Calls PyProof.Rows
set_option Elab.async false
set_option maxRecDepth 100000
set_option maxHeartbeats 0
namespace Mine
/-- one entry of a table of headers -/
structure Ent where
  (a : Addr) (n : PySem.Str) (t : Tok) (v : PySem.Str) (u : Tok)
noncomputable abbrev Ent.obj (e : Ent) : Obj := { cls := .type "tuple", data := .seq #[.str e.n e.t, .str e.v e.u] }
noncomputable abbrev entL (es : List Ent) : List (Addr × Obj) := es.map fun e => (e.a, e.obj)
noncomputable abbrev bookD (w : World) (hl : Addr) (t : Tok) : Obj := dictOf [⟨PyData.keyHash w.params (Str.ofString "_headers"), .str (Str.ofString "_headers") t, .ref hl⟩] 1
/-- a table of headers -/
noncomputable abbrev bookE (w : World) (hl x dx : Addr) (t : Tok) (k : Nat) (es : List Ent) : List (Addr × Obj) :=
  (hl, listOf (es.map fun e => Value.ref e.a).toArray k) :: (x, instObj 238 dx) :: (dx, bookD w hl t) :: entL es
/-- what get_all gives -/
noncomputable def gaE (y : PySem.Str) (es : List Ent) : List Value := (es.filter fun e => Txt.lower e.n == Txt.lower y).map fun e => .str e.v e.u
theorem gaE_nil (y : PySem.Str) : gaE y [] = [] := rfl
theorem gaE_snoc (y : PySem.Str) (es : List Ent) (e : Ent) : gaE y (es ++ [e]) = gaE y es ++ (if (Txt.lower e.n == Txt.lower y) = true then [.str e.v e.u] else []) := by
  unfold gaE
  rw [List.filter_append, List.map_append]
  congr 1
  by_cases h : (Txt.lower e.n == Txt.lower y) = true <;> simp [List.filter, h]
theorem gaE_take {y : PySem.Str} {es : List Ent} {i : Nat} {e : Ent} (h : es[i]? = some e) : gaE y (es.take (i + 1)) = gaE y (es.take i) ++ (if (Txt.lower e.n == Txt.lower y) = true then [.str e.v e.u] else []) := by
  have hlt : i < es.length := (List.getElem?_eq_some_iff.1 h).1
  have e2 : es.take (i + 1) = es.take i ++ [e] := by
    rw [List.take_succ, h]; rfl
  rw [e2, gaE_snoc]
theorem ent_mem {es : List Ent} {i : Nat} {e : Ent} (h : es[i]? = some e) : (e.a, e.obj) ∈ entL es := List.mem_map.2 ⟨e, List.mem_of_getElem? h, rfl⟩
end Mine
end

section
open PySem PySem.W PySem.Spec PySem.Calls PyProof.Rows
theorem Mine.fillK0 : PySem.Challenge.rw_pm0064_01 = PySem.Challenge.rw_pm0064_01 ∧ hd01.heap_1 = hd01.heap_1 := by
    k_fill
    exact ⟨rfl, rfl⟩
theorem Mine.topOff2 : True := by
  w_top off
  trivial
set_option Elab.async false
set_option compiler.extract_closed false
set_option maxRecDepth 100000
set_option maxHeartbeats 0
open Mine
local macro_rules | `(tactic| walk_at "subscriptTail Name Slice str ref") => `(tactic| (k_here; (with_reducible rename Fr _ _ _ _ => F'); (with_reducible rename News _ _ _ _ => N'); (refine' slice_strN_nn_len (s := ⟨_, _, _, _, _⟩) F' N' ?_ ?hs ?ht ?hsz; (case hs => with_unfolding_all rfl); (case ht => intro _; with_unfolding_all rfl); (case hsz => size_fits)); intro _ _ _ _ _ _))
local macro_rules | `(tactic| walk_at "subscriptTail Name Slice str ref") => `(tactic| (k_here; (with_reducible rename Fr _ _ _ _ => F'); (with_reducible rename News _ _ _ _ => N'); (refine' slice_strN_ns_len (s := ⟨_, _, _, _, _⟩) F' N' ?_ ?hs ?ht ?hsz; (case hs => with_unfolding_all rfl); (case ht => intro _; with_unfolding_all rfl); (case hsz => size_fits)); intro _ _ _ _ _ _))
local macro_rules | `(tactic| k_all) => `(tactic| first | assumption | exact all_lt (by assumption) | (refine all_app ?_ ?_ <;> k_all))
local macro_rules | `(tactic| walk_at "call type:list") => `(tactic| (k_here; (rename IsRange _ _ _ _ _ _ _ _ => rgX); (refine' list_rng _ rfl ?F ?N rgX ?sm ?sz ?ln ?_; (case F => k_asm); (case N => k_asm); (case sz => exact rng2_size _); (case sm => exact rng2_small (by omega)); (case ln => omega)); intro l' h' tk' vs' k' F' N' hi' hl'; (try k_lt hl')))

section
open PySem PySem.W PySem.Spec PySem.Calls PyProof.Rows
set_option Elab.async false
set_option maxRecDepth 100000
set_option maxHeartbeats 0
set_option pp.deepTerms false
set_option pp.maxSteps 2000
namespace Mine
section
variable {w : World} {mean : ExcName → Option Value} {mg mb : SMap} {dp un : Nat} {gd : Option (List Code)} {cn : PySem.Str} {cs : Scope} {a₀ : Addr} {ccd : Value} {cl : List (PySem.Str × Addr)} {outer outer1 : List Env} {base g : Heap} {L L₀ : Addr} {m : SMap} {news : List (Addr × Obj)} {s : Shared} {Q : Flow → Shared → Prop}

theorem subc {L a : Addr} {h₀ : Heap} {A₀ : Around} {Q E : Value → Shared → Prop} {x y : PySem.Str} {t u : Tok}
    (B : Below A₀ base outer h₀) (F : Fr h₀ L s.heap m) (X : (hd01.heap_1 w.params).In h₀) (N : News h₀ L s.heap news) (T : Top VV LL mean mg mb h₀) (hk : cs.kind = .function)
    (hx : x.length ≤ 1) (hy : y.length ≤ 1) (hdp : dp + 1 < recursionLimit) (hun : un + 8 < cLine)
    (hret : ∀ (t' : Tok) (h' : Heap) (tk' : Nat), Fr h₀ L h' m → News h₀ L h' news → Q (.int (subS x y) t') { s with heap := h', toks := tk' }) :
    wpAny (model PP w) (ktrTop dp un gd cn cs L a ccd cl outer) (call (.ref 45) [.str x t, .str y u]) Q E s := by
  refine wpAny_noRaise ?_
  refine wpAny_call ?_
  k_dflt ktr_enter
  (repeat' ((fail_if_success (with_reducible first | show EndQ _ _ _ | show Exit1 _ _ _ _ _ _ _ _ _ | show Turn1 _ _ _ _ _ _ _ _ _ | show TurnN _ _ _ _ _ _ _ _ _ | show wpAny _ _ (pyIter _) _ _ _ | show wpAny _ _ (exec (Stmt.While _ _ _ _) _) _ _ _)); first | (k_unfold; (try dsimp only)) | (k_end; wrow_close) | walk1 | (dsimp only; walk1) | (leave1; walk_say "STEP leave1"; try dsimp only) | fail "no step"))
  all_goals (refine cb_retI hret ?_ (by k_asm) (by k_asm); clear qk ek; simp_all [subS])

end
end Mine
end

section
open PySem PySem.W PySem.Spec PySem.Calls PyProof.Rows
set_option Elab.async false
set_option maxRecDepth 100000
set_option maxHeartbeats 0
set_option pp.deepTerms false
set_option pp.maxSteps 2000
namespace Mine

local macro_rules | `(tactic| walk_at "call ref") => `(tactic| (k_here; (with_reducible show wpAny _ _ (call (Value.ref 45) _) _ _ _); k_dflt (refine' subc ?B ?F ?X ?N ?T ?hk ?hx ?hy ?hd ?hu ?_; (case B => k_asm); (case F => k_asm); (case X => k_asm); (case N => k_asm); (case T => k_asm); (case hk => exact rfl); (case hx => omega); (case hy => omega); (case hd => ktr_room); (case hu => ktr_units)); intro t9 h9 tk9 F9 N9))
section
variable {w : World} {mean : ExcName → Option Value} {mg mb : SMap} {dp un : Nat} {gd : Option (List Code)} {cn : PySem.Str} {cs : Scope} {a₀ : Addr} {ccd : Value} {cl : List (PySem.Str × Addr)} {outer outer1 : List Env} {base g : Heap} {L L₀ : Addr} {m : SMap} {news : List (Addr × Obj)} {s : Shared} {Q : Flow → Shared → Prop}
theorem segD (B : Below (ktrTop dp un gd cn cs L₀ a₀ ccd cl outer) base (envX cn cs L₀ a₀ ccd cl :: outer) g) (X : (hd01.heap_1 w.params).In g) (T : Top VV LL mean mg mb g)
   (hdp : dp + 3 < recursionLimit) (hun : un + 40 < cLine) (N : News g L s.heap news) {x y : PySem.Str} {t u v : Tok} {mc : Int} 
   (F : Fr g L s.heap (putM (putM (putM m (Str.ofString "max_cost") (.int mc v)) (Str.ofString "b") (.str y u)) (Str.ofString "a") (.str x t)))
    (hx : x.length ≤ 40) (hy : y.length ≤ 40) (hmc : -1000000 ≤ mc) (hmc2 : mc ≤ 1000000) (hlen : x.length ≤ y.length)
    (hret : ∀ (t' : Tok) (h' : Heap) (tk' : Nat) (m' : SMap), Fr g L h' m' → News g L h' news → Q (.ret (.int (levO (costS x y) mc y.length 0 (rangeInts 2 2 x.length) 0) t')) { s with heap := h', toks := tk' }) :
  wpAny (model PP w) ((ktrTop dp un gd cn cs L₀ a₀ ccd cl outer).deeper (fnEnv (hd01.heap_1 w.params) (Str.ofString "_levenshtein_distance") 52 L)) (execs ((fnBody (hd01.heap_1 w.params) 52).drop 13) (fnEnv (hd01.heap_1 w.params) (Str.ofString "_levenshtein_distance") 52 L)) (EndQ Q) (fun _ _ => False) s := by
  conv => arg 3; arg 1; whnf
  simp only [fnEnv]
  generalize hsc : fnScope (hd01.heap_1 w.params) 52 = sc
  conv at hsc => lhs; whnf
  subst hsc
  generalize hsc : fnCode (hd01.heap_1 w.params) 52 = sc
  conv at hsc => lhs; whnf
  subst hsc
  (repeat' ((fail_if_success (with_reducible first | show EndQ _ _ _ | show Exit1 _ _ _ _ _ _ _ _ _ | show Turn1 _ _ _ _ _ _ _ _ _ | show TurnN _ _ _ _ _ _ _ _ _ | show wpAny _ _ (pyIter _) _ _ _ | show wpAny _ _ (exec (Stmt.While _ _ _ _) _) _ _ _)); first | (k_unfold; (try dsimp only)) | (k_end; wrow_close) | walk1 | (dsimp only; walk1) | (leave1; walk_say "STEP leave1"; try dsimp only) | fail "no step"))
  rename_i l h1 tk1 vs k hi hl h2 h3 F1 N1 h4 tk4 t1 u1 v1 rg F2 N2 hk2
  clear F1 N1
  refine for_range0 y.length (fun i m₁ news₁ => ∃ (vs : List Value) (row : List Int) (res : Int) (tr : Tok) (m₀ : SMap),
    m₁ = frm [(Str.ofString "row", .ref l), (Str.ofString "result", .int res tr), (Str.ofString "a", .str x t), (Str.ofString "b", .str y u), (Str.ofString "max_cost", .int mc v)] m₀ ∧
    news₁ = (l, listOf vs.toArray k) :: news ∧ IntsAre vs row ∧ row.length = x.length ∧
    levO (costS x y) mc y.length 0 (rangeInts 2 2 x.length) 0 = levO (costS x y) mc (y.length - i) i row res) rfl rg (rng1_small (by omega)) (rng1_size _) F2 N2 ?_ ?_ ?_
  · exact ⟨vs, _, 0, _, _, frm_eq (by repeat (first | exact trivial | refine ⟨rfl, ?_⟩)), rfl, hi, by simp [rangeInts_length], by simp⟩
  · clear F2 N2 hi
    intro i ti m₁ news₁ h tk own hin hadr hoff hJ F N
    obtain ⟨vs1, row, res, tr, m₀, rfl, rfl, hi, hrl, hout⟩ := hJ
    simp only [List.cons_append] at N
    have hd1 : ∀ p ∈ news, p.1 ≠ l := all_lt hl
    have hd2 : ∀ p ∈ own, p.1 ≠ l := OwnOff.ne hoff (List.mem_cons_self ..)
    (repeat' ((fail_if_success (with_reducible first | show EndQ _ _ _ | show Exit1 _ _ _ _ _ _ _ _ _ | show Turn1 _ _ _ _ _ _ _ _ _ | show TurnN _ _ _ _ _ _ _ _ _ | show wpAny _ _ (pyIter _) _ _ _ | show wpAny _ _ (exec (Stmt.While _ _ _ _) _) _ _ _)); first | (k_unfold; (try dsimp only)) | (k_end; wrow_close) | walk1 | (dsimp only; walk1) | (leave1; walk_say "STEP leave1"; try dsimp only) | fail "no step"))
    (with_reducible rename Fr _ _ _ _ => kF)
    (with_reducible rename News _ _ _ _ => kN)
    (rename IsRange _ _ _ _ _ _ _ _ => rg)
    refine for_range0 x.length (fun j m₁ news₁ => ∃ (vs : List Value) (row1 : List Int) (d r mn : Int) (tr td tm tb ti : Tok) (m₀ : SMap),
      m₁ = frm [(Str.ofString "row", .ref l), (Str.ofString "result", .int r tr), (Str.ofString "distance", .int d td), (Str.ofString "minimum", .int mn tm), (Str.ofString "bchar", .str (Txt.item y i) tb), (Str.ofString "bindex", .int i ti), (Str.ofString "a", .str x t), (Str.ofString "b", .str y u), (Str.ofString "max_cost", .int mc v)] m₀ ∧
      news₁ = (l, listOf vs.toArray k) :: (news ++ own) ∧ IntsAre vs row1 ∧ InnSt (costS x y i) row (i * 2) (i * 2) BIG j row1 d r mn) rfl rg (rng1_small (by omega)) (rng1_size _) kF kN ?_ ?_ ?_
    · exact ⟨vs1, _, _, _, _, _, _, _, _, _, _, frm_eq (by repeat (first | exact trivial | refine ⟨rfl, ?_⟩)), rfl, hi, InnSt.start _ _ _ _ _⟩
    · clear kF kN F N hi hout rg
      intro j tj m₁ news₁ h tk own2 hjn hadr2 hoff2 hJ F N
      obtain ⟨vs2, row2, d, r, mn, tr2, td2, tm2, tb2, ti2, m₀, rfl, rfl, hi2, hst⟩ := hJ
      have hln := hst.len
      simp only [List.cons_append] at N
      have hd3 : ∀ p ∈ own2, p.1 ≠ l := OwnOff.ne hoff2 (List.mem_cons_self ..)
      have hbc : (Txt.item y i).length = 1 := len_item _ _
      have hac : (Txt.item x j).length = 1 := len_item _ _
      (repeat' ((fail_if_success (with_reducible first | show EndQ _ _ _ | show Exit1 _ _ _ _ _ _ _ _ _ | show Turn1 _ _ _ _ _ _ _ _ _ | show TurnN _ _ _ _ _ _ _ _ _ | show wpAny _ _ (pyIter _) _ _ _ | show wpAny _ _ (exec (Stmt.While _ _ _ _) _) _ _ _)); first | (k_unfold; (try dsimp only)) | (k_end; wrow_close) | walk1 | (dsimp only; walk1) | (leave1; walk_say "STEP leave1"; try dsimp only) | fail "no step"))
      all_goals ((rename IntsAre _ _ => hiX); (with_reducible rename Fr _ _ _ _ => kF); (with_reducible rename News _ _ _ _ => kN); refine turnN_next' ((l, listOf _ k) :: (news ++ own)) kF kN rfl ⟨_, _, _, _, _, _, _, _, _, _, _, frm_eq (by repeat (first | exact trivial | refine ⟨rfl, ?_⟩)), rfl, hiX, hst.turnI (by omega) rfl ?_⟩)
      · exact (if_pos (by assumption)).symm
      · exact (if_neg (by assumption)).symm
    · clear kF kN F N hi rg
      intro m₁ news₁ h tk hJ F N
      obtain ⟨vs2, row2, d, r, mn, tr2, td2, tm2, tb2, ti2, m₀, rfl, rfl, hi2, hst⟩ := hJ
      have hln := hst.len
      have hdn := hst.done (by omega)
      have hstep : levO (costS x y) mc (y.length - i) i row res = if mn > mc then mc + 1 else levO (costS x y) mc (y.length - (i + 1)) (i + 1) row2 r := by
        have e : y.length - i = (y.length - (i + 1)) + 1 := by omega
        rw [e]
        simp only [levO, hdn]
      (try dsimp only)
      (repeat' ((fail_if_success (with_reducible first | show EndQ _ _ _ | show Exit1 _ _ _ _ _ _ _ _ _ | show Turn1 _ _ _ _ _ _ _ _ _ | show TurnN _ _ _ _ _ _ _ _ _ | show wpAny _ _ (pyIter _) _ _ _ | show wpAny _ _ (exec (Stmt.While _ _ _ _) _) _ _ _)); first | (k_unfold; (try dsimp only)) | (k_end; wrow_close) | walk1 | (dsimp only; walk1) | (leave1; walk_say "STEP leave1"; try dsimp only) | fail "no step"))
      · (with_reducible rename Fr _ _ _ _ => kF); (with_reducible rename News _ _ _ _ => kN)
        have e := hout.trans (hstep.trans (if_pos (by assumption)))
        rw [e] at hret
        exact hret _ _ _ _ kF (cb_drop kN (fun p hp => by simp [hp]))
      · (with_reducible rename Fr _ _ _ _ => kF); (with_reducible rename News _ _ _ _ => kN)
        exact turnN_next' ((l, listOf _ k) :: news) kF kN rfl ⟨vs2, row2, r, _, _, frm_eq (by repeat (first | exact trivial | refine ⟨rfl, ?_⟩)), rfl, hi2, by omega, hout.trans (hstep.trans (if_neg (by assumption)))⟩
  · intro m₁ news₁ h tk hJ F N
    obtain ⟨vs1, row, res, tr, m₀, rfl, rfl, hi, hrl, hout⟩ := hJ
    (try dsimp only)
    (repeat' ((fail_if_success (with_reducible first | show EndQ _ _ _ | show Exit1 _ _ _ _ _ _ _ _ _ | show Turn1 _ _ _ _ _ _ _ _ _ | show TurnN _ _ _ _ _ _ _ _ _ | show wpAny _ _ (pyIter _) _ _ _ | show wpAny _ _ (exec (Stmt.While _ _ _ _) _) _ _ _)); first | (k_unfold; (try dsimp only)) | (k_end; wrow_close) | walk1 | (dsimp only; walk1) | (leave1; walk_say "STEP leave1"; try dsimp only) | fail "no step"))
    have e : levO (costS x y) mc y.length 0 (rangeInts 2 2 x.length) 0 = res := by rw [hout]; simp [levO]
    rw [e] at hret
    exact hret _ _ _ _ F (cb_drop N (fun p hp => by simp [hp]))
end
end Mine
end

section
open PySem PySem.W PySem.Spec PySem.Calls PyProof.Rows
set_option Elab.async false
set_option maxRecDepth 100000
set_option maxHeartbeats 0
set_option pp.deepTerms false
set_option pp.maxSteps 2000
namespace Mine

local macro_rules | `(tactic| walk_at "NONE") => `(tactic| skip)
local macro_rules | `(tactic| walk_at "call ref") => `(tactic| (k_here; (with_reducible show wpAny _ _ (call (Value.ref 45) _) _ _ _); k_dflt (refine' subc ?B ?F ?X ?N ?T ?hk ?hx ?hy ?hd ?hu ?_; (case B => k_asm); (case F => k_asm); (case X => k_asm); (case N => k_asm); (case T => k_asm); (case hk => exact rfl); (case hx => omega); (case hy => omega); (case hd => ktr_room); (case hu => ktr_units)); intro t9 h9 tk9 F9 N9))
section
variable {w : World} {mean : ExcName → Option Value} {mg mb : SMap} {dp un : Nat} {gd : Option (List Code)} {cn : PySem.Str} {cs : Scope} {a₀ : Addr} {ccd : Value} {cl : List (PySem.Str × Addr)} {outer outer1 : List Env} {base g : Heap} {L L₀ : Addr} {m : SMap} {news : List (Addr × Obj)} {s : Shared} {Q : Flow → Shared → Prop}
theorem segC (B : Below (ktrTop dp un gd cn cs L₀ a₀ ccd cl outer) base (envX cn cs L₀ a₀ ccd cl :: outer) g) (X : (hd01.heap_1 w.params).In g) (T : Top VV LL mean mg mb g)
   (hdp : dp + 3 < recursionLimit) (hun : un + 40 < cLine) (N : News g L s.heap news) {x y : PySem.Str} {t u v : Tok} {mc : Int} 
   (F : Fr g L s.heap (putM (putM (putM m (Str.ofString "max_cost") (.int mc v)) (Str.ofString "b") (.str y u)) (Str.ofString "a") (.str x t)))
    (hx : x.length ≤ 1000) (hy : y.length ≤ 1000) (hmc : -1000000 ≤ mc) (hmc2 : mc ≤ 1000000)
    (hret : ∀ (t' : Tok) (h' : Heap) (tk' : Nat) (m' : SMap), Fr g L h' m' → News g L h' news → Q (.ret (.int (lev2 x y mc) t')) { s with heap := h', toks := tk' }) :
  wpAny (model PP w) ((ktrTop dp un gd cn cs L₀ a₀ ccd cl outer).deeper (fnEnv (hd01.heap_1 w.params) (Str.ofString "_levenshtein_distance") 52 L)) (execs ((fnBody (hd01.heap_1 w.params) 52).drop 9) (fnEnv (hd01.heap_1 w.params) (Str.ofString "_levenshtein_distance") 52 L)) (EndQ Q) (fun _ _ => False) s := by
  conv => arg 3; arg 1; whnf
  simp only [fnEnv]
  generalize hsc : fnScope (hd01.heap_1 w.params) 52 = sc
  conv at hsc => lhs; whnf
  subst hsc
  generalize hsc : fnCode (hd01.heap_1 w.params) 52 = sc
  conv at hsc => lhs; whnf
  subst hsc
  (repeat' ((fail_if_success (with_reducible first | show wpAny _ _ (execs (Stmt.Assign [Expr.Name (Str.ofString "row") _] _ _ :: _) _) _ _ _ | show EndQ _ _ _ | show Exit1 _ _ _ _ _ _ _ _ _ | show Turn1 _ _ _ _ _ _ _ _ _ | show TurnN _ _ _ _ _ _ _ _ _ | show wpAny _ _ (pyIter _) _ _ _ | show wpAny _ _ (exec (Stmt.While _ _ _ _) _) _ _ _)); first | (k_unfold; (try dsimp only)) | (k_end; wrow_close) | walk1 | (dsimp only; walk1) | (leave1; walk_say "STEP leave1"; try dsimp only) | fail "no step"))
  all_goals ((with_reducible rename Fr _ _ _ _ => kF); (with_reducible rename News _ _ _ _ => kN); (replace kN := cb_drop (news := news) kN (fun p hp => by simp [hp])))
  all_goals (first
    | (refine endI hret ?_ kF kN; unfold lev2 lev3; (repeat' split) <;> first | rfl | omega | (exfalso; omega))
    | (refine segD B X T hdp hun kN (fr_frm [(Str.ofString "a", .str _ _), (Str.ofString "b", .str _ _), (Str.ofString "max_cost", .int mc _)] kF (by repeat (first | exact trivial | refine ⟨rfl, ?_⟩))) (by omega) (by omega) hmc hmc2 (by omega) ?_
       intro t' h' tk' m' F' N'
       refine endI hret ?_ F' N'
       unfold lev2 lev3
       (repeat' split) <;> first | rfl | omega | (exfalso; omega))
    | trace_state)
end
end Mine
end

section
open PySem PySem.W PySem.Spec PySem.Calls PyProof.Rows
set_option Elab.async false
set_option maxRecDepth 100000
set_option maxHeartbeats 0
set_option pp.deepTerms false
set_option pp.maxSteps 2000
namespace Mine
local macro_rules | `(tactic| walk_at "eval Subscript") => `(tactic| (k_here; k_dflt (refine' sub_orL ?F ?N ?a ?p ?x ?c0 ?c1 ?_; (case F => k_asm); (case N => k_asm); (case a => rfl); (case p => rfl); (case x => omega); (case c0 => omega); (case c1 => omega)); intro _ _ _ _ _ _ _))
section
variable {w : World} {mean : ExcName → Option Value} {mg mb : SMap} {dp un : Nat} {gd : Option (List Code)} {cn : PySem.Str} {cs : Scope} {a₀ : Addr} {ccd : Value} {cl : List (PySem.Str × Addr)} {outer outer1 : List Env} {base g : Heap} {L L₀ : Addr} {m : SMap} {news : List (Addr × Obj)} {s : Shared} {Q : Flow → Shared → Prop}
theorem segB (B : Below (ktrTop dp un gd cn cs L₀ a₀ ccd cl outer) base (envX cn cs L₀ a₀ ccd cl :: outer) g) (X : (hd01.heap_1 w.params).In g) (T : Top VV LL mean mg mb g)
   (hdp : dp + 3 < recursionLimit) (hun : un + 40 < cLine) (N : News g L s.heap news) {x y : PySem.Str} {t u v k : Tok} {mc : Int} 
   (F : Fr g L s.heap (putM (putM (putM (putM m (Str.ofString "max_cost") (.int mc v)) (Str.ofString "b") (.str y u)) (Str.ofString "a") (.str x t)) (Str.ofString "post") (.int 0 k)))
    (hx : x.length ≤ 1000) (hy : y.length ≤ 1000) (hmc : -1000000 ≤ mc) (hmc2 : mc ≤ 1000000)
    (hret : ∀ (t' : Tok) (h' : Heap) (tk' : Nat) (m' : SMap), Fr g L h' m' → News g L h' news → Q (.ret (.int (lev1 x y mc) t')) { s with heap := h', toks := tk' }) :
  wpAny (model PP w) ((ktrTop dp un gd cn cs L₀ a₀ ccd cl outer).deeper (fnEnv (hd01.heap_1 w.params) (Str.ofString "_levenshtein_distance") 52 L)) (execs ((fnBody (hd01.heap_1 w.params) 52).drop 6) (fnEnv (hd01.heap_1 w.params) (Str.ofString "_levenshtein_distance") 52 L)) (EndQ Q) (fun _ _ => False) s := by
  conv => arg 3; arg 1; whnf
  simp only [fnEnv]
  generalize hsc : fnScope (hd01.heap_1 w.params) 52 = sc
  conv at hsc => lhs; whnf
  subst hsc
  generalize hsc : fnCode (hd01.heap_1 w.params) 52 = sc
  conv at hsc => lhs; whnf
  subst hsc
  (repeat' ((fail_if_success (with_reducible first | show wpAny _ _ (execs (Stmt.If (Expr.BoolOp BoolOp.Or [Expr.UnaryOp UnaryOp.Not _ _, _] _) _ _ _ :: _) _) _ _ _ | show EndQ _ _ _ | show Exit1 _ _ _ _ _ _ _ _ _ | show Turn1 _ _ _ _ _ _ _ _ _ | show TurnN _ _ _ _ _ _ _ _ _ | show wpAny _ _ (pyIter _) _ _ _ | show wpAny _ _ (exec (Stmt.While _ _ _ _) _) _ _ _)); first | (k_unfold; (try dsimp only)) | (k_end; wrow_close) | walk1 | (dsimp only; walk1) | (leave1; walk_say "STEP leave1"; try dsimp only) | fail "no step"))
  refine while1 (Str.ofString "post") (fun k => k ≤ 0 ∧ 0 ≤ x.length + k ∧ 0 ≤ y.length + k ∧ (sfx x y 0 : Int) = -k + sfx x y (-k).toNat) (fun k => sfx x y (-k).toNat = 0) (fun k => (x.length + k).toNat) F N rfl (by refine ⟨?_, ?_, ?_, ?_⟩ <;> simp) ?_ ?_ .never
  · intro k tk h1 tk1 hP kF1 kN1
    obtain ⟨hk0, hk1, hk2, hk3⟩ := hP
    clear F N
    (repeat' ((fail_if_success (with_reducible first | show wpAny _ _ (execs (Stmt.If (Expr.BoolOp BoolOp.Or [Expr.UnaryOp UnaryOp.Not _ _, _] _) _ _ _ :: _) _) _ _ _ | show EndQ _ _ _ | show Exit1 _ _ _ _ _ _ _ _ _ | show Turn1 _ _ _ _ _ _ _ _ _ | show TurnN _ _ _ _ _ _ _ _ _ | show wpAny _ _ (pyIter _) _ _ _ | show wpAny _ _ (exec (Stmt.While _ _ _ _) _) _ _ _)); first | (k_unfold; (try dsimp only)) | (k_end; wrow_close) | walk1 | (dsimp only; walk1) | (leave1; walk_say "STEP leave1"; try dsimp only) | fail "no step"))
    all_goals ((with_reducible rename Fr _ _ _ _ => kF); (with_reducible rename News _ _ _ _ => kN))
    · refine turn1_end kF kN ?_
      have h := sfx_turn (x := x) (y := y) hk0 (by omega) (by omega)
      rw [if_pos (by assumption)] at h
      refine ⟨⟨?_, ?_, ?_, ?_⟩, ?_⟩ <;> omega
    all_goals (refine exit1_end kF kN ?_)
    · have h := sfx_turn (x := x) (y := y) hk0 (by omega) (by omega)
      rw [if_neg (by rw [show (Txt.item x (k - 1) == Txt.item y (k - 1)) = false by assumption]; decide)] at h
      exact h
    · exact sfx_end2 hk0 (by omega)
    · exact sfx_end1 hk0 (by omega)
  intro k tk h1 tk1 hP hR kF1 kN1
  clear F N
  obtain ⟨hk0, hk1, hk2, hk3⟩ := hP
  dsimp only
  (repeat' ((fail_if_success (with_reducible first | show wpAny _ _ (execs (Stmt.If (Expr.BoolOp BoolOp.Or [Expr.UnaryOp UnaryOp.Not _ _, _] _) _ _ _ :: _) _) _ _ _ | show EndQ _ _ _ | show Exit1 _ _ _ _ _ _ _ _ _ | show Turn1 _ _ _ _ _ _ _ _ _ | show TurnN _ _ _ _ _ _ _ _ _ | show wpAny _ _ (pyIter _) _ _ _ | show wpAny _ _ (exec (Stmt.While _ _ _ _) _) _ _ _)); first | (k_unfold; (try dsimp only)) | (k_end; wrow_close) | walk1 | (dsimp only; walk1) | (leave1; walk_say "STEP leave1"; try dsimp only) | fail "no step"))
  (with_reducible rename Fr _ _ _ _ => kF); (with_reducible rename News _ _ _ _ => kN)
  have e : k = -(sfx x y 0 : Int) := by omega
  refine segC B X T hdp hun kN (fr_frm [(Str.ofString "a", .str _ _), (Str.ofString "b", .str _ _), (Str.ofString "max_cost", .int mc _)] kF (by repeat (first | exact trivial | refine ⟨rfl, ?_⟩))) (by assumption) (by assumption) hmc hmc2 ?_
  intro t' h' tk' m' F' N'
  exact endI hret (by unfold lev1; rw [e]) F' N'
end
end Mine
end

section
open PySem PySem.W PySem.Spec PySem.Calls PyProof.Rows
set_option Elab.async false
set_option maxRecDepth 100000
set_option maxHeartbeats 0
set_option pp.deepTerms false
set_option pp.maxSteps 2000
namespace Mine
section
variable {w : World} {mean : ExcName → Option Value} {mg mb : SMap} {dp un : Nat} {gd : Option (List Code)} {cn : PySem.Str} {cs : Scope} {a₀ : Addr} {ccd : Value} {cl : List (PySem.Str × Addr)} {outer outer1 : List Env} {base g : Heap} {L L₀ : Addr} {m : SMap} {news : List (Addr × Obj)} {s : Shared} {Q : Flow → Shared → Prop}

theorem lev_c {L a : Addr} {h₀ : Heap} {A₀ : Around} {Q E : Value → Shared → Prop} {x y : PySem.Str} {t u v : Tok} {mc : Int}
    (B : Below A₀ base outer h₀) (F : Fr h₀ L s.heap m) (X : (hd01.heap_1 w.params).In h₀) (N : News h₀ L s.heap news) (T : Top VV LL mean mg mb h₀) (hk : cs.kind = .function)
    (hx : x.length ≤ 1000) (hy : y.length ≤ 1000) (hmc : -1000000 ≤ mc) (hmc2 : mc ≤ 1000000) (hdp : dp + 4 < recursionLimit) (hun : un + 50 < cLine)
    (hret : ∀ (t' : Tok) (h' : Heap) (tk' : Nat), Fr h₀ L h' m → News h₀ L h' news → Q (.int (lev x y mc) t') { s with heap := h', toks := tk' }) :
    wpAny (model PP w) (ktrTop dp un gd cn cs L a ccd cl outer) (call (.ref 52) [.str x t, .str y u, .int mc v]) Q E s := by
  refine wpAny_noRaise ?_
  refine wpAny_call ?_
  k_dflt ktr_enter
  refine wpAny_noRaise ?_
  (repeat' ((fail_if_success (with_reducible first | show wpAny _ _ (execs (Stmt.While (Expr.BoolOp BoolOp.And (Expr.Subscript _ (Expr.Slice none _ _ _) _ :: _) _) _ _ _ :: _) _) _ _ _ | show EndQ _ _ _ | show Exit1 _ _ _ _ _ _ _ _ _ | show Turn1 _ _ _ _ _ _ _ _ _ | show TurnN _ _ _ _ _ _ _ _ _ | show wpAny _ _ (pyIter _) _ _ _ | show wpAny _ _ (exec (Stmt.While _ _ _ _) _) _ _ _)); first | (k_unfold; (try dsimp only)) | (k_end; wrow_close) | walk1 | (dsimp only; walk1) | (leave1; walk_say "STEP leave1"; try dsimp only) | fail "no step"))
  · exact cb_retI hret (by unfold lev; rw [if_pos (by simp_all)]) (by k_asm) (by k_asm)
  (with_reducible rename Fr _ _ _ _ => kF); (with_reducible rename News _ _ _ _ => kN)
  refine while1 (Str.ofString "pre") (fun k => 0 ≤ k ∧ k ≤ x.length ∧ k ≤ y.length ∧ (pfx x y 0 : Int) = k + pfx x y k.toNat) (fun k => pfx x y k.toNat = 0) (fun k => (x.length - k).toNat) kF kN rfl (by refine ⟨?_, ?_, ?_, ?_⟩ <;> simp) ?_ ?_ .never
  · intro k tk h1 tk1 hP kF1 kN1
    obtain ⟨hk0, hk1, hk2, hk3⟩ := hP
    have hl1 := slice_from_len hk0 hk1
    have hl2 := slice_from_len hk0 hk2
    clear kF kN
    (repeat' ((fail_if_success (with_reducible first | show wpAny _ _ (execs (Stmt.While (Expr.BoolOp BoolOp.And (Expr.Subscript _ (Expr.Slice none _ _ _) _ :: _) _) _ _ _ :: _) _) _ _ _ | show EndQ _ _ _ | show Exit1 _ _ _ _ _ _ _ _ _ | show Turn1 _ _ _ _ _ _ _ _ _ | show TurnN _ _ _ _ _ _ _ _ _ | show wpAny _ _ (pyIter _) _ _ _ | show wpAny _ _ (exec (Stmt.While _ _ _ _) _) _ _ _)); first | (k_unfold; (try dsimp only)) | (k_end; wrow_close) | walk1 | (dsimp only; walk1) | (leave1; walk_say "STEP leave1"; try dsimp only) | fail "no step"))
    all_goals ((with_reducible rename Fr _ _ _ _ => kF); (with_reducible rename News _ _ _ _ => kN))
    · refine turn1_end kF kN ?_
      have h := pfx_turn (x := x) (y := y) hk0 (by omega) (by omega)
      rw [if_pos (by assumption)] at h
      refine ⟨⟨?_, ?_, ?_, ?_⟩, ?_⟩ <;> omega
    all_goals (refine exit1_end kF kN ?_)
    · have h := pfx_turn (x := x) (y := y) hk0 (by omega) (by omega)
      rw [if_neg (by rw [show (Txt.item x k == Txt.item y k) = false by assumption]; decide)] at h
      exact h
    · exact pfx_end2 hk0 (by omega)
    · exact pfx_end1 hk0 (by omega)
  intro k tk h1 tk1 hP hR kF1 kN1
  clear kF kN
  obtain ⟨hk0, hk1, hk2, hk3⟩ := hP
  have hl1 := slice_from_len hk0 hk1
  have hl2 := slice_from_len hk0 hk2
  dsimp only
  (repeat' ((fail_if_success (with_reducible first | show wpAny _ _ (execs (Stmt.While (Expr.BoolOp BoolOp.And (Expr.Subscript _ (Expr.Slice none _ _ _) _ :: _) _) _ _ _ :: _) _) _ _ _ | show EndQ _ _ _ | show Exit1 _ _ _ _ _ _ _ _ _ | show Turn1 _ _ _ _ _ _ _ _ _ | show TurnN _ _ _ _ _ _ _ _ _ | show wpAny _ _ (pyIter _) _ _ _ | show wpAny _ _ (exec (Stmt.While _ _ _ _) _) _ _ _)); first | (k_unfold; (try dsimp only)) | (k_end; wrow_close) | walk1 | (dsimp only; walk1) | (leave1; walk_say "STEP leave1"; try dsimp only) | fail "no step"))
  (with_reducible rename Fr _ _ _ _ => kF); (with_reducible rename News _ _ _ _ => kN)
  have e : k = (pfx x y 0 : Int) := by omega
  refine segB (Q := qk) (by k_asm) (by k_asm) (by k_asm) (by omega) (by omega) kN (fr_frm [(Str.ofString "post", .int 0 _), (Str.ofString "a", .str _ _), (Str.ofString "b", .str _ _), (Str.ofString "max_cost", .int mc _)] kF (by repeat (first | exact trivial | refine ⟨rfl, ?_⟩))) (by omega) (by omega) hmc hmc2 ?_
  intro t' h' tk' m' F' N'
  (repeat' ((fail_if_success (with_reducible first | show wpAny _ _ (execs (Stmt.While (Expr.BoolOp BoolOp.And (Expr.Subscript _ (Expr.Slice none _ _ _) _ :: _) _) _ _ _ :: _) _) _ _ _ | show EndQ _ _ _ | show Exit1 _ _ _ _ _ _ _ _ _ | show Turn1 _ _ _ _ _ _ _ _ _ | show TurnN _ _ _ _ _ _ _ _ _ | show wpAny _ _ (pyIter _) _ _ _ | show wpAny _ _ (exec (Stmt.While _ _ _ _) _) _ _ _)); first | (k_unfold; (try dsimp only)) | (k_end; wrow_close) | walk1 | (dsimp only; walk1) | (leave1; walk_say "STEP leave1"; try dsimp only) | fail "no step"))
  exact cb_retI hret (by unfold lev; rw [if_neg (beq_eq_false_iff_ne.mp (show (x == y) = false by assumption)), ← e]) (by k_asm) (by k_asm)
end
end Mine
end

section
local macro_rules | `(tactic| walk_at "truthy ref") => `(tactic| (k_here; (with_reducible show wpAny _ _ (truthy (Value.ref _)) _ _ _); k_dflt (refine' truthy_cons ?N ?m ?z ?_; (case N => k_asm); (case m => k_mem); (case z => assumption))))
local macro_rules | `(tactic| walk_at "call builtin:list.pop") => `(tactic| (k_here; k_dflt (refine' pop0 ?F ?N ?U ?z ?_; (case F => k_asm); (case N => k_asm); (case U => k_upd); (case z => assumption)); kl_rest))
local macro_rules | `(tactic| walk_at "RESTNE") => `(tactic| (rename AllLt _ _ => hx9; first | exact all_of_AllLt hx9 (by omega) | (clear hx9; walk_at "RESTNE")))
local macro_rules | `(tactic| walk_at "ALMONO") => `(tactic| (rename AllLt _ _ => hx9; first | exact allLt_mono hx9 (by omega) | (clear hx9; walk_at "ALMONO")))
local macro_rules | `(tactic| k_all) => `(tactic| ((repeat (rename _ ∧ _ => hcj; obtain ⟨_, _⟩ := hcj)); walk_at "RESTNE"))
local macro_rules | `(tactic| walk_at "call type:list") => `(tactic| (k_here; (with_reducible show wpAny _ _ (call (Value.type _) [Value.str _ _]) _ _ _); (refine' list_text rfl ?F ?N ?sm ?_; (case F => k_asm); (case N => k_asm); (case sm => omega)); intro l' h' tk' vs' k' F' N' hi' hl'; (try k_lt hl')))
local macro_rules | `(tactic| k_room) => `(tactic| ((try simp only [depth_under_make, depth_under_kw, depth_in1, depth_deeper, depth_caller]); (try dsimp only [ktrTop]); omega))
local macro_rules | `(tactic| walk_at "ENTERB") => `(tactic| (refine' code_def ?k1 ?k2 ?k3 ?k4 ?k5 ?kA ?kF ?kK ?k6 ?k7 ?k8 ?k9 ?kB ?_ ?c2 ?c3 ?c4 ?c5; (case kA => exact rfl); (case kF => exact rfl); (case kK => first | exact rfl | assumption); (case k1 => k_asm); (case k2 => k_asm); (case k3 => k_asm); (case k4 => k_asm); (case k5 => k_asm); (case k6 => k_is); (case k7 => k_is); (case k8 => k_room); (case k9 => first | exact BindsTo.of_eq rfl | exact binds_K (by k_in) rfl (by k_is) rfl rfl rfl); (case c5 => decide); (case kB => exact locs rfl); (case c2 => exact rfl); (case c3 => exact rfl); (case c4 => exact rfl); k_whole; intro g' L' h' FG' F' N' B' X' T'; (try dsimp only); (try k_fold)))
local macro_rules | `(tactic| walk_at "CompEnd") => `(tactic| ((with_reducible rename Fr _ _ _ _ => cF'); (with_reducible rename News _ _ _ _ => cN'); (first | refine' cend0 cF' cN' ?off ?src ?_ | refine' cend1 cF' cN' ?off ?src ?_ | refine' cend2 cF' cN' ?off ?src ?_); (case off => first | assumption | (refine And.intro ?_ ?_ <;> assumption)); (case src => lcg_src); (clear cF' cN')))
local macro_rules | `(tactic| walk_at "CompSrc") => `(tactic| (k_here; k_dflt (first
  | (refine LCg.CompSrc.ledger (by rfl) (by k_asm) (by k_asm) (by k_mem) (by first | size_fits | exact Nat.le_of_ble_eq_true rfl) ?_; intro g'; lcg_lit)
  | (refine LCg.CompSrc.range (by rfl) (by k_asm) (by k_asm) (by assumption) (by first | decide | rfl) (by first | rfl | decide) (by first | size_fits | exact Nat.le_of_ble_eq_true rfl) ?_; intro g'; lcg_lit))))
local macro_rules | `(tactic| walk_at "ENTERC") => `(tactic| (refine' code_defC ?k1 ?k2 ?k3 ?k4 ?k5 ?kA ?kF ?kK ?k6 ?k7 ?k8 ?k9 ?kB ?kD ?_ ?c2 ?c3 ?c4; (case kA => exact rfl); (case kF => exact rfl); (case kK => first | exact rfl | assumption); (case k1 => k_asm); (case k2 => k_asm); (case k3 => k_asm); (case k4 => k_asm); (case k5 => k_asm); (case k6 => k_is); (case k7 => k_is); (case k8 => first | k_room | ktr_room); (case k9 => exact BindsTo.of_eq rfl); (case kB => exact rfl); (case kD => decide +kernel); (case c2 => exact rfl); (case c3 => exact rfl); (case c4 => exact rfl); k_whole; intro g' L' h' tk' cells' FG' F' N' Y' B' X' T' l1; (try k_lt l1); k_cells Y'; (try simp only [List.cons_append, List.nil_append] at N'); (try dsimp only); (try k_lift B'); (try k_fold)))

section
open PySem PySem.W PySem.Spec PySem.Calls PyProof.Rows
set_option Elab.async false
set_option maxRecDepth 100000
set_option maxHeartbeats 0
set_option pp.deepTerms false
set_option pp.maxSteps 2000
namespace Mine
local macro_rules | `(tactic| walk_at "NONE") => `(tactic| skip)
local macro_rules | `(tactic| walk_at "exec For Name Name") => `(tactic| (k_here; (with_reducible show wpAny _ _ (exec (Stmt.For _ _ _ [] _) _) _ _ _); (rename Fr _ _ _ _ => lF'); (with_unfolding_all refine' For_invVF lF' ?k1 ?k2 ?_; (case k1 => exact rfl); (case k2 => exact rfl); k_whole)))
section
variable {w : World} {mean : ExcName → Option Value} {mg mb : SMap} {dp un : Nat} {gd : Option (List Code)} {cn : PySem.Str} {cs : Scope} {a₀ : Addr} {ccd : Value} {cl : List (PySem.Str × Addr)} {outer outer1 : List Env} {base g : Heap} {L L₀ : Addr} {m : SMap} {news : List (Addr × Obj)} {s : Shared} {Q : Flow → Shared → Prop}

theorem escs_len : ∀ l : List Nat, (l.flatMap escL).length ≤ 2 * l.length
  | [] => by simp
  | c :: r => by
    have := escs_len r
    have h : (escL c).length ≤ 2 := by unfold escL; split <;> simp
    rw [List.flatMap_cons, List.length_append, List.length_cons]; omega
theorem cb_drop1' {h₀ h : Heap} {L : Addr} {e1 : Addr × Obj} {r : List (Addr × Obj)} (N : News h₀ L h (e1 :: r)) : News h₀ L h r := fun p hp => N p (List.mem_cons_of_mem _ hp)
theorem cb_drop2' {h₀ h : Heap} {L : Addr} {e1 e2 : Addr × Obj} {r : List (Addr × Obj)} (N : News h₀ L h (e1 :: e2 :: r)) : News h₀ L h r := fun p hp => N p (List.mem_cons_of_mem _ (List.mem_cons_of_mem _ hp))
theorem lwt_c {L a : Addr} {h₀ : Heap} {A₀ : Around} {Q E : Value → Shared → Prop} {n : Int} {tn t : Tok} {c0 c1 c2 : Nat}
    (B : Below A₀ base outer h₀) (F : Fr h₀ L s.heap m) (X : (hd01.heap_1 w.params).In h₀) (N : News h₀ L s.heap (news)) (T : Top VV LL mean mg mb h₀) (hk : cs.kind = .function)
   (hdp : dp + 22 < recursionLimit) (hun : un + 180 < cLine)
    (hret : ∀ (t' : Tok) (h' : Heap) (tk' : Nat), Fr h₀ L h' m → News h₀ L h' news → Q (.str (S (wrtL c0 c1 c2 n)) t') { s with heap := h', toks := tk' })
    :
    wpAny (model PP w) (ktrTop dp un gd cn cs L a ccd cl outer) (call (.ref 261) [.str ⟨#[c0, c1, c2]⟩ t, .int n tn]) Q E s := by
  refine wpAny_noRaise ?_
  refine wpAny_call ?_
  k_dflt ktr_enter
  refine wpAny_noRaise ?_
  (repeat' ((fail_if_success (with_reducible first | show NilAt _ _ _ _ _ _ _ _ _ | show UnrEnd _ _ _ _ _ _ _ | show UnrPost _ _ _ _ _ _ _ _ _ | show EndQ _ _ _ | show Exit1 _ _ _ _ _ _ _ _ _ | show Turn1 _ _ _ _ _ _ _ _ _ | show TurnN _ _ _ _ _ _ _ _ _ | show wpAny _ _ (pyIter _) _ _ _ | show wpAny _ _ (exec (Stmt.While _ _ _ _) _) _ _ _)); first | (k_unfold; (try dsimp only)) | (k_end; wrow_close) | walk1 | (dsimp only; walk1) | (leave1; walk_say "STEP leave1"; try dsimp only) | fail "no step"))
  (rename Fr _ _ _ _ => lF')
  (rename News _ _ _ _ => lN')
  refine iter_strUnr (l := [⟨#[c0]⟩, ⟨#[c1]⟩, ⟨#[c2]⟩]) (by rfl) lF' lN' (by rfl) ?_
  intro i' l1
  refine strRest_ind (fun i m₁ news₁ => ∃ (tl : List Nat) (tt : Tok) (m' : SMap), m₁ = frm [(Str.ofString "text", .str (S tl) tt), (Str.ofString "number", .int n tn)] m' ∧ news₁ = news ∧ tl = ([c0, c1, c2].take i).flatMap escL) _ ?turn ?done _ 0 _ _ rfl (Nat.zero_le _) ⟨[], _, _, frm_eq ⟨rfl, rfl, trivial⟩, rfl, rfl⟩
  case turn =>
    clear lF' lN'
    rintro i c m₁ news₁ hc ⟨tl, tt, m', rfl, rfl, htl⟩ u it h9 tk9 F9 N9
    have hi3 : i < 3 := (List.getElem?_eq_some_iff.1 hc).1
    obtain ⟨d, rfl, hd⟩ : ∃ d, c = ⟨#[d]⟩ ∧ [c0, c1, c2][i]? = some d := by
      rcases i with _ | _ | _ | i
      · exact ⟨c0, (Option.some.inj hc).symm, rfl⟩
      · exact ⟨c1, (Option.some.inj hc).symm, rfl⟩
      · exact ⟨c2, (Option.some.inj hc).symm, rfl⟩
      · omega
    have hlen : (S tl).length ≤ 6 := by
      have h := escs_len ([c0, c1, c2].take i)
      rw [List.length_take] at h
      rw [S_len, htl]
      simp only [List.length_cons, List.length_nil] at h
      omega
    have ht1 : ([c0, c1, c2].take (i + 1)).flatMap escL = tl ++ escL d := by
      rw [List.take_add_one, hd, List.flatMap_append, ← htl]; simp
    clear htl
    have s1 : (⟨#[d]⟩ : PySem.Str).length = 1 := rfl
    have e0 : Str.ofString "\\" = S [92] := by decide
    have a1 : S tl ++ Str.ofString "\\" ++ ⟨#[d]⟩ = S (tl ++ [92, d]) := by
      rw [e0, show (⟨#[d]⟩ : PySem.Str) = S [d] from rfl, S_app, S_app, List.append_assoc]; rfl
    have a2 : S tl ++ ⟨#[d]⟩ = S (tl ++ [d]) := by rw [show (⟨#[d]⟩ : PySem.Str) = S [d] from rfl, S_app]
    generalize hxt : S tl = xt at F9 hlen a1 a2
    (repeat' ((fail_if_success (with_reducible first | show NilAt _ _ _ _ _ _ _ _ _ | show UnrEnd _ _ _ _ _ _ _ | show UnrPost _ _ _ _ _ _ _ _ _ | show EndQ _ _ _ | show Exit1 _ _ _ _ _ _ _ _ _ | show Turn1 _ _ _ _ _ _ _ _ _ | show TurnN _ _ _ _ _ _ _ _ _ | show wpAny _ _ (pyIter _) _ _ _ | show wpAny _ _ (exec (Stmt.While _ _ _ _) _) _ _ _)); first | (k_unfold; (try dsimp only)) | (k_end; wrow_close) | walk1 | (dsimp only; walk1) | (leave1; walk_say "STEP leave1"; try dsimp only) | fail "no step"))
    · have he : escL d = [d] := by
        unfold escL
        simp only [*, if_true, if_false, Bool.false_eq_true]
      (with_reducible rename Fr _ _ _ _ => kF)
      (with_reducible rename News _ _ _ _ => kN)
      rw [a2] at kF
      exact ⟨_, _, _, news₁, rfl, kF, kN, fun p hp => Nat.ne_of_lt (l1 p hp), tl ++ escL d, _, _, frm_eq ⟨by rw [he]; rfl, rfl, trivial⟩, rfl, ht1.symm⟩
    · have he : escL d = [92, d] := by
        unfold escL
        simp only [*, if_true, if_false, Bool.false_eq_true]
      (with_reducible rename Fr _ _ _ _ => kF)
      (with_reducible rename News _ _ _ _ => kN)
      rw [a1] at kF
      exact ⟨_, _, _, news₁, rfl, kF, kN, fun p hp => Nat.ne_of_lt (l1 p hp), tl ++ escL d, _, _, frm_eq ⟨by rw [he]; rfl, rfl, trivial⟩, rfl, ht1.symm⟩
  case done =>
    clear lF' lN'
    rintro m₁ news₁ h9 tk9 ⟨tl, tt, m', rfl, rfl, htl⟩ F9 N9
    have hlen : (S tl).length ≤ 6 := by
      have h := escs_len [c0, c1, c2]
      rw [S_len, htl]
      exact h
    have htl2 : tl = escL c0 ++ escL c1 ++ escL c2 := by rw [htl]; simp
    clear htl
    have e0 : Str.ofString "\"" = S [34] := by decide
    have e1 : Str.ofString "\n" = S [10] := by decide
    have a1 : Str.ofString "\"" ++ S tl ++ Str.ofString "\"" = S ([34] ++ tl ++ [34]) := by rw [e0, S_app, S_app]
    have a2 : S tl ++ Str.ofString "\n" = S (tl ++ [10]) := by rw [e1, S_app]
    generalize hxt : S tl = xt at F9 hlen a1 a2
    (repeat' ((fail_if_success (with_reducible first | show NilAt _ _ _ _ _ _ _ _ _ | show UnrEnd _ _ _ _ _ _ _ | show UnrPost _ _ _ _ _ _ _ _ _ | show EndQ _ _ _ | show Exit1 _ _ _ _ _ _ _ _ _ | show Turn1 _ _ _ _ _ _ _ _ _ | show TurnN _ _ _ _ _ _ _ _ _ | show wpAny _ _ (pyIter _) _ _ _ | show wpAny _ _ (exec (Stmt.While _ _ _ _) _) _ _ _)); first | (k_unfold; (try dsimp only)) | (k_end; wrow_close) | walk1 | (dsimp only; walk1) | (leave1; walk_say "STEP leave1"; try dsimp only) | fail "no step"))
    all_goals (
      (with_reducible rename Fr h₀ _ _ _ => kF)
      (with_reducible rename News h₀ _ _ _ => kN)
      refine q_str ?_ (hret _ _ _ kF kN)
      unfold wrtL
      rw [← htl2]
      first
      | (rw [if_pos (by assumption)]; exact a1)
      | (rw [if_neg (by assumption)]; exact a2))
end
end Mine
end

section
open PySem PySem.W PySem.Spec PySem.Calls PyProof.Rows
set_option Elab.async false
set_option maxRecDepth 100000
set_option maxHeartbeats 0
set_option pp.deepTerms false
set_option pp.maxSteps 2000
namespace Mine
section
variable {w : World} {mean : ExcName → Option Value} {mg mb : SMap} {dp un : Nat} {gd : Option (List Code)} {cn : PySem.Str} {cs : Scope} {a₀ : Addr} {ccd : Value} {cl : List (PySem.Str × Addr)} {outer outer1 : List Env} {base g : Heap} {L L₀ : Addr} {m : SMap} {news : List (Addr × Obj)} {s : Shared} {Q : Flow → Shared → Prop}

theorem cb_drop2 {h₀ h : Heap} {L : Addr} {e1 e2 : Addr × Obj} {r : List (Addr × Obj)} (N : News h₀ L h (e1 :: e2 :: r)) : News h₀ L h r := fun p hp => N p (List.mem_cons_of_mem _ (List.mem_cons_of_mem _ hp))
theorem lw_c {L a : Addr} {h₀ : Heap} {A₀ : Around} {Q E : Value → Shared → Prop} {n : Int} {tn : Tok}
    (B : Below A₀ base outer h₀) (F : Fr h₀ L s.heap m) (X : (hd01.heap_1 w.params).In h₀) (N : News h₀ L s.heap (news)) (T : Top VV LL mean mg mb h₀) (hk : cs.kind = .function)
   (hdp : dp + 22 < recursionLimit) (hun : un + 180 < cLine)
    (hret : ∀ (t' : Tok) (h' : Heap) (tk' : Nat), Fr h₀ L h' m → News h₀ L h' news → Q (.str (lwF n) t') { s with heap := h', toks := tk' }) :
    wpAny (model PP w) (ktrTop dp un gd cn cs L a ccd cl outer) (call (.ref 254) [.int n tn]) Q E s := by
  refine wpAny_noRaise ?_
  refine wpAny_call ?_
  k_dflt (walk_at "ENTERC")
  refine wpAny_noRaise ?_
  (repeat' ((fail_if_success (with_reducible first | show NilAt _ _ _ _ _ _ _ _ _ | show EndQ _ _ _ | show Exit1 _ _ _ _ _ _ _ _ _ | show Turn1 _ _ _ _ _ _ _ _ _ | show TurnN _ _ _ _ _ _ _ _ _ | show wpAny _ _ (pyIter _) _ _ _ | show wpAny _ _ (exec (Stmt.While _ _ _ _) _) _ _ _)); first | (k_unfold; (try dsimp only)) | (k_end; wrow_close) | walk1 | (dsimp only; walk1) | (leave1; walk_say "STEP leave1"; try dsimp only) | fail "no step"))
  (with_reducible rename Fr h₀ _ _ _ => kF)
  (with_reducible rename News h₀ _ _ _ => kN)
  exact hret _ _ _ kF (cb_drop2 kN)
end
end Mine
end

section
open PySem PySem.W PySem.Spec PySem.Calls PyProof.Rows
set_option Elab.async false
set_option maxRecDepth 100000
set_option maxHeartbeats 0
set_option pp.deepTerms false
set_option pp.maxSteps 2000
namespace Mine
section
variable {w : World} {mean : ExcName → Option Value} {mg mb : SMap} {dp un : Nat} {gd : Option (List Code)} {cn : PySem.Str} {cs : Scope} {a₀ : Addr} {ccd : Value} {cl : List (PySem.Str × Addr)} {outer outer1 : List Env} {base g : Heap} {L L₀ : Addr} {m : SMap} {news : List (Addr × Obj)} {s : Shared} {Q : Flow → Shared → Prop}

theorem lexer_c {L a : Addr} {h₀ : Heap} {A₀ : Around} {Q E : Value → Shared → Prop} {x : PySem.Str} {t : Tok}
    (B : Below A₀ base outer h₀) (F : Fr h₀ L s.heap m) (X : (hd01.heap_1 w.params).In h₀) (N : News h₀ L s.heap ((244, tabObj #[]) :: news)) (T : Top VV LL mean mg mb h₀) (hk : cs.kind = .function)
    (hC : CodeHd base 248 244) (hoff : ∀ p ∈ news, p.1 ≠ 244) (h244 : 244 < L)
    (hx : x.length ≤ 1000) (hdp : dp + 4 < recursionLimit) (hun : un + 50 < cLine)
    (hret : ∀ (Y : LexA) (tl : Tok) (vs : List Value) (k : Nat) (h' : Heap) (tk' : Nat), LexOk Y → StrsAre vs (chs x.cps.toList) → AllLt Y.cell news → @LT.lt Nat _ 244 Y.cell → Fr h₀ L h' m → News h₀ L h' (lexE w Y 1 tl [] 0 vs k ++ (244, lexT Y.crd Y.cfd) :: news) → Q (.ref Y.x) { s with heap := h', toks := tk' }) :
    wpAny (model PP w) (ktrTop dp un gd cn cs L a ccd cl outer) (call (.ref 249) [.str x t]) Q E s := by
  refine wpAny_noRaise ?_
  refine wpAny_call ?_
  k_dflt (walk_at "ENTERC")
  refine wpAny_noRaise ?_
  all_goals ((repeat' ((fail_if_success (with_reducible first | show EndQ _ _ _ | show Exit1 _ _ _ _ _ _ _ _ _ | show Turn1 _ _ _ _ _ _ _ _ _ | show TurnN _ _ _ _ _ _ _ _ _ | show wpAny _ _ (pyIter _) _ _ _ | show wpAny _ _ (exec (Stmt.While _ _ _ _) _) _ _ _)); first | (k_unfold; (try dsimp only)) | (k_end; wrow_close) | walk1 | (dsimp only; walk1) | (leave1; walk_say "STEP leave1"; try dsimp only) | fail "no step")))
  k_here
  (with_reducible rename Fr _ _ _ _ => kF)
  (with_reducible rename News _ _ _ _ => kN)
  refine' set_fn (pre := []) kF kN (fun _ => rfl) rfl rfl (fun _ h => by cases h) tl_fn_read (fun p hp => by cases hp) ?h2 ?_
  case h2 => k_all
  intro d' h' tk1 tk2 F' N' hl'
  (try simp only [List.nil_append] at N' hl')
  (try k_lt hl')
  dsimp only
  (repeat' ((fail_if_success (with_reducible first | show EndQ _ _ _ | show Exit1 _ _ _ _ _ _ _ _ _ | show Turn1 _ _ _ _ _ _ _ _ _ | show TurnN _ _ _ _ _ _ _ _ _ | show wpAny _ _ (pyIter _) _ _ _ | show wpAny _ _ (exec (Stmt.While _ _ _ _) _) _ _ _)); first | (k_unfold; (try dsimp only)) | (k_end; wrow_close) | walk1 | (dsimp only; walk1) | (leave1; walk_say "STEP leave1"; try dsimp only) | fail "no step"))
  (with_reducible rename Fr h₀ _ _ _ => kF)
  (with_reducible rename News h₀ _ _ _ => kN)
  (with_reducible rename StrsAre _ _ => kS)
  refine hret ⟨_, _, _, _, _, _, _, _, _, _, _, _, _, _, _, _, _, _, _, _, _, _, _⟩ _ _ _ _ _ ?ok kS ?al ?lt kF kN
  case al =>
    (repeat (rename _ ∧ _ => hcj; obtain ⟨_, _⟩ := hcj))
    dsimp only
    walk_at "ALMONO"
  case lt => dsimp only; omega
  case ok =>
    refine ⟨?o1, ?o2, rfl, rfl, ⟨_, rfl⟩, ⟨_, _, by assumption, by assumption⟩, by assumption⟩
    case o1 => dsimp only; omega
    case o2 => dsimp only; omega

end
end Mine
end

section
open PySem PySem.W PySem.Spec PySem.Calls PyProof.Rows
set_option Elab.async false
set_option maxRecDepth 100000
set_option maxHeartbeats 0
set_option pp.deepTerms false
set_option pp.maxSteps 2000
namespace Mine
section
variable {w : World} {mean : ExcName → Option Value} {mg mb : SMap} {dp un : Nat} {gd : Option (List Code)} {cn : PySem.Str} {cs : Scope} {a₀ : Addr} {ccd : Value} {cl : List (PySem.Str × Addr)} {outer outer1 : List Env} {base g : Heap} {L L₀ : Addr} {m : SMap} {news : List (Addr × Obj)} {s : Shared} {Q : Flow → Shared → Prop}

theorem rcC {L a : Addr} {h₀ : Heap} {A₀ : Around} {Q : Value → Shared → Prop} {Y : LexA} {ln : Int} {tl : Tok} {pvs lvs : List Value} {pk lk : Nat} {l : List Nat} {N0 : Int}
    (B : Below A₀ base outer h₀) (F : Fr h₀ L s.heap m) (X : (hd01.heap_1 w.params).In h₀) (N : News h₀ L s.heap (lexE w Y ln tl pvs pk lvs lk ++ news)) (T : Top VV LL mean mg mb h₀) (hk : cs.kind = .function)
   (hC : CodeHd base 248 244) (hY : LexOk Y) (ho1 : ∀ p ∈ news, p.1 ≠ Y.pb) (ho2 : ∀ p ∈ news, p.1 ≠ Y.dx) (ho3 : ∀ p ∈ news, p.1 ≠ Y.lf) (hS : StrsAre lvs (chs l)) (hl : l.length ≤ 1000) (hln : LnOk N0 ln l)
    (hdp : dp + 6 < recursionLimit) (hun : un + 50 < cLine)
    (hret : ∀ (ln' : Int) (tl' : Tok) (lvs' : List Value) (lk' : Nat) (t' : Tok) (h' : Heap) (tk' : Nat), LnOk N0 ln' l.tail → StrsAre lvs' (chs l.tail) → Fr h₀ L h' m →
      News h₀ L h' (lexE w Y ln' tl' pvs pk lvs' lk' ++ news) → Q (.str (S (l.take 1)) t') { s with heap := h', toks := tk' }) :
    codeAny (model PP w) (ktrTop dp un gd cn cs L a ccd cl outer) (.call (.ref 73) ⟨[.ref Y.x], []⟩) (fun r s' => match r with | .ok (.ret v) => Q v s' | .ok _ => False | .error _ => False) s := by
  obtain ⟨pb, x, dx, d, fd, cfd, rd, crd, lf, cell, fo, ocf, ocr, oc, dc, pm, ct, t1, t2, t3, t4, t5, t6⟩ := Y
  obtain ⟨⟨z1, z2, z3, z4, z5, z6, z7⟩, ⟨z8, z9, z10, z11⟩, fcls, fdict, ⟨ffd, ffun⟩, ⟨vs1, tq1, hc1, hc2⟩, hoc⟩ := hY
  dsimp only at N ho1 ho2 ho3 z1 z2 z3 z4 z5 z6 z7 z8 z9 z10 z11 fcls fdict ffun hc1 hc2 hoc hret ⊢
  unfold lexE at N hret
  unfold rdObj at N hret
  dsimp only [List.cons_append, List.nil_append] at N hret
  generalize hra : defArgs (rdDef w) = ra at N hret
  conv at hra => lhs; whnf
  subst hra
  generalize hra : defBody (rdDef w) = ra at N hret
  conv at hra => lhs; whnf
  subst hra
  generalize hra : defScope (rdDef w) = ra at N hret
  conv at hra => lhs; whnf
  subst hra
  k_dflt ktr_enter
  refine wpAny_noRaise ?_
  all_goals ((repeat' ((fail_if_success (with_reducible first | show EndQ _ _ _ | show Exit1 _ _ _ _ _ _ _ _ _ | show Turn1 _ _ _ _ _ _ _ _ _ | show TurnN _ _ _ _ _ _ _ _ _ | show wpAny _ _ (pyIter _) _ _ _ | show wpAny _ _ (exec (Stmt.While _ _ _ _) _) _ _ _)); first | (k_unfold; (try dsimp only)) | (k_end; wrow_close) | walk1 | (dsimp only; walk1) | (leave1; walk_say "STEP leave1"; try dsimp only) | fail "no step")))
  (with_reducible rename News _ _ _ _ => kN)
  have kM1 := (kN (fd, fo) (by repeat (first | exact List.Mem.head _ | apply List.Mem.tail))).1
  have kM2 := (kN (d, dictOf [⟨PyData.keyHash w.params (Str.ofString "read"), .str (Str.ofString "read") t6, .ref rd⟩] 1) (by repeat (first | exact List.Mem.head _ | apply List.Mem.tail))).1
  k_here
  dsimp only
  k_dflt (refine' get_fn kM1 fcls fdict ffun kM2 rfl tl_fn_read ?_)
  clear kM1 kM2
  dsimp only
  (repeat' ((fail_if_success (with_reducible first | show EndQ _ _ _ | show Exit1 _ _ _ _ _ _ _ _ _ | show Turn1 _ _ _ _ _ _ _ _ _ | show TurnN _ _ _ _ _ _ _ _ _ | show wpAny _ _ (pyIter _) _ _ _ | show wpAny _ _ (exec (Stmt.While _ _ _ _) _) _ _ _)); first | (k_unfold; (try dsimp only)) | (k_end; wrow_close) | walk1 | (dsimp only; walk1) | (leave1; walk_say "STEP leave1"; try dsimp only) | fail "no step"))
  rcases l with _ | ⟨c9, l⟩
  · have hS' : lvs = [] := by cases lvs with
      | nil => rfl
      | cons _ _ => exact absurd hS.length (by simp)
    subst hS'
    (repeat' ((fail_if_success (with_reducible first | show EndQ _ _ _ | show Exit1 _ _ _ _ _ _ _ _ _ | show Turn1 _ _ _ _ _ _ _ _ _ | show TurnN _ _ _ _ _ _ _ _ _ | show wpAny _ _ (pyIter _) _ _ _ | show wpAny _ _ (exec (Stmt.While _ _ _ _) _) _ _ _)); first | (k_unfold; (try dsimp only)) | (k_end; wrow_close) | walk1 | (dsimp only; walk1) | (leave1; walk_say "STEP leave1"; try dsimp only) | fail "no step"))
    (with_reducible rename Fr h₀ _ _ _ => kF)
    (with_reducible rename News h₀ _ _ _ => kN)
    exact hret ln tl [] lk _ _ _ hln hS kF kN
  · obtain ⟨v9, lvs, rfl⟩ : ∃ v vs, lvs = v :: vs := by cases lvs with
      | nil => exact absurd hS.length (by simp)
      | cons v vs => exact ⟨v, vs, rfl⟩
    have hz9 : (v9 :: lvs).length ≤ 1000 := by rw [hS.length, List.length_map]; exact hl
    obtain ⟨t9, hv9⟩ := hS.at (j := 0) (y := ⟨#[c9]⟩) rfl
    obtain rfl : v9 = .str ⟨#[c9]⟩ t9 := Option.some.inj hv9
    replace hS : StrsAre lvs (chs l) := hS.drop' 1
    (repeat' ((fail_if_success (with_reducible first | show EndQ _ _ _ | show Exit1 _ _ _ _ _ _ _ _ _ | show Turn1 _ _ _ _ _ _ _ _ _ | show TurnN _ _ _ _ _ _ _ _ _ | show wpAny _ _ (pyIter _) _ _ _ | show wpAny _ _ (exec (Stmt.While _ _ _ _) _) _ _ _)); first | (k_unfold; (try dsimp only)) | (k_end; wrow_close) | walk1 | (dsimp only; walk1) | (leave1; walk_say "STEP leave1"; try dsimp only) | fail "no step"))
    all_goals (
      (with_reducible rename Fr h₀ _ _ _ => kF)
      (with_reducible rename News h₀ _ _ _ => kN)
      refine hret _ _ lvs (lk + 1) _ _ _ ?_ hS kF kN
      first | exact lnok_t hln (chn_t (by assumption)) | exact lnok_f hln (chn_f (by assumption)))
end
end Mine
end

section
open PySem PySem.W PySem.Spec PySem.Calls PyProof.Rows
set_option Elab.async false
set_option maxRecDepth 100000
set_option maxHeartbeats 0
set_option pp.deepTerms false
set_option pp.maxSteps 2000
namespace Mine
section
variable {w : World} {mean : ExcName → Option Value} {mg mb : SMap} {dp un : Nat} {gd : Option (List Code)} {cn : PySem.Str} {cs : Scope} {a₀ : Addr} {ccd : Value} {cl : List (PySem.Str × Addr)} {outer outer1 : List Env} {base g : Heap} {L L₀ : Addr} {m : SMap} {news : List (Addr × Obj)} {s : Shared} {Q : Flow → Shared → Prop}

theorem fn73 : ∃ of fd, (hd01.heap_1 w.params).lookup 73 = some of ∧ of.data = .func fd := ⟨_, _, rfl, rfl⟩
theorem nx_c {L a : Addr} {h₀ : Heap} {A₀ : Around} {Q : Option Value → Shared → Prop} {E : Value → Shared → Prop} {it q : Addr} {ts : Tok} {Y : LexA} {ln : Int} {tl : Tok} {pvs lvs : List Value} {pk lk : Nat} {l : List Nat} {N0 : Int}
    (B : Below A₀ base outer h₀) (F : Fr h₀ L s.heap m) (X : (hd01.heap_1 w.params).In h₀) (N : News h₀ L s.heap ((it, citObj (.ref q) (.str ⟨#[]⟩ ts)) :: (q, methodObj (.ref 73) (.ref Y.x)) :: (lexE w Y ln tl pvs pk lvs lk ++ news))) (T : Top VV LL mean mg mb h₀) (hk : cs.kind = .function)
   (hC : CodeHd base 248 244) (hY : LexOk Y) (ho1 : ∀ p ∈ news, p.1 ≠ Y.pb) (ho2 : ∀ p ∈ news, p.1 ≠ Y.dx) (ho3 : ∀ p ∈ news, p.1 ≠ Y.lf) (hS : StrsAre lvs (chs l)) (hl : l.length ≤ 1000) (hln : LnOk N0 ln l)
    (hi1 : ∀ p ∈ lexE w Y ln tl pvs pk lvs lk, p.1 ≠ it) (hi2 : ∀ p ∈ news, p.1 ≠ it) (hi3 : it ≠ q) (hq1 : q ≠ Y.pb) (hq2 : q ≠ Y.dx) (hq3 : q ≠ Y.lf)
    (hdp : dp + 6 < recursionLimit) (hun : un + 51 < cLine)
    (hnil : l = [] → ∀ (ln' : Int) (tl' : Tok) (lvs' : List Value) (lk' : Nat) (h' : Heap) (tk' : Nat), LnOk N0 ln' [] → StrsAre lvs' (chs []) → Fr h₀ L h' m →
      News h₀ L h' ((it, citEnd) :: (q, methodObj (.ref 73) (.ref Y.x)) :: (lexE w Y ln' tl' pvs pk lvs' lk' ++ news)) → Q none { s with heap := h', toks := tk' })
    (hcons : ∀ c l', l = c :: l' → ∀ (ln' : Int) (tl' : Tok) (lvs' : List Value) (lk' : Nat) (t' : Tok) (h' : Heap) (tk' : Nat), LnOk N0 ln' l' → StrsAre lvs' (chs l') → Fr h₀ L h' m →
      News h₀ L h' ((it, citObj (.ref q) (.str ⟨#[]⟩ ts)) :: (q, methodObj (.ref 73) (.ref Y.x)) :: (lexE w Y ln' tl' pvs pk lvs' lk' ++ news)) → Q (some (.str ⟨#[c]⟩ t')) { s with heap := h', toks := tk' }) :
    wpAny (model PP w) (ktrTop dp un gd cn cs L a ccd cl outer) (pyNext (.ref it)) Q E s := by
  obtain ⟨of, ffd, hof, hofd⟩ := fn73 (w := w)
  have X' := X.keeps F.keep
  refine cit_next rfl (N _ (List.mem_cons_self ..)).1 (N _ (List.mem_cons_of_mem _ (List.mem_cons_self ..))).1 (X' _ _ hof) hofd ?_
  have hb1 := hY.ord
  refine rcC (un := un + 1) (m := m) (news := (it, citObj (.ref q) (.str ⟨#[]⟩ ts)) :: (q, methodObj (.ref 73) (.ref Y.x)) :: news) B F X (news_to N) T hk hC hY ?_ ?_ ?_ hS hl hln hdp (by omega) ?_
  · intro p hp
    rcases List.mem_cons.mp hp with rfl | hp
    · exact fun e => hi1 _ (List.mem_cons_self ..) e.symm
    · rcases List.mem_cons.mp hp with rfl | hp
      · exact hq1
      · exact ho1 _ hp
  · intro p hp
    rcases List.mem_cons.mp hp with rfl | hp
    · exact fun e => hi1 _ (.tail _ (.tail _ (.head _))) e.symm
    · rcases List.mem_cons.mp hp with rfl | hp
      · exact hq2
      · exact ho2 _ hp
  · intro p hp
    rcases List.mem_cons.mp hp with rfl | hp
    · exact fun e => hi1 _ (.tail _ (.tail _ (.tail _ (.tail _ (.tail _ (.tail _ (.tail _ (.tail _ (.head _))))))))) e.symm
    · rcases List.mem_cons.mp hp with rfl | hp
      · exact hq3
      · exact ho3 _ hp
  · intro ln' tl' lvs' lk' t' h' tk' b1 hS' F' N'
    have N2 := news_back N'
    refine ⟨_, _, rfl, (N2 _ (List.mem_cons_self ..)).1, (N2 _ (List.mem_cons_of_mem _ (List.mem_cons_self ..))).1, ⟨of, ffd, (X.keeps F'.keep) _ _ hof, hofd⟩, ?_, ?_⟩
    · intro hne
      cases l with
      | nil => exact absurd rfl hne
      | cons c l' => exact hcons c l' rfl _ _ _ _ _ _ _ b1 hS' F' N2
    · intro he h2 hx hi
      cases l with
      | cons c l' => exact absurd (congrArg (fun z => z.cps.size) he) (by simp [S])
      | nil =>
        obtain ⟨F3, N3⟩ := fr_ext F' N2 hx hi (fun p hp => by
          rcases List.mem_cons.mp hp with rfl | hp
          · exact Ne.symm hi3
          · rcases List.mem_append.mp hp with hp | hp
            · have := hi1
              simp only [lexE, List.mem_cons, List.not_mem_nil, or_false, forall_eq_or_imp, forall_eq] at this hp
              rcases hp with rfl | rfl | rfl | rfl | rfl | rfl | rfl | rfl | rfl | rfl <;> simp_all
            · exact hi2 _ hp)
        exact hnil rfl _ _ _ _ _ _ b1 hS' F3 N3
theorem rc_c {L a : Addr} {h₀ : Heap} {A₀ : Around} {Q : Value → Shared → Prop} {Y : LexA} {ln : Int} {tl : Tok} {pvs lvs : List Value} {pk lk : Nat} {l : List Nat} {N0 : Int}
    (B : Below A₀ base outer h₀) (F : Fr h₀ L s.heap m) (X : (hd01.heap_1 w.params).In h₀) (N : News h₀ L s.heap (lexE w Y ln tl pvs pk lvs lk ++ news)) (T : Top VV LL mean mg mb h₀) (hk : cs.kind = .function)
   (hC : CodeHd base 248 244) (hY : LexOk Y) (ho1 : ∀ p ∈ news, p.1 ≠ Y.pb) (ho2 : ∀ p ∈ news, p.1 ≠ Y.dx) (ho3 : ∀ p ∈ news, p.1 ≠ Y.lf) (hS : StrsAre lvs (chs l)) (hl : l.length ≤ 1000) (hln : LnOk N0 ln l)
    (hdp : dp + 6 < recursionLimit) (hun : un + 50 < cLine)
    (hret : ∀ (ln' : Int) (tl' : Tok) (lvs' : List Value) (lk' : Nat) (t' : Tok) (h' : Heap) (tk' : Nat), LnOk N0 ln' l.tail → StrsAre lvs' (chs l.tail) → Fr h₀ L h' m →
      News h₀ L h' (lexE w Y ln' tl' pvs pk lvs' lk' ++ news) → Q (.str (S (l.take 1)) t') { s with heap := h', toks := tk' }) :
    wpAny (model PP w) (ktrTop dp un gd cn cs L a ccd cl outer) (call (.ref 73) [.ref Y.x]) Q (fun _ _ => False) s :=
  wpAny_call (codeAny_mono (rcC B F X N T hk hC hY ho1 ho2 ho3 hS hl hln hdp hun hret) fun r s' z => by rcases r with e | (v | _ | _ | _) <;> exact z)
end
end Mine
end

section
open PySem PySem.W PySem.Spec PySem.Calls PyProof.Rows
set_option Elab.async false
set_option maxRecDepth 100000
set_option maxHeartbeats 0
set_option pp.deepTerms false
set_option pp.maxSteps 2000
namespace Mine
section
variable {w : World} {mean : ExcName → Option Value} {mg mb : SMap} {dp un : Nat} {gd : Option (List Code)} {cn : PySem.Str} {cs : Scope} {a₀ : Addr} {ccd : Value} {cl : List (PySem.Str × Addr)} {outer outer1 : List Env} {base g : Heap} {L L₀ : Addr} {m : SMap} {news : List (Addr × Obj)} {s : Shared} {Q : Flow → Shared → Prop}

theorem segQ {Y : LexA} {ln : Int} {tl : Tok} {lvs : List Value} {pk lk : Nat} {l : List Nat} {N0 : Int} {it q : Addr} {ts tt : Tok} {tok : List Nat} (B : Below (ktrTop dp un gd cn cs L₀ a₀ ccd cl outer) base (envX cn cs L₀ a₀ ccd cl :: outer) g) (X : (hd01.heap_1 w.params).In g) (T : Top VV LL mean mg mb g)
   (N : News g L s.heap ((it, citObj (.ref q) (.str ⟨#[]⟩ ts)) :: (q, methodObj (.ref 73) (.ref Y.x)) :: (lexE w Y ln tl [] pk lvs lk ++ news)))
   (F : Fr g L s.heap (frm [(Str.ofString "self", .ref Y.x), (Str.ofString "fiter", .ref it), (Str.ofString "token", .str (S tok) tt)] m))
   (hC : CodeHd base 248 244) (hY : LexOk Y) (ho1 : ∀ p ∈ news, p.1 ≠ Y.pb) (ho2 : ∀ p ∈ news, p.1 ≠ Y.dx) (ho3 : ∀ p ∈ news, p.1 ≠ Y.lf) (hS : StrsAre lvs (chs l)) (hl : l.length ≤ 1000) (hln : LnOk N0 ln l)
    (hi1 : ∀ p ∈ lexE w Y ln tl [] pk lvs lk, p.1 ≠ it) (hi2 : ∀ p ∈ news, p.1 ≠ it) (hi3 : it ≠ q) (hq1 : q ≠ Y.pb) (hq2 : q ≠ Y.dx) (hq3 : q ≠ Y.lf)
    (hdp : dp + 8 < recursionLimit) (hun : un + 60 < cLine) (hzt : tok.length + l.length ≤ 1000)
    (hret : ∀ (ln' : Int) (tl' : Tok) (lvs' : List Value) (lk' : Nat) (t' : Tok) (h' : Heap) (tk' : Nat) (m' : SMap), LnOk N0 ln' (lexQ (l.length + 1) tok l).2 → StrsAre lvs' (chs (lexQ (l.length + 1) tok l).2) → Fr g L h' m' →
       News g L h' (lexE w Y ln' tl' [] pk lvs' lk' ++ news) → Q (.ret (.str (S (lexQ (l.length + 1) tok l).1) t')) { s with heap := h', toks := tk' })
    (hend : (lexQ (l.length + 1) tok l).2 = [] → ∀ (ln' : Int) (tl' : Tok) (lvs' : List Value) (lk' : Nat) (tt' : Tok) (h' : Heap) (tk' : Nat) (m' : SMap), LnOk N0 ln' [] → StrsAre lvs' (chs []) →
       Fr g L h' (frm [(Str.ofString "self", .ref Y.x), (Str.ofString "fiter", .ref it), (Str.ofString "token", .str (S (lexQ (l.length + 1) tok l).1) tt')] m') →
       News g L h' ((it, citEnd) :: (q, methodObj (.ref 73) (.ref Y.x)) :: (lexE w Y ln' tl' [] pk lvs' lk' ++ news)) → Q .next { s with heap := h', toks := tk' }) :
    wpAny (model PP w) ((ktrTop dp un gd cn cs L₀ a₀ ccd cl outer).deeper (fnEnv (hd01.heap_1 w.params) (Str.ofString "_netrclex.get_token") 80 L)) (exec (gtQ w) (fnEnv (hd01.heap_1 w.params) (Str.ofString "_netrclex.get_token") 80 L)) (EndQ Q) (fun _ _ => False) s := by

  conv => arg 3; arg 1; whnf
  simp only [fnEnv]
  generalize hsc : fnScope (hd01.heap_1 w.params) 80 = sc
  conv at hsc => lhs; whnf
  subst hsc
  generalize hsc : fnCode (hd01.heap_1 w.params) 80 = sc
  conv at hsc => lhs; whnf
  subst hsc
  obtain ⟨⟨z1, z2, z3, z4, z5, z6, z7⟩, ⟨z8, z9, z10, z11⟩, fcls, fdict, ⟨ffd, ffun⟩, ⟨vs1, tq1, hc1, hc2⟩, hoc⟩ := id hY
  generalize hR : lexQ (l.length + 1) tok l = R at hret hend
  refine For_I (it := it) (fun n s' => ∃ (ln : Int) (tl : Tok) (lvs : List Value) (lk : Nat) (l : List Nat) (tok : List Nat) (tt : Tok) (m : SMap) (h' : Heap) (tk' : Nat), s' = { s with heap := h', toks := tk' } ∧ lexQ n tok l = R ∧ l.length < n ∧
     LnOk N0 ln l ∧ tok.length + l.length ≤ 1000 ∧ StrsAre lvs (chs l) ∧ (∀ p ∈ lexE w Y ln tl [] pk lvs lk, p.1 ≠ it) ∧
     Fr g L h' (frm [(Str.ofString "self", .ref Y.x), (Str.ofString "fiter", .ref it), (Str.ofString "token", .str (S tok) tt)] m) ∧
     News g L h' ((it, citObj (.ref q) (.str ⟨#[]⟩ ts)) :: (q, methodObj (.ref 73) (.ref Y.x)) :: (lexE w Y ln tl [] pk lvs lk ++ news))) ?_ ?_
  · (repeat' ((fail_if_success (with_reducible first | show wpAny _ _ (exec (Stmt.For _ _ _ _ _) _) _ _ _ | show wpAny _ _ (call (Value.ref 73) _) _ _ _ | show ItAt _ _ _ _ | show NextI _ _ _ | show EndQ _ _ _ | show Exit1 _ _ _ _ _ _ _ _ _ | show Turn1 _ _ _ _ _ _ _ _ _ | show TurnN _ _ _ _ _ _ _ _ _ | show wpAny _ _ (pyIter _) _ _ _ | show wpAny _ _ (exec (Stmt.While _ _ _ _) _) _ _ _)); first | (k_unfold; (try dsimp only)) | (k_end; wrow_close) | walk1 | (dsimp only; walk1) | (leave1; walk_say "STEP leave1"; try dsimp only) | fail "no step"))
    exact ⟨rfl, ⟨_, (N _ (List.mem_cons_self ..)).1, rfl⟩, _, ln, tl, lvs, lk, l, tok, tt, m, _, _, rfl, hR, Nat.lt_succ_self _, hln, hzt, hS, hi1, F, N⟩
  · clear F N hS hl hln hi1 hzt hR
    rintro n s' ⟨ln, tl, lvs, lk, l, tok, tt, m, h', tk', rfl, hR, hln, hb1, hb3, hS, hi1, F, N⟩
    refine' nx_c (un := _) B F X N T ?hk hC hY ho1 ho2 ho3 hS ?h1 hb1 hi1 hi2 hi3 hq1 hq2 hq3 ?h2 ?h3 ?hn ?hc
    case hk => exact rfl
    case h1 => omega
    case h2 => ktr_room
    case h3 => ktr_units
    case hn =>
      rintro rfl ln' tl' lvs' lk' h2 tk2 c1 hS' F' N'
      obtain rfl : R = (tok, []) := by rw [← hR]; cases n <;> rfl
      exact hend rfl _ _ _ _ _ _ _ _ c1 hS' F' N'
    case hc =>
      rintro c l' rfl ln' tl' lvs' lk' t' h2 tk2 c1 hS' F' N'
      clear F N hS
      simp only [List.length_cons] at hln hb3
      have hx1 : (S tok).length ≤ 1000 := by show tok.toArray.size ≤ 1000; rw [List.size_toArray]; omega
      have hx2 : (⟨#[c]⟩ : PySem.Str).length = 1 := rfl
      generalize hxt : S tok = xt at F' hx1
      unfold lexE at N'
      dsimp only [List.cons_append, List.nil_append] at N'
      dsimp only
      (repeat' ((fail_if_success (with_reducible first | show wpAny _ _ (exec (Stmt.For _ _ _ _ _) _) _ _ _ | show wpAny _ _ (call (Value.ref 73) _) _ _ _ | show ItAt _ _ _ _ | show NextI _ _ _ | show EndQ _ _ _ | show Exit1 _ _ _ _ _ _ _ _ _ | show Turn1 _ _ _ _ _ _ _ _ _ | show TurnN _ _ _ _ _ _ _ _ _ | show wpAny _ _ (pyIter _) _ _ _ | show wpAny _ _ (exec (Stmt.While _ _ _ _) _) _ _ _)); first | (k_unfold; (try dsimp only)) | (k_end; wrow_close) | walk1 | (dsimp only; walk1) | (leave1; walk_say "STEP leave1"; try dsimp only) | fail "no step"))
      · rename (_ == _) = true => hb
        obtain rfl := chq_t hb
        (with_reducible rename Fr g _ _ _ => kF)
        (with_reducible rename News g _ _ _ => kN)
        obtain rfl : R = (tok, l') := by rw [← hR]; obtain ⟨n, rfl⟩ : ∃ k, n = k + 1 := ⟨n - 1, by omega⟩; rfl
        subst hxt
        exact hret _ _ _ _ _ _ _ _ c1 hS' kF (cb_drop (news := lexE w Y ln' tl' [] pk lvs' lk' ++ news) kN (fun p hp => .tail _ (.tail _ hp)))
      · (with_reducible rename Fr g _ _ _ => kF)
        (with_reducible rename News g _ _ _ => kN)
        obtain rfl := chb_t (c := c) (by assumption)
        have hb := chq_f (c := 92) (by assumption)
        obtain ⟨n, rfl⟩ : ∃ k, n = k + 1 := ⟨n - 1, by omega⟩
        show wpAny _ _ (call (.ref 73) [.ref Y.x]) _ _ _
        obtain ⟨q1, q2, q3⟩ := offs (o1 := citObj (.ref q) (.str ⟨#[]⟩ ts)) (o2 := methodObj (.ref 73) (.ref Y.x)) hi1 hq1 hq2 hq3 ho1 ho2 ho3
        refine' rc_c (news := (it, citObj (.ref q) (.str ⟨#[]⟩ ts)) :: (q, methodObj (.ref 73) (.ref Y.x)) :: news) (Y := Y) (ln := ln') (tl := tl') (lvs := lvs') (lk := lk') (l := l') (pk := pk) (pvs := []) B kF X (news_to kN) T ?hk hC hY q1 q2 q3 hS' ?hl c1 ?hd ?hu ?_
        case hk => exact rfl
        case hl => omega
        case hd => ktr_room
        case hu => ktr_units
        clear kF kN hS' c1
        rintro ln1 tl1 lvs1 lk1 t1 h1 tk1 d1 hS1 F1 N1
        replace N1 := news_back N1
        unfold lexE at N1
        dsimp only [List.cons_append, List.nil_append] at N1
        have hx3 : (S (l'.take 1)).length ≤ 1 := by rw [S_len, List.length_take]; omega
        generalize hxu : S (l'.take 1) = xu at F1 hx3 ⊢
        (repeat' ((fail_if_success (with_reducible first | show wpAny _ _ (exec (Stmt.For _ _ _ _ _) _) _ _ _ | show wpAny _ _ (call (Value.ref 73) _) _ _ _ | show ItAt _ _ _ _ | show NextI _ _ _ | show EndQ _ _ _ | show Exit1 _ _ _ _ _ _ _ _ _ | show Turn1 _ _ _ _ _ _ _ _ _ | show TurnN _ _ _ _ _ _ _ _ _ | show wpAny _ _ (pyIter _) _ _ _ | show wpAny _ _ (exec (Stmt.While _ _ _ _) _) _ _ _)); first | (k_unfold; (try dsimp only)) | (k_end; wrow_close) | walk1 | (dsimp only; walk1) | (leave1; walk_say "STEP leave1"; try dsimp only) | fail "no step"))
        (with_reducible rename Fr g _ _ _ => kF)
        (with_reducible rename News g _ _ _ => kN)
        subst hxt hxu
        rw [S_app] at kF
        refine ⟨n, Nat.lt_succ_self _, _, _, _, _, l'.tail, tok ++ l'.take 1, _, _, _, _, rfl, ?_, ?_, d1, ?_, hS1, lexE_ne hi1, fr_frm _ kF ⟨rfl, rfl, rfl, trivial⟩, kN⟩
        · rw [← hR]; simp only [lexQ, if_neg hb, if_true]
        · rw [List.length_tail]; omega
        · rw [List.length_append, List.length_take, List.length_tail]; omega
      · have hb := chq_f (c := c) (by assumption)
        have hb' := chb_f (c := c) (by assumption)
        (with_reducible rename Fr g _ _ _ => kF)
        (with_reducible rename News g _ _ _ => kN)
        obtain ⟨n, rfl⟩ : ∃ k, n = k + 1 := ⟨n - 1, by omega⟩
        subst hxt
        rw [show S tok ++ (⟨#[c]⟩ : PySem.Str) = S (tok ++ [c]) from S_app tok [c]] at kF
        refine ⟨n, Nat.lt_succ_self _, _, _, _, _, l', tok ++ [c], _, _, _, _, rfl, ?_, by omega, c1, ?_, hS', lexE_ne hi1, fr_frm _ kF ⟨rfl, rfl, rfl, trivial⟩, kN⟩
        · rw [← hR]; simp only [lexQ, if_neg hb, if_neg hb']
        · rw [List.length_append, List.length_singleton]; omega
end
end Mine
end

section
open PySem PySem.W PySem.Spec PySem.Calls PyProof.Rows
set_option Elab.async false
set_option maxRecDepth 100000
set_option maxHeartbeats 0
set_option pp.deepTerms false
set_option pp.maxSteps 2000
namespace Mine
section
variable {w : World} {mean : ExcName → Option Value} {mg mb : SMap} {dp un : Nat} {gd : Option (List Code)} {cn : PySem.Str} {cs : Scope} {a₀ : Addr} {ccd : Value} {cl : List (PySem.Str × Addr)} {outer outer1 : List Env} {base g : Heap} {L L₀ : Addr} {m : SMap} {news : List (Addr × Obj)} {s : Shared} {Q : Flow → Shared → Prop}

theorem segU {Y : LexA} {ln : Int} {tl : Tok} {lvs : List Value} {pk lk : Nat} {l : List Nat} {N0 : Int} {it q : Addr} {ts tt : Tok} {tok : List Nat} (B : Below (ktrTop dp un gd cn cs L₀ a₀ ccd cl outer) base (envX cn cs L₀ a₀ ccd cl :: outer) g) (X : (hd01.heap_1 w.params).In g) (T : Top VV LL mean mg mb g)
   (N : News g L s.heap ((it, citObj (.ref q) (.str ⟨#[]⟩ ts)) :: (q, methodObj (.ref 73) (.ref Y.x)) :: (lexE w Y ln tl [] pk lvs lk ++ news)))
   (F : Fr g L s.heap (frm [(Str.ofString "self", .ref Y.x), (Str.ofString "fiter", .ref it), (Str.ofString "token", .str (S tok) tt)] m))
   (hC : CodeHd base 248 244) (hY : LexOk Y) (ho1 : ∀ p ∈ news, p.1 ≠ Y.pb) (ho2 : ∀ p ∈ news, p.1 ≠ Y.dx) (ho3 : ∀ p ∈ news, p.1 ≠ Y.lf) (hS : StrsAre lvs (chs l)) (hl : l.length ≤ 1000) (hln : LnOk N0 ln l)
    (hi1 : ∀ p ∈ lexE w Y ln tl [] pk lvs lk, p.1 ≠ it) (hi2 : ∀ p ∈ news, p.1 ≠ it) (hi3 : it ≠ q) (hq1 : q ≠ Y.pb) (hq2 : q ≠ Y.dx) (hq3 : q ≠ Y.lf)
    (hdp : dp + 8 < recursionLimit) (hun : un + 60 < cLine) (hzt : tok.length + l.length ≤ 1000)
    (hret : ∀ (ln' : Int) (tl' : Tok) (lvs' : List Value) (lk' : Nat) (t' : Tok) (h' : Heap) (tk' : Nat) (m' : SMap), LnOk N0 ln' (lexU (l.length + 1) tok l).2 → StrsAre lvs' (chs (lexU (l.length + 1) tok l).2) → Fr g L h' m' →
       News g L h' (lexE w Y ln' tl' [] pk lvs' lk' ++ news) → Q (.ret (.str (S (lexU (l.length + 1) tok l).1) t')) { s with heap := h', toks := tk' })
    (hend : (lexU (l.length + 1) tok l).2 = [] → ∀ (ln' : Int) (tl' : Tok) (lvs' : List Value) (lk' : Nat) (tt' : Tok) (h' : Heap) (tk' : Nat) (m' : SMap), LnOk N0 ln' [] → StrsAre lvs' (chs []) →
       Fr g L h' (frm [(Str.ofString "self", .ref Y.x), (Str.ofString "fiter", .ref it), (Str.ofString "token", .str (S (lexU (l.length + 1) tok l).1) tt')] m') →
       News g L h' ((it, citEnd) :: (q, methodObj (.ref 73) (.ref Y.x)) :: (lexE w Y ln' tl' [] pk lvs' lk' ++ news)) → Q .next { s with heap := h', toks := tk' }) :
    wpAny (model PP w) ((ktrTop dp un gd cn cs L₀ a₀ ccd cl outer).deeper (fnEnv (hd01.heap_1 w.params) (Str.ofString "_netrclex.get_token") 80 L)) (exec (gtU w) (fnEnv (hd01.heap_1 w.params) (Str.ofString "_netrclex.get_token") 80 L)) (EndQ Q) (fun _ _ => False) s := by

  conv => arg 3; arg 1; whnf
  simp only [fnEnv]
  generalize hsc : fnScope (hd01.heap_1 w.params) 80 = sc
  conv at hsc => lhs; whnf
  subst hsc
  generalize hsc : fnCode (hd01.heap_1 w.params) 80 = sc
  conv at hsc => lhs; whnf
  subst hsc
  obtain ⟨⟨z1, z2, z3, z4, z5, z6, z7⟩, ⟨z8, z9, z10, z11⟩, fcls, fdict, ⟨ffd, ffun⟩, ⟨vs1, tq1, hc1, hc2⟩, hoc⟩ := id hY
  generalize hR : lexU (l.length + 1) tok l = R at hret hend
  refine For_I (it := it) (fun n s' => ∃ (ln : Int) (tl : Tok) (lvs : List Value) (lk : Nat) (l : List Nat) (tok : List Nat) (tt : Tok) (m : SMap) (h' : Heap) (tk' : Nat), s' = { s with heap := h', toks := tk' } ∧ lexU n tok l = R ∧ l.length < n ∧
     LnOk N0 ln l ∧ tok.length + l.length ≤ 1000 ∧ StrsAre lvs (chs l) ∧ (∀ p ∈ lexE w Y ln tl [] pk lvs lk, p.1 ≠ it) ∧
     Fr g L h' (frm [(Str.ofString "self", .ref Y.x), (Str.ofString "fiter", .ref it), (Str.ofString "token", .str (S tok) tt)] m) ∧
     News g L h' ((it, citObj (.ref q) (.str ⟨#[]⟩ ts)) :: (q, methodObj (.ref 73) (.ref Y.x)) :: (lexE w Y ln tl [] pk lvs lk ++ news))) ?_ ?_
  · (repeat' ((fail_if_success (with_reducible first | show wpAny _ _ (exec (Stmt.For _ _ _ _ _) _) _ _ _ | show wpAny _ _ (call (Value.ref 73) _) _ _ _ | show ItAt _ _ _ _ | show NextI _ _ _ | show EndQ _ _ _ | show Exit1 _ _ _ _ _ _ _ _ _ | show Turn1 _ _ _ _ _ _ _ _ _ | show TurnN _ _ _ _ _ _ _ _ _ | show wpAny _ _ (pyIter _) _ _ _ | show wpAny _ _ (exec (Stmt.While _ _ _ _) _) _ _ _)); first | (k_unfold; (try dsimp only)) | (k_end; wrow_close) | walk1 | (dsimp only; walk1) | (leave1; walk_say "STEP leave1"; try dsimp only) | fail "no step"))
    exact ⟨rfl, ⟨_, (N _ (List.mem_cons_self ..)).1, rfl⟩, _, ln, tl, lvs, lk, l, tok, tt, m, _, _, rfl, hR, Nat.lt_succ_self _, hln, hzt, hS, hi1, F, N⟩
  · clear F N hS hl hln hi1 hzt hR
    rintro n s' ⟨ln, tl, lvs, lk, l, tok, tt, m, h', tk', rfl, hR, hln, hb1, hb3, hS, hi1, F, N⟩
    refine' nx_c (un := _) B F X N T ?hk hC hY ho1 ho2 ho3 hS ?h1 hb1 hi1 hi2 hi3 hq1 hq2 hq3 ?h2 ?h3 ?hn ?hc
    case hk => exact rfl
    case h1 => omega
    case h2 => ktr_room
    case h3 => ktr_units
    case hn =>
      rintro rfl ln' tl' lvs' lk' h2 tk2 c1 hS' F' N'
      obtain rfl : R = (tok, []) := by rw [← hR]; cases n <;> rfl
      exact hend rfl _ _ _ _ _ _ _ _ c1 hS' F' N'
    case hc =>
      rintro c l' rfl ln' tl' lvs' lk' t' h2 tk2 c1 hS' F' N'
      clear F N hS
      simp only [List.length_cons] at hln hb3
      have hx1 : (S tok).length ≤ 1000 := by show tok.toArray.size ≤ 1000; rw [List.size_toArray]; omega
      have hx2 : (⟨#[c]⟩ : PySem.Str).length = 1 := rfl
      generalize hxt : S tok = xt at F' hx1
      unfold lexE at N'
      dsimp only [List.cons_append, List.nil_append] at N'
      dsimp only
      (repeat' ((fail_if_success (with_reducible first | show wpAny _ _ (exec (Stmt.For _ _ _ _ _) _) _ _ _ | show wpAny _ _ (call (Value.ref 73) _) _ _ _ | show ItAt _ _ _ _ | show NextI _ _ _ | show EndQ _ _ _ | show Exit1 _ _ _ _ _ _ _ _ _ | show Turn1 _ _ _ _ _ _ _ _ _ | show TurnN _ _ _ _ _ _ _ _ _ | show wpAny _ _ (pyIter _) _ _ _ | show wpAny _ _ (exec (Stmt.While _ _ _ _) _) _ _ _)); first | (k_unfold; (try dsimp only)) | (k_end; wrow_close) | walk1 | (dsimp only; walk1) | (leave1; walk_say "STEP leave1"; try dsimp only) | fail "no step"))
      · (with_reducible rename Fr g _ _ _ => kF)
        (with_reducible rename News g _ _ _ => kN)
        obtain rfl := chb_t (c := c) (by assumption)
        have hb := wsq_f (c := 92) (by assumption)
        obtain ⟨n, rfl⟩ : ∃ k, n = k + 1 := ⟨n - 1, by omega⟩
        show wpAny _ _ (call (.ref 73) [.ref Y.x]) _ _ _
        obtain ⟨q1, q2, q3⟩ := offs (o1 := citObj (.ref q) (.str ⟨#[]⟩ ts)) (o2 := methodObj (.ref 73) (.ref Y.x)) hi1 hq1 hq2 hq3 ho1 ho2 ho3
        refine' rc_c (news := (it, citObj (.ref q) (.str ⟨#[]⟩ ts)) :: (q, methodObj (.ref 73) (.ref Y.x)) :: news) (Y := Y) (ln := ln') (tl := tl') (lvs := lvs') (lk := lk') (l := l') (pk := pk) (pvs := []) B kF X (news_to kN) T ?hk hC hY q1 q2 q3 hS' ?hl c1 ?hd ?hu ?_
        case hk => exact rfl
        case hl => omega
        case hd => ktr_room
        case hu => ktr_units
        clear kF kN hS' c1
        rintro ln1 tl1 lvs1 lk1 t1 h1 tk1 d1 hS1 F1 N1
        replace N1 := news_back N1
        unfold lexE at N1
        dsimp only [List.cons_append, List.nil_append] at N1
        have hx3 : (S (l'.take 1)).length ≤ 1 := by rw [S_len, List.length_take]; omega
        generalize hxu : S (l'.take 1) = xu at F1 hx3 ⊢
        (repeat' ((fail_if_success (with_reducible first | show wpAny _ _ (exec (Stmt.For _ _ _ _ _) _) _ _ _ | show wpAny _ _ (call (Value.ref 73) _) _ _ _ | show ItAt _ _ _ _ | show NextI _ _ _ | show EndQ _ _ _ | show Exit1 _ _ _ _ _ _ _ _ _ | show Turn1 _ _ _ _ _ _ _ _ _ | show TurnN _ _ _ _ _ _ _ _ _ | show wpAny _ _ (pyIter _) _ _ _ | show wpAny _ _ (exec (Stmt.While _ _ _ _) _) _ _ _)); first | (k_unfold; (try dsimp only)) | (k_end; wrow_close) | walk1 | (dsimp only; walk1) | (leave1; walk_say "STEP leave1"; try dsimp only) | fail "no step"))
        (with_reducible rename Fr g _ _ _ => kF)
        (with_reducible rename News g _ _ _ => kN)
        subst hxt hxu
        rw [S_app] at kF
        refine ⟨n, Nat.lt_succ_self _, _, _, _, _, l'.tail, tok ++ l'.take 1, _, _, _, _, rfl, ?_, ?_, d1, ?_, hS1, lexE_ne hi1, fr_frm _ kF ⟨rfl, rfl, rfl, trivial⟩, kN⟩
        · rw [← hR]; simp only [lexU, if_neg hb, if_true]
        · rw [List.length_tail]; omega
        · rw [List.length_append, List.length_take, List.length_tail]; omega
      · have hb := wsq_f (c := c) (by assumption)
        have hb' := chb_f (c := c) (by assumption)
        (with_reducible rename Fr g _ _ _ => kF)
        (with_reducible rename News g _ _ _ => kN)
        obtain ⟨n, rfl⟩ : ∃ k, n = k + 1 := ⟨n - 1, by omega⟩
        subst hxt
        rw [show S tok ++ (⟨#[c]⟩ : PySem.Str) = S (tok ++ [c]) from S_app tok [c]] at kF
        refine ⟨n, Nat.lt_succ_self _, _, _, _, _, l', tok ++ [c], _, _, _, _, rfl, ?_, by omega, c1, ?_, hS', lexE_ne hi1, fr_frm _ kF ⟨rfl, rfl, rfl, trivial⟩, kN⟩
        · rw [← hR]; simp only [lexU, if_neg hb, if_neg hb']
        · rw [List.length_append, List.length_singleton]; omega
      · have hb := wsq_t (c := c) (by assumption)
        (with_reducible rename Fr g _ _ _ => kF)
        (with_reducible rename News g _ _ _ => kN)
        obtain rfl : R = (tok, l') := by rw [← hR]; obtain ⟨n, rfl⟩ : ∃ k, n = k + 1 := ⟨n - 1, by omega⟩; simp only [lexU, if_pos hb]
        subst hxt
        exact hret _ _ _ _ _ _ _ _ c1 hS' kF (cb_drop (news := lexE w Y ln' tl' [] pk lvs' lk' ++ news) kN (fun p hp => .tail _ (.tail _ hp)))
end
end Mine
end

section
open PySem PySem.W PySem.Spec PySem.Calls PyProof.Rows
set_option Elab.async false
set_option maxRecDepth 100000
set_option maxHeartbeats 0
set_option pp.deepTerms false
set_option pp.maxSteps 2000
namespace Mine
section
variable {w : World} {mean : ExcName → Option Value} {mg mb : SMap} {dp un : Nat} {gd : Option (List Code)} {cn : PySem.Str} {cs : Scope} {a₀ : Addr} {ccd : Value} {cl : List (PySem.Str × Addr)} {outer outer1 : List Env} {base g : Heap} {L L₀ : Addr} {m : SMap} {news : List (Addr × Obj)} {s : Shared} {Q : Flow → Shared → Prop}

theorem segO {Y : LexA} {ln : Int} {tl : Tok} {lvs : List Value} {pk lk : Nat} {l : List Nat} {N0 : Int} {it q : Addr} {ts tt : Tok}  (B : Below (ktrTop dp un gd cn cs L₀ a₀ ccd cl outer) base (envX cn cs L₀ a₀ ccd cl :: outer) g) (X : (hd01.heap_1 w.params).In g) (T : Top VV LL mean mg mb g)
   (N : News g L s.heap ((it, citObj (.ref q) (.str ⟨#[]⟩ ts)) :: (q, methodObj (.ref 73) (.ref Y.x)) :: (lexE w Y ln tl [] pk lvs lk ++ news)))
   (F : Fr g L s.heap (frm [(Str.ofString "self", .ref Y.x), (Str.ofString "fiter", .ref it), (Str.ofString "token", .str (S []) tt)] m))
   (hC : CodeHd base 248 244) (hY : LexOk Y) (ho1 : ∀ p ∈ news, p.1 ≠ Y.pb) (ho2 : ∀ p ∈ news, p.1 ≠ Y.dx) (ho3 : ∀ p ∈ news, p.1 ≠ Y.lf) (hS : StrsAre lvs (chs l)) (hl : l.length ≤ 1000) (hln : LnOk N0 ln l)
    (hi1 : ∀ p ∈ lexE w Y ln tl [] pk lvs lk, p.1 ≠ it) (hi2 : ∀ p ∈ news, p.1 ≠ it) (hi3 : it ≠ q) (hq1 : q ≠ Y.pb) (hq2 : q ≠ Y.dx) (hq3 : q ≠ Y.lf)
    (hdp : dp + 8 < recursionLimit) (hun : un + 60 < cLine) 
    (hret : ∀ (ln' : Int) (tl' : Tok) (lvs' : List Value) (lk' : Nat) (t' : Tok) (h' : Heap) (tk' : Nat) (m' : SMap), LnOk N0 ln' (lexTk l).2 → StrsAre lvs' (chs (lexTk l).2) → Fr g L h' m' →
       News g L h' (lexE w Y ln' tl' [] pk lvs' lk' ++ news) → Q (.ret (.str (S (lexTk l).1) t')) { s with heap := h', toks := tk' })
    (hend : (lexTk l).2 = [] → ∀ (ln' : Int) (tl' : Tok) (lvs' : List Value) (lk' : Nat) (tt' : Tok) (h' : Heap) (tk' : Nat) (m' : SMap), LnOk N0 ln' [] → StrsAre lvs' (chs []) →
       Fr g L h' (frm [(Str.ofString "self", .ref Y.x), (Str.ofString "fiter", .ref it), (Str.ofString "token", .str (S (lexTk l).1) tt')] m') →
       News g L h' ((it, citEnd) :: (q, methodObj (.ref 73) (.ref Y.x)) :: (lexE w Y ln' tl' [] pk lvs' lk' ++ news)) → Q .next { s with heap := h', toks := tk' }) :
    wpAny (model PP w) ((ktrTop dp un gd cn cs L₀ a₀ ccd cl outer).deeper (fnEnv (hd01.heap_1 w.params) (Str.ofString "_netrclex.get_token") 80 L)) (exec (gtFor w) (fnEnv (hd01.heap_1 w.params) (Str.ofString "_netrclex.get_token") 80 L)) (EndQ Q) (fun _ _ => False) s := by

  conv => arg 3; arg 1; whnf
  simp only [fnEnv]
  generalize hsc : fnScope (hd01.heap_1 w.params) 80 = sc
  conv at hsc => lhs; whnf
  subst hsc
  generalize hsc : fnCode (hd01.heap_1 w.params) 80 = sc
  conv at hsc => lhs; whnf
  subst hsc
  obtain ⟨⟨z1, z2, z3, z4, z5, z6, z7⟩, ⟨z8, z9, z10, z11⟩, fcls, fdict, ⟨ffd, ffun⟩, ⟨vs1, tq1, hc1, hc2⟩, hoc⟩ := id hY
  generalize hR : lexTk l = R at hret hend
  refine For_I (it := it) (fun n s' => (∃ (ln : Int) (tl : Tok) (lvs : List Value) (lk : Nat) (l : List Nat) (tt : Tok) (m : SMap) (h' : Heap) (tk' : Nat), s' = { s with heap := h', toks := tk' } ∧ lexTk l = R ∧ l.length < n ∧
     LnOk N0 ln l ∧ l.length ≤ 1000 ∧ StrsAre lvs (chs l) ∧ (∀ p ∈ lexE w Y ln tl [] pk lvs lk, p.1 ≠ it) ∧
     Fr g L h' (frm [(Str.ofString "self", .ref Y.x), (Str.ofString "fiter", .ref it), (Str.ofString "token", .str (S []) tt)] m) ∧
     News g L h' ((it, citObj (.ref q) (.str ⟨#[]⟩ ts)) :: (q, methodObj (.ref 73) (.ref Y.x)) :: (lexE w Y ln tl [] pk lvs lk ++ news))) ∨
    (∃ (ln : Int) (tl : Tok) (lvs : List Value) (lk : Nat) (tt : Tok) (m : SMap) (h' : Heap) (tk' : Nat), s' = { s with heap := h', toks := tk' } ∧ R.2 = [] ∧
     LnOk N0 ln [] ∧ StrsAre lvs (chs []) ∧ (∀ p ∈ lexE w Y ln tl [] pk lvs lk, p.1 ≠ it) ∧
     Fr g L h' (frm [(Str.ofString "self", .ref Y.x), (Str.ofString "fiter", .ref it), (Str.ofString "token", .str (S R.1) tt)] m) ∧
     News g L h' ((it, citEnd) :: (q, methodObj (.ref 73) (.ref Y.x)) :: (lexE w Y ln tl [] pk lvs lk ++ news)))) ?_ ?_
  · (repeat' ((fail_if_success (with_reducible first | show wpAny _ _ (exec (Stmt.For _ _ _ _ _) _) _ _ _ | show wpAny _ _ (call (Value.ref 73) _) _ _ _ | show ItAt _ _ _ _ | show NextI _ _ _ | show EndQ _ _ _ | show Exit1 _ _ _ _ _ _ _ _ _ | show Turn1 _ _ _ _ _ _ _ _ _ | show TurnN _ _ _ _ _ _ _ _ _ | show wpAny _ _ (pyIter _) _ _ _ | show wpAny _ _ (exec (Stmt.While _ _ _ _) _) _ _ _)); first | (k_unfold; (try dsimp only)) | (k_end; wrow_close) | walk1 | (dsimp only; walk1) | (leave1; walk_say "STEP leave1"; try dsimp only) | fail "no step"))
    exact ⟨rfl, ⟨_, (N _ (List.mem_cons_self ..)).1, rfl⟩, _, .inl ⟨ln, tl, lvs, lk, l, tt, m, _, _, rfl, hR, Nat.lt_succ_self _, hln, hl, hS, hi1, F, N⟩⟩
  · clear F N hS hl hln hi1 hR
    rintro n s' (⟨ln, tl, lvs, lk, l, tt, m, h', tk', rfl, hR, hln, hb1, hb3, hS, hi1, F, N⟩ | ⟨ln, tl, lvs, lk, tt, m, h', tk', rfl, hR2, hb1, hS, hi1, F, N⟩)
    · refine' nx_c (un := _) B F X N T ?hk hC hY ho1 ho2 ho3 hS ?h1 hb1 hi1 hi2 hi3 hq1 hq2 hq3 ?h2 ?h3 ?hn ?hc
      case hk => exact rfl
      case h1 => omega
      case h2 => ktr_room
      case h3 => ktr_units
      case hn =>
        rintro rfl ln' tl' lvs' lk' h2 tk2 c1 hS' F' N'
        obtain rfl : R = ([], []) := by rw [← hR]; rfl
        exact hend rfl _ _ _ _ _ _ _ _ c1 hS' F' N'
      case hc =>
        rintro c l' rfl ln' tl' lvs' lk' t' h2 tk2 c1 hS' F' N'
        clear F N hS
        simp only [List.length_cons] at hln hb3
        have hx1 : (S []).length = 0 := rfl
        have hx2 : (⟨#[c]⟩ : PySem.Str).length = 1 := rfl
        generalize hxt : S [] = xt at F' hx1
        unfold lexE at N'
        dsimp only [List.cons_append, List.nil_append] at N'
        dsimp only
        (repeat' ((fail_if_success (with_reducible first | show wpAny _ _ (exec (Stmt.For _ _ _ _ _) _) _ _ _ | show wpAny _ _ (call (Value.ref 73) _) _ _ _ | show ItAt _ _ _ _ | show NextI _ _ _ | show EndQ _ _ _ | show Exit1 _ _ _ _ _ _ _ _ _ | show Turn1 _ _ _ _ _ _ _ _ _ | show TurnN _ _ _ _ _ _ _ _ _ | show wpAny _ _ (pyIter _) _ _ _ | show wpAny _ _ (exec (Stmt.While _ _ _ _) _) _ _ _)); first | (k_unfold; (try dsimp only)) | (k_end; wrow_close) | walk1 | (dsimp only; walk1) | (leave1; walk_say "STEP leave1"; try dsimp only) | fail "no step"))
        · (with_reducible rename Fr g _ _ _ => kF)
          (with_reducible rename News g _ _ _ => kN)
          have hw := wsq_f (c := c) (by assumption)
          obtain rfl := chq_t (c := c) (by assumption)
          subst hxt
          obtain rfl : R = lexQ (l'.length + 1) [] l' := by rw [← hR]; simp only [lexTk, if_neg hw, if_true]
          refine' segQ (Y := Y) (tok := []) (l := l') B X T kN (fr_frm [(Str.ofString "self", .ref Y.x), (Str.ofString "fiter", .ref it), (Str.ofString "token", .str (S []) tt)] kF ⟨rfl, rfl, rfl, trivial⟩) hC hY ho1 ho2 ho3 hS' ?h1 c1 (lexE_ne hi1) hi2 hi3 hq1 hq2 hq3 hdp hun ?h4 ?r ?e
          case h1 => omega
          case h4 => simp only [List.length_nil]; omega
          case r =>
            intro ln1 tl1 lvs1 lk1 t1 h1 tk1 m1 d1 hS1 F1 N1
            exact hret _ _ _ _ _ _ _ _ d1 hS1 F1 N1
          case e =>
            intro e1 ln1 tl1 lvs1 lk1 tt1 h1 tk1 m1 d1 hS1 F1 N1
            (repeat' ((fail_if_success (with_reducible first | show wpAny _ _ (exec (Stmt.For _ _ _ _ _) _) _ _ _ | show wpAny _ _ (call (Value.ref 73) _) _ _ _ | show ItAt _ _ _ _ | show NextI _ _ _ | show EndQ _ _ _ | show Exit1 _ _ _ _ _ _ _ _ _ | show Turn1 _ _ _ _ _ _ _ _ _ | show TurnN _ _ _ _ _ _ _ _ _ | show wpAny _ _ (pyIter _) _ _ _ | show wpAny _ _ (exec (Stmt.While _ _ _ _) _) _ _ _)); first | (k_unfold; (try dsimp only)) | (k_end; wrow_close) | walk1 | (dsimp only; walk1) | (leave1; walk_say "STEP leave1"; try dsimp only) | fail "no step"))
            exact ⟨0, by omega, .inr ⟨_, _, _, _, _, _, _, _, rfl, e1, d1, hS1, lexE_ne hi1, F1, N1⟩⟩
        · (with_reducible rename Fr g _ _ _ => kF)
          (with_reducible rename News g _ _ _ => kN)
          have hw := wsq_f (c := c) (by assumption)
          obtain rfl := chb_t (c := c) (by assumption)
          show wpAny _ _ (call (.ref 73) [.ref Y.x]) _ _ _
          obtain ⟨q1, q2, q3⟩ := offs (o1 := citObj (.ref q) (.str ⟨#[]⟩ ts)) (o2 := methodObj (.ref 73) (.ref Y.x)) hi1 hq1 hq2 hq3 ho1 ho2 ho3
          refine' rc_c (news := (it, citObj (.ref q) (.str ⟨#[]⟩ ts)) :: (q, methodObj (.ref 73) (.ref Y.x)) :: news) (Y := Y) (ln := ln') (tl := tl') (lvs := lvs') (lk := lk') (l := l') (pk := pk) (pvs := []) B kF X (news_to kN) T ?hk hC hY q1 q2 q3 hS' ?hl c1 ?hd ?hu ?_
          case hk => exact rfl
          case hl => omega
          case hd => ktr_room
          case hu => ktr_units
          clear kF kN hS' c1
          rintro ln1 tl1 lvs1 lk1 t1 h1 tk1 d1 hS1 F1 N1
          replace N1 := news_back N1
          unfold lexE at N1
          dsimp only [List.cons_append, List.nil_append] at N1
          have hx3 : (S (l'.take 1)).length ≤ 1 := by rw [S_len, List.length_take]; omega
          generalize hxu : S (l'.take 1) = xu at F1 hx3 ⊢
          (repeat' ((fail_if_success (with_reducible first | show wpAny _ _ (exec (Stmt.For _ _ _ _ _) _) _ _ _ | show wpAny _ _ (call (Value.ref 73) _) _ _ _ | show ItAt _ _ _ _ | show NextI _ _ _ | show EndQ _ _ _ | show Exit1 _ _ _ _ _ _ _ _ _ | show Turn1 _ _ _ _ _ _ _ _ _ | show TurnN _ _ _ _ _ _ _ _ _ | show wpAny _ _ (pyIter _) _ _ _ | show wpAny _ _ (exec (Stmt.While _ _ _ _) _) _ _ _)); first | (k_unfold; (try dsimp only)) | (k_end; wrow_close) | walk1 | (dsimp only; walk1) | (leave1; walk_say "STEP leave1"; try dsimp only) | fail "no step"))
          (with_reducible rename Fr g _ _ _ => kF)
          (with_reducible rename News g _ _ _ => kN)
          subst hxt hxu
          rw [S_app] at kF
          obtain rfl : R = lexU (l'.tail.length + 1) (l'.take 1) l'.tail := by rw [← hR]; simp only [lexTk, if_neg hw, if_true, if_neg (show ¬ (92 : Nat) = 34 by decide)]
          refine' segU (Y := Y) (tok := l'.take 1) (l := l'.tail) B X T kN (fr_frm [(Str.ofString "self", .ref Y.x), (Str.ofString "fiter", .ref it), (Str.ofString "token", .str (S (l'.take 1)) _)] kF ⟨rfl, rfl, rfl, trivial⟩) hC hY ho1 ho2 ho3 hS1 ?h1 d1 (lexE_ne hi1) hi2 hi3 hq1 hq2 hq3 hdp hun ?h4 ?r ?e
          case h1 => rw [List.length_tail]; omega
          case h4 => rw [List.length_tail, List.length_take]; omega
          case r =>
            intro ln2 tl2 lvs2 lk2 t2 h2' tk2' m2 e1 hS2 F2 N2
            exact hret _ _ _ _ _ _ _ _ e1 hS2 F2 N2
          case e =>
            intro e0 ln2 tl2 lvs2 lk2 tt2 h2' tk2' m2 e1 hS2 F2 N2
            (repeat' ((fail_if_success (with_reducible first | show wpAny _ _ (exec (Stmt.For _ _ _ _ _) _) _ _ _ | show wpAny _ _ (call (Value.ref 73) _) _ _ _ | show ItAt _ _ _ _ | show NextI _ _ _ | show EndQ _ _ _ | show Exit1 _ _ _ _ _ _ _ _ _ | show Turn1 _ _ _ _ _ _ _ _ _ | show TurnN _ _ _ _ _ _ _ _ _ | show wpAny _ _ (pyIter _) _ _ _ | show wpAny _ _ (exec (Stmt.While _ _ _ _) _) _ _ _)); first | (k_unfold; (try dsimp only)) | (k_end; wrow_close) | walk1 | (dsimp only; walk1) | (leave1; walk_say "STEP leave1"; try dsimp only) | fail "no step"))
            exact ⟨0, by omega, .inr ⟨_, _, _, _, _, _, _, _, rfl, e0, e1, hS2, lexE_ne hi1, F2, N2⟩⟩
        · (with_reducible rename Fr g _ _ _ => kF)
          (with_reducible rename News g _ _ _ => kN)
          have hw := wsq_f (c := c) (by assumption)
          have hb := chq_f (c := c) (by assumption)
          have hb' := chb_f (c := c) (by assumption)
          subst hxt
          rw [show S [] ++ (⟨#[c]⟩ : PySem.Str) = S ([] ++ [c]) from S_app [] [c]] at kF
          obtain rfl : R = lexU (l'.length + 1) [c] l' := by rw [← hR]; simp only [lexTk, if_neg hw, if_neg hb, if_neg hb']
          refine' segU (Y := Y) (tok := [c]) (l := l') B X T kN (fr_frm [(Str.ofString "self", .ref Y.x), (Str.ofString "fiter", .ref it), (Str.ofString "token", .str (S [c]) _)] kF ⟨rfl, rfl, rfl, trivial⟩) hC hY ho1 ho2 ho3 hS' ?h1 c1 (lexE_ne hi1) hi2 hi3 hq1 hq2 hq3 hdp hun ?h4 ?r ?e
          case h1 => omega
          case h4 => simp only [List.length_singleton]; omega
          case r =>
            intro ln1 tl1 lvs1 lk1 t1 h1 tk1 m1 d1 hS1 F1 N1
            exact hret _ _ _ _ _ _ _ _ d1 hS1 F1 N1
          case e =>
            intro e1 ln1 tl1 lvs1 lk1 tt1 h1 tk1 m1 d1 hS1 F1 N1
            (repeat' ((fail_if_success (with_reducible first | show wpAny _ _ (exec (Stmt.For _ _ _ _ _) _) _ _ _ | show wpAny _ _ (call (Value.ref 73) _) _ _ _ | show ItAt _ _ _ _ | show NextI _ _ _ | show EndQ _ _ _ | show Exit1 _ _ _ _ _ _ _ _ _ | show Turn1 _ _ _ _ _ _ _ _ _ | show TurnN _ _ _ _ _ _ _ _ _ | show wpAny _ _ (pyIter _) _ _ _ | show wpAny _ _ (exec (Stmt.While _ _ _ _) _) _ _ _)); first | (k_unfold; (try dsimp only)) | (k_end; wrow_close) | walk1 | (dsimp only; walk1) | (leave1; walk_say "STEP leave1"; try dsimp only) | fail "no step"))
            exact ⟨0, by omega, .inr ⟨_, _, _, _, _, _, _, _, rfl, e1, d1, hS1, lexE_ne hi1, F1, N1⟩⟩
        · (with_reducible rename Fr g _ _ _ => kF)
          (with_reducible rename News g _ _ _ => kN)
          have hw := wsq_t (c := c) (by assumption)
          subst hxt
          refine ⟨n - 1, by omega, .inl ⟨_, _, _, _, l', _, _, _, _, rfl, ?_, by omega, c1, by omega, hS', lexE_ne hi1, fr_frm _ kF ⟨rfl, rfl, rfl, trivial⟩, kN⟩⟩
          rw [← hR]; simp only [lexTk, if_pos hw]
    · refine cit_next_end rfl (N _ (List.mem_cons_self ..)).1 fun h2 hx hi => ?_
      obtain ⟨F3, N3⟩ := fr_ext F N hx hi (fun p hp => by
          rcases List.mem_cons.mp hp with rfl | hp
          · exact Ne.symm hi3
          · rcases List.mem_append.mp hp with hp | hp
            · exact hi1 _ hp
            · exact hi2 _ hp)
      exact hend hR2 _ _ _ _ _ _ _ _ hb1 hS F3 N3
end
end Mine
end

section
open PySem PySem.W PySem.Spec PySem.Calls PyProof.Rows
set_option Elab.async false
set_option maxRecDepth 100000
set_option maxHeartbeats 0
set_option pp.deepTerms false
set_option pp.maxSteps 2000
namespace Mine
section
variable {w : World} {mean : ExcName → Option Value} {mg mb : SMap} {dp un : Nat} {gd : Option (List Code)} {cn : PySem.Str} {cs : Scope} {a₀ : Addr} {ccd : Value} {cl : List (PySem.Str × Addr)} {outer outer1 : List Env} {base g : Heap} {L L₀ : Addr} {m : SMap} {news : List (Addr × Obj)} {s : Shared} {Q : Flow → Shared → Prop}

theorem gt0_c {L a : Addr} {h₀ : Heap} {A₀ : Around} {Q E : Value → Shared → Prop} {Y : LexA} {ln : Int} {tl : Tok} {lvs : List Value} {pk lk : Nat} {l : List Nat} {N0 : Int}
    (B : Below A₀ base outer h₀) (F : Fr h₀ L s.heap m) (X : (hd01.heap_1 w.params).In h₀) (N : News h₀ L s.heap (lexE w Y ln tl [] pk lvs lk ++ news)) (T : Top VV LL mean mg mb h₀) (hk : cs.kind = .function)
   (hC : CodeHd base 248 244) (hY : LexOk Y) (ho1 : ∀ p ∈ news, p.1 ≠ Y.pb) (ho2 : ∀ p ∈ news, p.1 ≠ Y.dx) (ho3 : ∀ p ∈ news, p.1 ≠ Y.lf) (hS : StrsAre lvs (chs l)) (hl : l.length ≤ 1000) (hln : LnOk N0 ln l)(hdp : dp + 12 < recursionLimit) (hun : un + 80 < cLine)
    (hret : ∀ (ln' : Int) (tl' : Tok) (lvs' : List Value) (lk' : Nat) (t' : Tok) (h' : Heap) (tk' : Nat), LnOk N0 ln' (lexTk l).2 → StrsAre lvs' (chs (lexTk l).2) → Fr h₀ L h' m →
      News h₀ L h' (lexE w Y ln' tl' [] pk lvs' lk' ++ news) → Q (.str (S (lexTk l).1) t') { s with heap := h', toks := tk' }) :
    wpAny (model PP w) (ktrTop dp un gd cn cs L a ccd cl outer) (call (.ref 80) [.ref Y.x]) Q E s := by
  obtain ⟨⟨z1, z2, z3, z4, z5, z6, z7⟩, ⟨z8, z9, z10, z11⟩, fcls, fdict, ⟨ffd, ffun⟩, ⟨vs1, tq1, hc1, hc2⟩, hoc⟩ := id hY
  unfold lexE at N
  dsimp only [List.cons_append, List.nil_append] at N
  refine wpAny_noRaise ?_
  refine wpAny_call ?_
  k_dflt ktr_enter
  refine wpAny_noRaise ?_
  all_goals ((repeat' ((fail_if_success (with_reducible first | show wpAny _ _ (call (Value.builtin "iter") _) _ _ _ | show wpAny _ _ (exec (Stmt.For _ _ _ _ _) _) _ _ _ | show wpAny _ _ (call (Value.ref 73) _) _ _ _ | show ItAt _ _ _ _ | show NextI _ _ _ | show EndQ _ _ _ | show Exit1 _ _ _ _ _ _ _ _ _ | show Turn1 _ _ _ _ _ _ _ _ _ | show TurnN _ _ _ _ _ _ _ _ _ | show wpAny _ _ (pyIter _) _ _ _ | show wpAny _ _ (exec (Stmt.While _ _ _ _) _) _ _ _)); first | (k_unfold; (try dsimp only)) | (k_end; wrow_close) | walk1 | (dsimp only; walk1) | (leave1; walk_say "STEP leave1"; try dsimp only) | fail "no step")))
  (with_reducible rename Fr _ _ _ _ => kF)
  (with_reducible rename News _ _ _ _ => kN)
  refine' iter2 kF kN ?hm ?_
  case hm => exact List.mem_cons_self ..
  clear kF kN
  intro it h9 F9 N9 l9
  have hi1 : ∀ p ∈ lexE w Y ln tl [] pk lvs lk, p.1 ≠ it := fun p hp => Nat.ne_of_lt (l9 p (.tail _ (List.mem_append_left news hp)))
  have hi2 : ∀ p ∈ news, p.1 ≠ it := fun p hp => Nat.ne_of_lt (l9 p (.tail _ (List.mem_append_right (lexE w Y ln tl [] pk lvs lk) hp)))
  have hi3 := Nat.ne_of_gt (l9 _ (List.mem_cons_self ..))
  dsimp only at hi3
  clear l9
  (repeat' ((fail_if_success (with_reducible first | show wpAny _ _ (call (Value.builtin "iter") _) _ _ _ | show wpAny _ _ (exec (Stmt.For _ _ _ _ _) _) _ _ _ | show wpAny _ _ (call (Value.ref 73) _) _ _ _ | show ItAt _ _ _ _ | show NextI _ _ _ | show EndQ _ _ _ | show Exit1 _ _ _ _ _ _ _ _ _ | show Turn1 _ _ _ _ _ _ _ _ _ | show TurnN _ _ _ _ _ _ _ _ _ | show wpAny _ _ (pyIter _) _ _ _ | show wpAny _ _ (exec (Stmt.While _ _ _ _) _) _ _ _)); first | (k_unfold; (try dsimp only)) | (k_end; wrow_close) | walk1 | (dsimp only; walk1) | (leave1; walk_say "STEP leave1"; try dsimp only) | fail "no step"))
  (with_reducible rename Fr _ _ _ _ => kF)
  (with_reducible rename News _ _ _ _ => kN)
  (with_reducible rename Below _ _ _ _ => kB)
  refine' segO (Y := Y) (l := l) (ln := ln) (tl := tl) (lvs := lvs) (lk := lk) (pk := pk) (news := news) ?B ?X ?T kN (fr_frm [(Str.ofString "self", .ref Y.x), (Str.ofString "fiter", .ref it), (Str.ofString "token", .str (S []) _)] kF ⟨rfl, rfl, rfl, trivial⟩) hC hY ho1 ho2 ho3 hS hl hln hi1 hi2 hi3 ?q1 ?q2 ?q3 ?hd ?hu ?r ?e
  case B => exact kB
  case X => k_asm
  case T => k_asm
  case q1 => k_ne
  case q2 => k_ne
  case q3 => k_ne
  case hd => omega
  case hu => omega
  case r =>
    intro ln1 tl1 lvs1 lk1 t1 h1 tk1 m1 d1 hS1 F1 N1
    (repeat' ((fail_if_success (with_reducible first | show wpAny _ _ (call (Value.builtin "iter") _) _ _ _ | show wpAny _ _ (exec (Stmt.For _ _ _ _ _) _) _ _ _ | show wpAny _ _ (call (Value.ref 73) _) _ _ _ | show ItAt _ _ _ _ | show NextI _ _ _ | show EndQ _ _ _ | show Exit1 _ _ _ _ _ _ _ _ _ | show Turn1 _ _ _ _ _ _ _ _ _ | show TurnN _ _ _ _ _ _ _ _ _ | show wpAny _ _ (pyIter _) _ _ _ | show wpAny _ _ (exec (Stmt.While _ _ _ _) _) _ _ _)); first | (k_unfold; (try dsimp only)) | (k_end; wrow_close) | walk1 | (dsimp only; walk1) | (leave1; walk_say "STEP leave1"; try dsimp only) | fail "no step"))
    (with_reducible rename Fr h₀ _ _ _ => kF)
    (with_reducible rename News h₀ _ _ _ => kN)
    exact hret _ _ _ _ _ _ _ d1 hS1 kF kN
  case e =>
    intro e0 ln1 tl1 lvs1 lk1 tt1 h1 tk1 m1 d1 hS1 F1 N1
    (repeat' ((fail_if_success (with_reducible first | show wpAny _ _ (call (Value.builtin "iter") _) _ _ _ | show wpAny _ _ (exec (Stmt.For _ _ _ _ _) _) _ _ _ | show wpAny _ _ (call (Value.ref 73) _) _ _ _ | show ItAt _ _ _ _ | show NextI _ _ _ | show EndQ _ _ _ | show Exit1 _ _ _ _ _ _ _ _ _ | show Turn1 _ _ _ _ _ _ _ _ _ | show TurnN _ _ _ _ _ _ _ _ _ | show wpAny _ _ (pyIter _) _ _ _ | show wpAny _ _ (exec (Stmt.While _ _ _ _) _) _ _ _)); first | (k_unfold; (try dsimp only)) | (k_end; wrow_close) | walk1 | (dsimp only; walk1) | (leave1; walk_say "STEP leave1"; try dsimp only) | fail "no step"))
    (with_reducible rename Fr h₀ _ _ _ => kF)
    (with_reducible rename News h₀ _ _ _ => kN)
    refine hret _ _ _ _ _ _ _ ?_ ?_ kF (cb_drop (news := lexE w Y ln1 tl1 [] pk lvs1 lk1 ++ news) kN (fun p hp => .tail _ (.tail _ hp)))
    · rw [e0]; exact d1
    · rw [e0]; exact hS1
end
end Mine
end

section
open PySem PySem.W PySem.Spec PySem.Calls PyProof.Rows
set_option Elab.async false
set_option maxRecDepth 100000
set_option maxHeartbeats 0
set_option pp.deepTerms false
set_option pp.maxSteps 2000
namespace Mine
section
variable {w : World} {mean : ExcName → Option Value} {mg mb : SMap} {dp un : Nat} {gd : Option (List Code)} {cn : PySem.Str} {cs : Scope} {a₀ : Addr} {ccd : Value} {cl : List (PySem.Str × Addr)} {outer outer1 : List Env} {base g : Heap} {L L₀ : Addr} {m : SMap} {news : List (Addr × Obj)} {s : Shared} {Q : Flow → Shared → Prop}

theorem hd_c {L a : Addr} {h₀ : Heap} {A₀ : Around} {Q E : Value → Shared → Prop}
    (B : Below A₀ base outer h₀) (F : Fr h₀ L s.heap m) (X : (hd01.heap_1 w.params).In h₀) (N : News h₀ L s.heap (news)) (T : Top VV LL mean mg mb h₀) (hk : cs.kind = .function)
   (hdp : dp + 12 < recursionLimit) (hun : un + 80 < cLine)
    (hret : ∀ (x dx l : Addr) (t : Tok) (h' : Heap) (tk' : Nat), AllLt dx news → @LT.lt Nat _ dx x → @LT.lt Nat _ x l → Fr h₀ L h' m → News h₀ L h' ((l, listOf #[] 0) :: (x, instObj 238 dx) :: (dx, dictOf [⟨PyData.keyHash w.params (Str.ofString "_headers"), .str (Str.ofString "_headers") t, .ref l⟩] 1) :: news) → Q (.ref x) { s with heap := h', toks := tk' }) :
    wpAny (model PP w) (ktrTop dp un gd cn cs L a ccd cl outer) (call (.ref 238) []) Q E s := by
  refine wpAny_noRaise ?_
  k_dflt (refine' call_cls ?k1 ?k2 ?k3 ?k4 ?k5 ?k6 ?_; (case k1 => k_asm); (case k2 => k_asm); (case k3 => k_asm); (case k4 => k_is); (case k5 => k_is); (case k6 => k_is); k_whole; intro x' d' h' F' N' l1 l2; (try k_lt l1); (try k_lt2 l2))
  walk_at "ENTERB"
  (repeat' ((fail_if_success (with_reducible first | show NilAt _ _ _ _ _ _ _ _ _ | show EndQ _ _ _ | show Exit1 _ _ _ _ _ _ _ _ _ | show Turn1 _ _ _ _ _ _ _ _ _ | show TurnN _ _ _ _ _ _ _ _ _ | show wpAny _ _ (pyIter _) _ _ _ | show wpAny _ _ (exec (Stmt.While _ _ _ _) _) _ _ _)); first | (k_unfold; (try dsimp only)) | (k_end; wrow_close) | walk1 | (dsimp only; walk1) | (leave1; walk_say "STEP leave1"; try dsimp only) | fail "no step"))
  (with_reducible rename Fr _ _ _ _ => kF)
  (with_reducible rename News _ _ _ _ => kN)
  refine' For_nil rfl kF kN (List.mem_cons_self ..) ?h ?q
  case h =>
    (repeat' ((fail_if_success (with_reducible first | show NilAt _ _ _ _ _ _ _ _ _ | show EndQ _ _ _ | show Exit1 _ _ _ _ _ _ _ _ _ | show Turn1 _ _ _ _ _ _ _ _ _ | show TurnN _ _ _ _ _ _ _ _ _ | show wpAny _ _ (pyIter _) _ _ _ | show wpAny _ _ (exec (Stmt.While _ _ _ _) _) _ _ _)); first | (k_unfold; (try dsimp only)) | (k_end; wrow_close) | walk1 | (dsimp only; walk1) | (leave1; walk_say "STEP leave1"; try dsimp only) | fail "no step"))
    exact ⟨rfl, _, _, rfl, kF, kN, List.mem_cons_self ..⟩
  case q =>
    clear kF kN
    intro h9 tk9 F9 N9
    (repeat' ((fail_if_success (with_reducible first | show NilAt _ _ _ _ _ _ _ _ _ | show EndQ _ _ _ | show Exit1 _ _ _ _ _ _ _ _ _ | show Turn1 _ _ _ _ _ _ _ _ _ | show TurnN _ _ _ _ _ _ _ _ _ | show wpAny _ _ (pyIter _) _ _ _ | show wpAny _ _ (exec (Stmt.While _ _ _ _) _) _ _ _)); first | (k_unfold; (try dsimp only)) | (k_end; wrow_close) | walk1 | (dsimp only; walk1) | (leave1; walk_say "STEP leave1"; try dsimp only) | fail "no step"))
    (with_reducible rename Fr h₀ _ _ _ => kF)
    (with_reducible rename News h₀ _ _ _ => kN)
    refine hret _ _ _ _ _ _ (allLt_of l1) l2 ?_ kF kN
    omega
end
end Mine
end

section
open PySem PySem.W PySem.Spec PySem.Calls PyProof.Rows
set_option Elab.async false
set_option maxRecDepth 100000
set_option maxHeartbeats 0
set_option pp.deepTerms false
set_option pp.maxSteps 2000
namespace Mine
/-- the code of a pattern -/
noncomputable def patCode (w : World) (c : Addr) : Array Nat := match (hd01.heap_1 w.params).lookup c with
  | some ⟨_, _, .seq xs _, _⟩ => (xs.map Builtin.Re.reRawOf).map (·.toNat)
  | _ => #[]
section
variable {w : World} {mean : ExcName → Option Value} {mg mb : SMap} {dp un : Nat} {gd : Option (List Code)} {cn : PySem.Str} {cs : Scope} {a₀ : Addr} {ccd : Value} {cl : List (PySem.Str × Addr)} {outer outer1 : List Env} {base g : Heap} {L L₀ : Addr} {m : SMap} {news : List (Addr × Obj)} {s : Shared} {Q : Flow → Shared → Prop}

theorem cvN_c {L a : Addr} {h₀ : Heap} {A₀ : Around} {Q E : Value → Shared → Prop} {v : Value} {x : PySem.Str} {t : Tok}
    (B : Below A₀ base outer h₀) (F : Fr h₀ L s.heap m) (X : (hd01.heap_1 w.params).In h₀) (N : News h₀ L s.heap (news)) (T : Top VV LL mean mg mb h₀) (hk : cs.kind = .function)
   (hno : reNo (patCode w 103) x = true) (hdp : dp + 12 < recursionLimit) (hun : un + 80 < cLine)
    (hret : ∀ (h' : Heap) (tk' : Nat), Fr h₀ L h' m → News h₀ L h' news → Q (.str x t) { s with heap := h', toks := tk' }) :
    wpAny (model PP w) (ktrTop dp un gd cn cs L a ccd cl outer) (call (.ref 139) [v, .str x t] [(Str.ofString "name", .bool true)]) Q E s := by
  refine wpAny_noRaise ?_
  refine wpAny_call ?_
  k_dflt ktr_enter
  refine wpAny_noRaise ?_
  all_goals ((repeat' ((fail_if_success (with_reducible first | show wpAny _ _ (call (Value.builtin "re.Pattern.search") _) _ _ _ | show wpAny _ _ (getMethod (Value.ref 109) _ _) _ _ _ | show wpAny _ _ (getMethod (Value.ref 104) _ _) _ _ _ | show EndQ _ _ _ | show Exit1 _ _ _ _ _ _ _ _ _ | show Turn1 _ _ _ _ _ _ _ _ _ | show TurnN _ _ _ _ _ _ _ _ _ | show wpAny _ _ (pyIter _) _ _ _ | show wpAny _ _ (exec (Stmt.While _ _ _ _) _) _ _ _)); first | (k_unfold; (try dsimp only)) | (k_end; wrow_close) | walk1 | (dsimp only; walk1) | (leave1; walk_say "STEP leave1"; try dsimp only) | fail "no step")))
  (with_reducible rename Fr _ _ _ _ => kF)
  have kX := (Frag.In.keeps X (Fr.keep F))
  have kX2 := Frag.In.keeps (by assumption) (Fr.keep kF)
  refine' re_method (kX2 104 _ rfl) rfl rfl ?_
  (repeat' ((fail_if_success (with_reducible first | show wpAny _ _ (call (Value.builtin "re.Pattern.search") _) _ _ _ | show wpAny _ _ (getMethod (Value.ref 109) _ _) _ _ _ | show wpAny _ _ (getMethod (Value.ref 104) _ _) _ _ _ | show EndQ _ _ _ | show Exit1 _ _ _ _ _ _ _ _ _ | show Turn1 _ _ _ _ _ _ _ _ _ | show TurnN _ _ _ _ _ _ _ _ _ | show wpAny _ _ (pyIter _) _ _ _ | show wpAny _ _ (exec (Stmt.While _ _ _ _) _) _ _ _)); first | (k_unfold; (try dsimp only)) | (k_end; wrow_close) | walk1 | (dsimp only; walk1) | (leave1; walk_say "STEP leave1"; try dsimp only) | fail "no step"))
  refine' re_search (kX2 104 _ rfl) (kX2 103 _ rfl) rfl ?hno ?_
  case hno => exact hno
  clear kX kX2
  (repeat' ((fail_if_success (with_reducible first | show wpAny _ _ (call (Value.builtin "re.Pattern.search") _) _ _ _ | show wpAny _ _ (getMethod (Value.ref 109) _ _) _ _ _ | show wpAny _ _ (getMethod (Value.ref 104) _ _) _ _ _ | show EndQ _ _ _ | show Exit1 _ _ _ _ _ _ _ _ _ | show Turn1 _ _ _ _ _ _ _ _ _ | show TurnN _ _ _ _ _ _ _ _ _ | show wpAny _ _ (pyIter _) _ _ _ | show wpAny _ _ (exec (Stmt.While _ _ _ _) _) _ _ _)); first | (k_unfold; (try dsimp only)) | (k_end; wrow_close) | walk1 | (dsimp only; walk1) | (leave1; walk_say "STEP leave1"; try dsimp only) | fail "no step"))
  refine hret _ _ ?_ ?_
  · k_asm
  · k_asm

theorem cvV_c {L a : Addr} {h₀ : Heap} {A₀ : Around} {Q E : Value → Shared → Prop} {v : Value} {x : PySem.Str} {t : Tok}
    (B : Below A₀ base outer h₀) (F : Fr h₀ L s.heap m) (X : (hd01.heap_1 w.params).In h₀) (N : News h₀ L s.heap (news)) (T : Top VV LL mean mg mb h₀) (hk : cs.kind = .function)
   (hno : reNo (patCode w 108) x = true) (hdp : dp + 12 < recursionLimit) (hun : un + 80 < cLine)
    (hret : ∀ (h' : Heap) (tk' : Nat), Fr h₀ L h' m → News h₀ L h' news → Q (.str x t) { s with heap := h', toks := tk' }) :
    wpAny (model PP w) (ktrTop dp un gd cn cs L a ccd cl outer) (call (.ref 139) [v, .str x t] [(Str.ofString "name", .bool false)]) Q E s := by
  refine wpAny_noRaise ?_
  refine wpAny_call ?_
  k_dflt ktr_enter
  refine wpAny_noRaise ?_
  all_goals ((repeat' ((fail_if_success (with_reducible first | show wpAny _ _ (call (Value.builtin "re.Pattern.search") _) _ _ _ | show wpAny _ _ (getMethod (Value.ref 109) _ _) _ _ _ | show wpAny _ _ (getMethod (Value.ref 104) _ _) _ _ _ | show EndQ _ _ _ | show Exit1 _ _ _ _ _ _ _ _ _ | show Turn1 _ _ _ _ _ _ _ _ _ | show TurnN _ _ _ _ _ _ _ _ _ | show wpAny _ _ (pyIter _) _ _ _ | show wpAny _ _ (exec (Stmt.While _ _ _ _) _) _ _ _)); first | (k_unfold; (try dsimp only)) | (k_end; wrow_close) | walk1 | (dsimp only; walk1) | (leave1; walk_say "STEP leave1"; try dsimp only) | fail "no step")))
  (with_reducible rename Fr _ _ _ _ => kF)
  have kX := (Frag.In.keeps X (Fr.keep F))
  have kX2 := Frag.In.keeps (by assumption) (Fr.keep kF)
  refine' re_method (kX2 109 _ rfl) rfl rfl ?_
  (repeat' ((fail_if_success (with_reducible first | show wpAny _ _ (call (Value.builtin "re.Pattern.search") _) _ _ _ | show wpAny _ _ (getMethod (Value.ref 109) _ _) _ _ _ | show wpAny _ _ (getMethod (Value.ref 104) _ _) _ _ _ | show EndQ _ _ _ | show Exit1 _ _ _ _ _ _ _ _ _ | show Turn1 _ _ _ _ _ _ _ _ _ | show TurnN _ _ _ _ _ _ _ _ _ | show wpAny _ _ (pyIter _) _ _ _ | show wpAny _ _ (exec (Stmt.While _ _ _ _) _) _ _ _)); first | (k_unfold; (try dsimp only)) | (k_end; wrow_close) | walk1 | (dsimp only; walk1) | (leave1; walk_say "STEP leave1"; try dsimp only) | fail "no step"))
  refine' re_search (kX2 109 _ rfl) (kX2 108 _ rfl) rfl ?hno ?_
  case hno => exact hno
  clear kX kX2
  (repeat' ((fail_if_success (with_reducible first | show wpAny _ _ (call (Value.builtin "re.Pattern.search") _) _ _ _ | show wpAny _ _ (getMethod (Value.ref 109) _ _) _ _ _ | show wpAny _ _ (getMethod (Value.ref 104) _ _) _ _ _ | show EndQ _ _ _ | show Exit1 _ _ _ _ _ _ _ _ _ | show Turn1 _ _ _ _ _ _ _ _ _ | show TurnN _ _ _ _ _ _ _ _ _ | show wpAny _ _ (pyIter _) _ _ _ | show wpAny _ _ (exec (Stmt.While _ _ _ _) _) _ _ _)); first | (k_unfold; (try dsimp only)) | (k_end; wrow_close) | walk1 | (dsimp only; walk1) | (leave1; walk_say "STEP leave1"; try dsimp only) | fail "no step"))
  refine hret _ _ ?_ ?_
  · k_asm
  · k_asm
end
end Mine
end

section
open PySem PySem.W PySem.Spec PySem.Calls PyProof.Rows
set_option Elab.async false
set_option maxRecDepth 100000
set_option maxHeartbeats 0
namespace Mine
section
variable {h₀ h : Heap} {L : Addr} {e1 e2 e3 A B C : Addr × Obj} {r : List (Addr × Obj)}
theorem n3_1 (N : News h₀ L h (e1 :: A :: B :: C :: r)) : News h₀ L h (A :: B :: C :: e1 :: r) := news_sub N (fun p hp => by
  simp only [List.mem_cons] at hp ⊢
  rcases hp with h | h | h | h | h <;> simp [h])
theorem n3_2 (N : News h₀ L h (e1 :: e2 :: A :: B :: C :: r)) : News h₀ L h (A :: B :: C :: e1 :: e2 :: r) := news_sub N (fun p hp => by
  simp only [List.mem_cons] at hp ⊢
  rcases hp with h | h | h | h | h | h <;> simp [h])
theorem n3_3 (N : News h₀ L h (e1 :: e2 :: e3 :: A :: B :: C :: r)) : News h₀ L h (A :: B :: C :: e1 :: e2 :: e3 :: r) := news_sub N (fun p hp => by
  simp only [List.mem_cons] at hp ⊢
  rcases hp with h | h | h | h | h | h | h <;> simp [h])
end
theorem call_str3 {M : Model} {A : Around} {f r : Value} {x y x' y' : PySem.Str} {t u : Tok} {Q E : Value → Shared → Prop} {s : Shared} (e : x = x') (e2 : y = y') (h : wpAny M A (call f [r, Value.str x' t, Value.str y' u]) Q E s) : wpAny M A (call f [r, Value.str x t, Value.str y u]) Q E s := by
  subst e; subst e2; exact h
theorem pat103 (w : World) : patCode w 103 = #[14, 10, 4, 1, 1, 22, 0, 31, 16, 127, 0, 13, 7, 22, 0, 31, 16, 127, 0, 1] := by
  unfold patCode
  generalize hsc : (hd01.heap_1 w.params).lookup 103 = sc
  conv at hsc => lhs; whnf
  subst hsc
  dsimp only
  decide +kernel
theorem pat108 (w : World) : patCode w 108 = #[14, 14, 4, 1, 1, 9, 4294966783, 0, 0, 2147483648, 0, 0, 0, 0, 0, 13, 11, 9, 4294966783, 0, 0, 2147483648, 0, 0, 0, 0, 0, 1] := by
  unfold patCode
  generalize hsc : (hd01.heap_1 w.params).lookup 108 = sc
  conv at hsc => lhs; whnf
  subst hsc
  dsimp only
  decide +kernel
theorem reV (w : World) : reNo (patCode w 108) (Str.ofString "0") = true ∧ reNo (patCode w 108) (Str.ofString "1") = true ∧ reNo (patCode w 108) (Str.ofString "2") = true := by
  rw [pat108]
  refine ⟨?_, ?_, ?_⟩ <;> decide +kernel
theorem reNm (w : World) {d : Nat} (h : d ∈ six) : reNo (patCode w 103) ⟨#[d]⟩ = true := by
  rw [pat103]
  refine six_cases (P := fun d => reNo _ ⟨#[d]⟩ = true) ?_ h
  refine ⟨?_, ?_, ?_, ?_, ?_, ?_⟩ <;> decide +kernel
theorem reUp (w : World) {d : Nat} (h : d ∈ six) : reNo (patCode w 103) (Txt.lower (Txt.upper ⟨#[d]⟩)) = true := by
  rw [pat103]
  refine six_cases (P := fun d => reNo _ (Txt.lower (Txt.upper ⟨#[d]⟩)) = true) ?_ h
  refine ⟨?_, ?_, ?_, ?_, ?_, ?_⟩ <;> decide +kernel
theorem up_len {d : Nat} (h : d ∈ six) : (Txt.upper ⟨#[d]⟩).length ≤ 1000 := by
  refine six_cases (P := fun d => (Txt.upper ⟨#[d]⟩).length ≤ 1000) ?_ h
  refine ⟨?_, ?_, ?_, ?_, ?_, ?_⟩ <;> decide +kernel
theorem it3 (a b c : Nat) : Txt.item ⟨#[a, b, c]⟩ (0 + ((0 : Nat) : Int)) = ⟨#[a]⟩ ∧ Txt.item ⟨#[a, b, c]⟩ (0 + ((0 + 1 : Nat) : Int)) = ⟨#[b]⟩ ∧ Txt.item ⟨#[a, b, c]⟩ (0 + ((0 + 1 + 1 : Nat) : Int)) = ⟨#[c]⟩ := ⟨rfl, rfl, rfl⟩
theorem st3 : Str.ofString (toString (0 + ((0 : Nat) : Int))) = Str.ofString "0" ∧ Str.ofString (toString (0 + ((0 + 1 : Nat) : Int))) = Str.ofString "1" ∧ Str.ofString (toString (0 + ((0 + 1 + 1 : Nat) : Int))) = Str.ofString "2" := by
  refine ⟨?_, ?_, ?_⟩ <;> decide +kernel
end Mine
end

section
open PySem PySem.W PySem.Spec PySem.Calls PyProof.Rows
set_option Elab.async false
set_option maxRecDepth 100000
set_option maxHeartbeats 0
namespace Mine
theorem n6p {h₀ h : Heap} {L : Addr} {e A B C f g : Addr × Obj} {r : List (Addr × Obj)} (N : News h₀ L h (e :: A :: B :: C :: f :: g :: r)) : News h₀ L h (A :: B :: C :: g :: f :: e :: r) := news_sub N (fun p hp => by
  simp only [List.mem_cons] at hp ⊢
  rcases hp with h | h | h | h | h | h | h <;> simp [h])
theorem w3 {P : PySem.Str → Prop} {a b c : Nat} (h0 : P ⟨#[a]⟩) (h1 : P ⟨#[b]⟩) (h2 : P ⟨#[c]⟩) : ∀ i : Nat, i < 3 → P (Txt.item ⟨#[a, b, c]⟩ i)
  | 0, _ => h0
  | 1, _ => h1
  | 2, _ => h2
end Mine
namespace Mine
theorem n7_to {h₀ h : Heap} {L : Addr} {e1 e2 e3 e4 e5 e6 e7 : Addr × Obj} {l r : List (Addr × Obj)} (N : News h₀ L h (e1 :: e2 :: e3 :: e4 :: e5 :: e6 :: e7 :: (l ++ r))) : News h₀ L h (l ++ (e1 :: e2 :: e3 :: e4 :: e5 :: e6 :: e7 :: r)) := nsw (c := [e1, e2, e3, e4, e5, e6, e7]) N
theorem n7_back {h₀ h : Heap} {L : Addr} {e1 e2 e3 e4 e5 e6 e7 : Addr × Obj} {l r : List (Addr × Obj)} (N : News h₀ L h (l ++ (e1 :: e2 :: e3 :: e4 :: e5 :: e6 :: e7 :: r))) : News h₀ L h (e1 :: e2 :: e3 :: e4 :: e5 :: e6 :: e7 :: (l ++ r)) := nsw (l := [e1, e2, e3, e4, e5, e6, e7]) N
theorem off7 {d b a1 a2 a3 a4 a5 a6 : Addr} {p1 o1 o2 o3 o4 o5 o6 : Obj} {r : List (Addr × Obj)} (g1 : b ≠ d) (h1 : @Ne Nat a1 d) (h2 : @Ne Nat a2 d) (h3 : @Ne Nat a3 d) (h4 : @Ne Nat a4 d) (h5 : @Ne Nat a5 d) (h6 : @Ne Nat a6 d) (h : ∀ p ∈ r, p.1 ≠ d) : ∀ p ∈ (b, p1) :: (a1, o1) :: (a2, o2) :: (a3, o3) :: (a4, o4) :: (a5, o5) :: (a6, o6) :: r, p.1 ≠ d := by
  simp only [List.mem_cons, forall_eq_or_imp]; exact ⟨g1, h1, h2, h3, h4, h5, h6, h⟩
end Mine
namespace Mine
theorem same_ch (a : Nat) : Spec.same (.str ⟨#[a]⟩) (.str ⟨#[10]⟩) = decide (a = 10) := by
  unfold Spec.same
  by_cases h : a = 10
  · subst h; decide
  · have : ((⟨#[a]⟩ : PySem.Str) == ⟨#[10]⟩) = false := by
      rw [beq_eq_false_iff_ne]; intro e; injection e with e; injection e with e; injection e with e; exact h e
    simp [this, h]
theorem cnt_nl : ∀ l : List Nat, cnt 10 l = nlc l
  | [] => rfl
  | a :: r => by
    have ih := cnt_nl r
    have e : cnt 10 (a :: r) = (if Spec.same (.str ⟨#[a]⟩) (.str ⟨#[10]⟩) = true then 1 else 0) + cnt 10 r := rfl
    rw [e, ih, same_ch]
    unfold nlc
    rw [List.countP_cons]
    by_cases h : a = 10
    · simp [h]; omega
    · simp [h]
theorem count_nl (l : List Nat) : Txt.count (S l) (Str.ofString "\n") = nlc l := by
  rw [show Str.ofString "\n" = ⟨#[10]⟩ by decide +kernel, count_cnt]
  exact cnt_nl l
end Mine
end

section
open PySem PySem.W PySem.Spec PySem.Calls PyProof.Rows
set_option Elab.async false
set_option maxRecDepth 100000
set_option maxHeartbeats 0
set_option pp.deepTerms false
set_option pp.maxSteps 2000
namespace Mine
section
variable {w : World} {mean : ExcName → Option Value} {mg mb : SMap} {dp un : Nat} {gd : Option (List Code)} {cn : PySem.Str} {cs : Scope} {a₀ : Addr} {ccd : Value} {cl : List (PySem.Str × Addr)} {outer outer1 : List Env} {base g : Heap} {L L₀ : Addr} {m : SMap} {news : List (Addr × Obj)} {s : Shared} {Q : Flow → Shared → Prop}

theorem cb_drop3 {h₀ h : Heap} {L : Addr} {e1 e2 e3 : Addr × Obj} {r : List (Addr × Obj)} (N : News h₀ L h (e1 :: e2 :: e3 :: r)) : News h₀ L h (e1 :: r) := fun p hp => N p (by
  rcases List.mem_cons.1 hp with rfl | hp
  · exact List.mem_cons_self ..
  · exact List.mem_cons_of_mem _ (List.mem_cons_of_mem _ (List.mem_cons_of_mem _ hp)))
theorem ah_c {L a : Addr} {h₀ : Heap} {A₀ : Around} {Q E : Value → Shared → Prop} {x dx hl : Addr} {t tn tv : Tok} {xn xv : PySem.Str} {vs : List Value} {k : Nat}
    (B : Below A₀ base outer h₀) (F : Fr h₀ L s.heap m) (X : (hd01.heap_1 w.params).In h₀) (N : News h₀ L s.heap ((hl, listOf vs.toArray k) :: (x, instObj 238 dx) :: (dx, dictOf [⟨PyData.keyHash w.params (Str.ofString "_headers"), .str (Str.ofString "_headers") t, .ref hl⟩] 1) :: news)) (T : Top VV LL mean mg mb h₀) (hk : cs.kind = .function)
   (hnv : reNo (patCode w 108) xv = true) (hnn : reNo (patCode w 103) xn = true) (hlv : xv.length ≤ 1000) (hvs : vs.length ≤ 1000) (h12 : @LT.lt Nat _ dx x) (h23 : @LT.lt Nat _ x hl) (hnews : ∀ p ∈ news, p.1 ≠ hl) (hdp : dp + 22 < recursionLimit) (hun : un + 180 < cLine)
    (hret : ∀ (tup : Addr) (t1 t2 : Tok) (k' : Nat) (h' : Heap) (tk' : Nat), @LT.lt Nat _ hl tup → AllLt tup news → Fr h₀ L h' m → News h₀ L h' ((tup, { cls := .type "tuple", data := .seq #[.str xn t1, .str xv t2] }) :: (hl, listOf (vs ++ [Value.ref tup]).toArray k') :: (x, instObj 238 dx) :: (dx, dictOf [⟨PyData.keyHash w.params (Str.ofString "_headers"), .str (Str.ofString "_headers") t, .ref hl⟩] 1) :: news) → Q .none { s with heap := h', toks := tk' }) :
    wpAny (model PP w) (ktrTop dp un gd cn cs L a ccd cl outer) (call (.ref 235) [.ref x, .str xn tn, .str xv tv]) Q E s := by
  refine wpAny_noRaise ?_
  refine wpAny_call ?_
  k_dflt (refine' code_kw (binds := fun d => [(Str.ofString "self", .ref x), (Str.ofString "_name", .str xn tn), (Str.ofString "_value", .str xv tv), (Str.ofString "_params", .ref d)]) B F X N T ?kA ?kF ?kK ?k6 ?k7 ?k8 ?k9 ?kB ?_ ?c2 ?c3 ?c4 ?c5; (case kA => exact rfl); (case kF => exact rfl); (case kK => exact hk); (case k6 => k_is); (case k7 => k_is); (case k8 => k_room); (case k9 => exact fun M A E Q hq => wpAny_bind (m := alloc emptyDict) (wpAny_alloc (wpAny_pure hq))); (case c5 => decide); (case kB => exact fun d => locs rfl); (case c2 => exact rfl); (case c3 => exact rfl); (case c4 => exact rfl))
  intro d9 g' L' h' FG' F' N' l9 B' X' T'
  have hl9 : @LT.lt Nat _ hl d9 := l9 _ (List.mem_cons_self ..)
  have hxz : (d9 == sysModules) = false := by
    have hq9 : @Ne Nat d9 1 := by omega
    exact beq_false_of_ne hq9
  have hdd : emptyDict.IsDictOf (PySem.strKind PP w) [] := ⟨#[], 0, ⟨rfl, rfl, rfl⟩, rfl, (fun e he => absurd he (by simp)), .nil, List.nodup_nil⟩
  (try dsimp only)
  (try k_fold)
  refine wpAny_noRaise ?_
  (repeat' ((fail_if_success (with_reducible first | show NilAt _ _ _ _ _ _ _ _ _ | show NilView _ _ _ _ _ _ _ _ | show wpAny _ _ (exec (Stmt.For _ _ _ _ _) _) _ _ _ | show wpAny _ _ (call (Value.ref 139) _ _) _ _ _ | show EndQ _ _ _ | show Exit1 _ _ _ _ _ _ _ _ _ | show Turn1 _ _ _ _ _ _ _ _ _ | show TurnN _ _ _ _ _ _ _ _ _ | show wpAny _ _ (pyIter _) _ _ _ | show wpAny _ _ (exec (Stmt.While _ _ _ _) _) _ _ _)); first | (k_unfold; (try dsimp only)) | (k_end; wrow_close) | walk1 | (dsimp only; walk1) | (leave1; walk_say "STEP leave1"; try dsimp only) | fail "no step"))
  (with_reducible rename Fr _ _ _ _ => kF)
  (with_reducible rename News _ _ _ _ => kN)
  refine' cvV_c ?B kF ?X kN ?T ?hk hnv ?hd ?hu ?_
  case B => k_asm
  case X => k_asm
  case T => k_asm
  case hk => exact rfl
  case hd => ktr_room
  case hu => ktr_units
  clear kF kN
  intro h8 tk8 F8 N8
  (repeat' ((fail_if_success (with_reducible first | show NilAt _ _ _ _ _ _ _ _ _ | show NilView _ _ _ _ _ _ _ _ | show wpAny _ _ (exec (Stmt.For _ _ _ _ _) _) _ _ _ | show wpAny _ _ (call (Value.ref 139) _ _) _ _ _ | show EndQ _ _ _ | show Exit1 _ _ _ _ _ _ _ _ _ | show Turn1 _ _ _ _ _ _ _ _ _ | show TurnN _ _ _ _ _ _ _ _ _ | show wpAny _ _ (pyIter _) _ _ _ | show wpAny _ _ (exec (Stmt.While _ _ _ _) _) _ _ _)); first | (k_unfold; (try dsimp only)) | (k_end; wrow_close) | walk1 | (dsimp only; walk1) | (leave1; walk_say "STEP leave1"; try dsimp only) | fail "no step"))
  (with_reducible rename Fr _ _ _ _ => kF)
  (with_reducible rename News _ _ _ _ => kN)
  refine' For_nilItems (d := d9) rfl kF kN ?mm ?h ?q
  case mm => (repeat (first | exact List.Mem.head _ | apply List.Mem.tail))
  case h =>
    (repeat' ((fail_if_success (with_reducible first | show NilAt _ _ _ _ _ _ _ _ _ | show NilView _ _ _ _ _ _ _ _ | show wpAny _ _ (exec (Stmt.For _ _ _ _ _) _) _ _ _ | show wpAny _ _ (call (Value.ref 139) _ _) _ _ _ | show EndQ _ _ _ | show Exit1 _ _ _ _ _ _ _ _ _ | show Turn1 _ _ _ _ _ _ _ _ _ | show TurnN _ _ _ _ _ _ _ _ _ | show wpAny _ _ (pyIter _) _ _ _ | show wpAny _ _ (exec (Stmt.While _ _ _ _) _) _ _ _)); first | (k_unfold; (try dsimp only)) | (k_end; wrow_close) | walk1 | (dsimp only; walk1) | (leave1; walk_say "STEP leave1"; try dsimp only) | fail "no step"))
    (with_reducible rename Fr g' _ _ _ => kF)
    (with_reducible rename News g' _ _ _ => kN)
    refine ⟨_, rfl, _, _, rfl, kF, kN, ?_⟩
    (repeat (first | exact List.Mem.head _ | apply List.Mem.tail))
  case q =>
    clear kF kN
    intro h7 tk7 F7 N7
    (repeat' ((fail_if_success (with_reducible first | show NilAt _ _ _ _ _ _ _ _ _ | show NilView _ _ _ _ _ _ _ _ | show wpAny _ _ (exec (Stmt.For _ _ _ _ _) _) _ _ _ | show wpAny _ _ (call (Value.ref 139) _ _) _ _ _ | show EndQ _ _ _ | show Exit1 _ _ _ _ _ _ _ _ _ | show Turn1 _ _ _ _ _ _ _ _ _ | show TurnN _ _ _ _ _ _ _ _ _ | show wpAny _ _ (pyIter _) _ _ _ | show wpAny _ _ (exec (Stmt.While _ _ _ _) _) _ _ _)); first | (k_unfold; (try dsimp only)) | (k_end; wrow_close) | walk1 | (dsimp only; walk1) | (leave1; walk_say "STEP leave1"; try dsimp only) | fail "no step"))
    (with_reducible rename Fr _ _ _ _ => kF)
    (with_reducible rename News _ _ _ _ => kN)
    refine' cvN_c ?B kF ?X kN ?T ?hk hnn ?hd ?hu ?_
    case B => k_asm
    case X => k_asm
    case T => k_asm
    case hk => exact rfl
    case hd => ktr_room
    case hu => ktr_units
    clear kF kN
    intro h6 tk6 F6 N6
    (repeat' ((fail_if_success (with_reducible first | show NilAt _ _ _ _ _ _ _ _ _ | show NilView _ _ _ _ _ _ _ _ | show wpAny _ _ (exec (Stmt.For _ _ _ _ _) _) _ _ _ | show wpAny _ _ (call (Value.ref 139) _ _) _ _ _ | show EndQ _ _ _ | show Exit1 _ _ _ _ _ _ _ _ _ | show Turn1 _ _ _ _ _ _ _ _ _ | show TurnN _ _ _ _ _ _ _ _ _ | show wpAny _ _ (pyIter _) _ _ _ | show wpAny _ _ (exec (Stmt.While _ _ _ _) _) _ _ _)); first | (k_unfold; (try dsimp only)) | (k_end; wrow_close) | walk1 | (dsimp only; walk1) | (leave1; walk_say "STEP leave1"; try dsimp only) | fail "no step"))
    (with_reducible rename Fr h₀ _ _ _ => kF)
    (with_reducible rename News h₀ _ _ _ => kN)
    have hj : Txt.join (Str.ofString "; ") [xv] = xv := by simp only [Txt.join]; unfold Builtin.Str.glued; simp
    rw [hj] at kN
    have kN2 := cb_drop3 kN
    rw [List.push_toArray] at kN2
    refine hret _ _ _ _ _ _ ?_ ?_ kF kN2
    · omega
    · (repeat (rename _ ∧ _ => hcj; obtain ⟨_, _⟩ := hcj))
      assumption
end
end Mine
end

section
open PySem PySem.W PySem.Spec PySem.Calls PyProof.Rows
set_option Elab.async false
set_option maxRecDepth 100000
set_option maxHeartbeats 0
namespace Mine
noncomputable def lawFi (w : World) : Stmt := ((lawD w)[0]?).getD default
noncomputable def lawFj (w : World) : Stmt := ((forBody (lawFi w))[0]?).getD default
noncomputable def lawJ (w : World) : List Stmt := forBody (lawFj w)
end Mine
namespace Mine
noncomputable def lawW (w : World) : List Stmt := ifThen (((lawJ w)[2]?).getD default)
end Mine
end

section
open PySem PySem.W PySem.Spec PySem.Calls PyProof.Rows
set_option Elab.async false
set_option maxRecDepth 100000
set_option maxHeartbeats 0
namespace Mine
theorem len_app (a b : PySem.Str) : (a ++ b).length = a.length + b.length := by
  show (a.cps ++ b.cps).size = a.cps.size + b.cps.size
  exact Array.size_append ..
theorem sjoin_le (x : PySem.Str) : ∀ ys : List PySem.Str, (Str.join x ys).length ≤ (ys.map (·.length)).sum + ys.length * x.length
  | [] => Nat.zero_le _
  | [a] => by simp [Str.join]
  | a :: b :: r => by
    have ih := sjoin_le x (b :: r)
    have e : Str.join x (a :: b :: r) = a ++ x ++ Str.join x (b :: r) := rfl
    rw [e, len_app, len_app]
    simp only [List.map_cons, List.sum_cons, List.length_cons, Nat.add_mul, Nat.one_mul] at ih ⊢
    omega
theorem join_le (x : PySem.Str) (ys : List PySem.Str) : (Txt.join x ys).length ≤ (ys.map (·.length)).sum + ys.length * x.length := by
  show (Builtin.Str.glued x ys).length ≤ _
  rw [StrLaws.glued_eq_join]
  exact sjoin_le x ys
theorem chs_sum (l : List Nat) : ((chs l).map (·.length)).sum = l.length ∧ (chs l).length = l.length := by
  induction l with
  | nil => exact ⟨rfl, rfl⟩
  | cons a r ih => exact ⟨by show 1 + ((chs r).map (·.length)).sum = r.length + 1; rw [ih.1]; omega, by show (chs r).length + 1 = r.length + 1; rw [ih.2]⟩
theorem mul_le {wd : PySem.Str} (h1 : 1 ≤ wd.length) (h2 : wd.length ≤ 3) : (Txt.mul (Str.ofString ".") ((wd.length : Int) - 1)).length ≤ 2 := by
  have : wd.length = 1 ∨ wd.length = 2 ∨ wd.length = 3 := by omega
  rcases this with h | h | h <;> rw [h] <;> decide +kernel
theorem dj_le {wd st : PySem.Str} (h1 : 1 ≤ wd.length) (h2 : wd.length ≤ 3) (h3 : st.length ≤ 3) : (Txt.join (Txt.mul (Str.ofString ".") ((wd.length : Int) - 1)) (chs st.cps.toList)).length ≤ 9 := by
  have a := join_le (Txt.mul (Str.ofString ".") ((wd.length : Int) - 1)) (chs st.cps.toList)
  rw [(chs_sum _).1, (chs_sum _).2] at a
  have b := mul_le h1 h2
  have c : st.cps.toList.length ≤ 3 := by rw [Array.length_toList]; exact h3
  have d : st.cps.toList.length * (Txt.mul (Str.ofString ".") ((wd.length : Int) - 1)).length ≤ 3 * 2 := Nat.mul_le_mul c b
  omega
/-- the dotted text -/
noncomputable def dotted (wd st : PySem.Str) : PySem.Str := Txt.mul (Str.ofString ".") ((wd.length : Int) - 1) ++ Txt.join (Txt.mul (Str.ofString ".") ((wd.length : Int) - 1)) (chs st.cps.toList) ++ Txt.mul (Str.ofString ".") ((wd.length : Int) - 1)
theorem dotted_le {wd st : PySem.Str} (h1 : 1 ≤ wd.length) (h2 : wd.length ≤ 3) (h3 : st.length ≤ 3) : (dotted wd st).length ≤ 13 := by
  unfold dotted
  rw [len_app, len_app]
  have a := mul_le h1 h2
  have b := dj_le h1 h2 h3
  omega
end Mine
namespace Mine
open PySem PySem.W
noncomputable def cntF (es : List Int) (i j : Int) : List Int := List.filter (fun a => decide (6 + 2 * i ≤ a)) (List.take (2 * j).toNat es)
noncomputable def dueF (wd st : PySem.Str) (es : List Int) (i j : Int) : Int := 2 * (((dotted wd st).length : Int) - (st.length : Int)) + (((cntF es i j).map PyData.int).length : Int)
theorem cnt_le {es : List Int} (h : es.length = 12) (i j : Int) : ((cntF es i j).map PyData.int).length ≤ 12 := by
  rw [List.length_map]
  unfold cntF
  refine Nat.le_trans (List.length_filter_le _ _) ?_
  rw [List.length_take]; omega
theorem due_le {wd st : PySem.Str} {es : List Int} (h1 : 1 ≤ wd.length) (h2 : wd.length ≤ 3) (h3 : st.length ≤ 3) (h : es.length = 12) (i j : Int) : -1000 ≤ dueF wd st es i j ∧ dueF wd st es i j ≤ 1000 := by
  have a := dotted_le h1 h2 h3
  have b := cnt_le h i j
  unfold dueF
  omega
end Mine
namespace Mine
theorem d3 {h₀ h : Heap} {L : Addr} {e1 e2 e3 : Addr × Obj} {r : List (Addr × Obj)} (N : News h₀ L h (e1 :: e2 :: e3 :: r)) : News h₀ L h r := fun p hp => N p (.tail _ (.tail _ (.tail _ hp)))
end Mine
end

section
open PySem PySem.W PySem.Spec PySem.Calls PyProof.Rows
set_option Elab.async false
set_option maxRecDepth 100000
set_option maxHeartbeats 0
set_option pp.deepTerms false
set_option pp.maxSteps 2000
namespace Mine
section
variable {w : World} {mean : ExcName → Option Value} {mg mb : SMap} {dp un : Nat} {gd : Option (List Code)} {cn : PySem.Str} {cs : Scope} {a₀ : Addr} {ccd : Value} {cl : List (PySem.Str × Addr)} {outer outer1 : List Env} {base g : Heap} {L L₀ : Addr} {m : SMap} {news : List (Addr × Obj)} {s : Shared} {Q : Flow → Shared → Prop}

theorem app_len1 {x : PySem.Str} (h : x.length ≤ 500) : (Str.ofString "!" ++ x).length ≤ 1000 := by
  show (#[33] ++ x.cps).size ≤ 1000
  have h' : x.cps.size ≤ 500 := h
  rw [Array.size_append]; show 1 + x.cps.size ≤ 1000; omega
theorem app_len2 {x : PySem.Str} (h : x.length ≤ 500) : (x ++ Str.ofString "!").length ≤ 1000 := by
  show (x.cps ++ #[33]).size ≤ 1000
  have h' : x.cps.size ≤ 500 := h
  rw [Array.size_append]; show x.cps.size + 1 ≤ 1000; omega
/-- what _law_tells asks -/
noncomputable def tellsF (x y : PySem.Str) (due turn : Int) : Bool := if turn.fmod 2 = 0 then lev (Str.ofString "!" ++ x) (Str.ofString "!" ++ y) due == due else if (x.length : Int) = 1 then lev (y ++ Str.ofString "!") (x ++ Str.ofString "!") (due - 1) == due else lev (y ++ Str.ofString "!") (x ++ Str.ofString "!") (due - 2) + 1 == due
theorem q_bool {Q : Value → Shared → Prop} {x y : Bool} {s : Shared} (e : x = y) (h : Q (.bool y) s) : Q (.bool x) s := e ▸ h
theorem tl_c {L a : Addr} {h₀ : Heap} {A₀ : Around} {Q E : Value → Shared → Prop} {x y : PySem.Str} {due turn : Int} {t1 t2 t3 t4 : Tok}
    (B : Below A₀ base outer h₀) (F : Fr h₀ L s.heap m) (X : (hd01.heap_1 w.params).In h₀) (N : News h₀ L s.heap (news)) (T : Top VV LL mean mg mb h₀) (hk : cs.kind = .function)
   (hx : x.length ≤ 500) (hy : y.length ≤ 500) (hd1 : -1000 ≤ due) (hd2 : due ≤ 1000) (hdp : dp + 22 < recursionLimit) (hun : un + 180 < cLine) (htell : tellsF x y due turn = true)
    (hret : ∀ (h' : Heap) (tk' : Nat), Fr h₀ L h' m → News h₀ L h' news → Q (.bool true) { s with heap := h', toks := tk' })
    :
    wpAny (model PP w) (ktrTop dp un gd cn cs L a ccd cl outer) (call (.ref 273) [.str x t1, .str y t2, .int due t3, .int turn t4]) Q E s := by
  refine wpAny_noRaise ?_
  refine wpAny_call ?_
  k_dflt ktr_enter
  refine wpAny_noRaise ?_
  (repeat' ((fail_if_success (with_reducible first | show NilAt _ _ _ _ _ _ _ _ _ | show wpAny _ _ (call (Value.ref 52) _ _) _ _ _ | show EndQ _ _ _ | show Exit1 _ _ _ _ _ _ _ _ _ | show Turn1 _ _ _ _ _ _ _ _ _ | show TurnN _ _ _ _ _ _ _ _ _ | show wpAny _ _ (pyIter _) _ _ _ | show wpAny _ _ (exec (Stmt.While _ _ _ _) _) _ _ _)); first | (k_unfold; (try dsimp only)) | (k_end; wrow_close) | walk1 | (dsimp only; walk1) | (leave1; walk_say "STEP leave1"; try dsimp only) | fail "no step"))
  all_goals (
    (with_reducible rename Fr _ _ _ _ => kF)
    (with_reducible rename News _ _ _ _ => kN)
    refine' lev_c ?B kF ?X kN ?T ?hk ?hx ?hy ?m1 ?m2 ?hd ?hu ?_
    case B => k_asm
    case X => k_asm
    case T => k_asm
    case hk => exact rfl
    case hd => ktr_room
    case hu => ktr_units
    case hx => first | exact app_len1 hx | exact app_len1 hy | exact app_len2 hx | exact app_len2 hy
    case hy => first | exact app_len1 hx | exact app_len1 hy | exact app_len2 hx | exact app_len2 hy
    case m1 => omega
    case m2 => omega
    clear kF kN
    intro t8 h8 tk8 F8 N8
    (repeat' ((fail_if_success (with_reducible first | show NilAt _ _ _ _ _ _ _ _ _ | show wpAny _ _ (call (Value.ref 52) _ _) _ _ _ | show EndQ _ _ _ | show Exit1 _ _ _ _ _ _ _ _ _ | show Turn1 _ _ _ _ _ _ _ _ _ | show TurnN _ _ _ _ _ _ _ _ _ | show wpAny _ _ (pyIter _) _ _ _ | show wpAny _ _ (exec (Stmt.While _ _ _ _) _) _ _ _)); first | (k_unfold; (try dsimp only)) | (k_end; wrow_close) | walk1 | (dsimp only; walk1) | (leave1; walk_say "STEP leave1"; try dsimp only) | fail "no step")))
  all_goals (
    (with_reducible rename Fr h₀ _ _ _ => kF)
    (with_reducible rename News h₀ _ _ _ => kN)
    refine q_bool ?_ (hret _ _ kF kN)
    first | rfl | (revert htell; unfold tellsF; simp only [*, if_true, if_false, ne_eq, not_false_eq_true]; (try exact id)))
end
end Mine
end

section
open PySem PySem.W PySem.Spec PySem.Calls PyProof.Rows
set_option Elab.async false
set_option maxRecDepth 100000
set_option maxHeartbeats 0
namespace Mine
noncomputable def wdF (f : PySem.Str) (i j : Int) : PySem.Str := Txt.slice f (some (if -i > 0 then -i else 0)) (some (3 - if j - 3 > 0 then j - 3 else 0))
noncomputable def stF (f : PySem.Str) (i j : Int) : PySem.Str := Txt.slice f (some (if i > 0 then i else 0)) (some j)
theorem ne_len {x : PySem.Str} (h : (x != Str.ofString "") = true) : 1 ≤ x.length := by
  rcases Nat.eq_zero_or_pos x.length with h0 | h0
  · exfalso
    have e : x = Str.ofString "" := by
      rw [show Str.ofString "" = ⟨#[]⟩ by decide +kernel]
      have h1 : x.cps.size = 0 := h0
      have h2 : x.cps = #[] := Array.eq_empty_of_size_eq_zero h1
      cases x; simp at h2; subst h2; rfl
    subst e
    revert h; decide +kernel
  · exact h0
/-- what is asked at one pair -/
noncomputable def askF (f d : PySem.Str) (es : List Int) (t i j : Int) : Prop := (wdF f i j != Str.ofString "") = true → tellsF (wdF f i j) (dotted (wdF f i j) (stF d i j)) (dueF (wdF f i j) (stF d i j) es i j) (t + i + j) = true
end Mine
end

section
open PySem PySem.W PySem.Spec PySem.Calls PyProof.Rows
set_option Elab.async false
set_option maxRecDepth 100000
set_option maxHeartbeats 0
namespace Mine
theorem rowsF_len {n0 n1 n2 wd : PySem.Str} : ∀ (k : Nat) (row : Int) (pv : List Int), (rowsF n0 n1 n2 wd k row pv).1.length = pv.length ∧ (rowsF n0 n1 n2 wd k row pv).2.length = k
  | 0, _, _ => ⟨rfl, rfl⟩
  | k + 1, row, pv => by
    have ih := rowsF_len (n0 := n0) (n1 := n1) (n2 := n2) (wd := wd) k (row + 1) (colF (rowMs n0 n1 n2 wd row) 0 (5 - row) pv).2
    rw [colF_len] at ih
    exact ⟨ih.1, by rw [rowsF]; simp [ih.2]⟩
theorem ends_len (n0 n1 n2 wd : PySem.Str) : (endsF n0 n1 n2 wd).length = 12 := by
  unfold endsF
  rw [List.length_append, List.length_reverse, (rowsF_len 6 0 _).1, (rowsF_len 6 0 _).2]
  rfl
end Mine
end

section
open PySem PySem.W PySem.Spec PySem.Calls PyProof.Rows
set_option Elab.async false
set_option maxRecDepth 100000
namespace Mine
/-- costs between codes: word's signs 0.., stretch's signs 0..n-1, dot 8, mark 9 -/
noncomputable def cmG (m : List (List Nat)) (n a b : Nat) : Nat := match m[a]? with
  | some row => cond (Nat.beq b 8) 2 (row.getD b 2)
  | none => cond (Nat.beq b 8) 2 (cond (Nat.blt b n) 2 0)
noncomputable def fW (wl : List Nat) (k : Nat) : Nat := wl.getD k 33
noncomputable def gS (sl : List Nat) (k : Nat) : Nat := if k = 8 then 46 else sl.getD k 33
noncomputable def mat (wl sl : List Nat) : List (List Nat) := wl.map fun c => sl.map fun d => KT c d
theorem cm_eq {wl sl : List Nat} (hw : ∀ c ∈ wl, c ∈ six) (hs : ∀ d ∈ sl, d ∈ six) (a b : Nat) : Cc (fW wl a) (gS sl b) = ((cmG (mat wl sl) sl.length a b : Nat) : Int) := by
  unfold cmG mat
  by_cases ha : a < wl.length
  · have e : (wl.map fun c => sl.map fun d => KT c d)[a]? = some (sl.map fun d => KT wl[a] d) := by simp [ha]
    have ea : fW wl a = wl[a] := by simp [fW, ha]
    have m := hw wl[a] (List.getElem_mem ha)
    rw [e, ea]
    dsimp only
    by_cases hb8 : b = 8
    · subst hb8
      exact (KT_oth m).2.1
    · have e8 : Nat.beq b 8 = false := by
        cases q : Nat.beq b 8 with
        | false => rfl
        | true => exact absurd (Nat.eq_of_beq_eq_true q) hb8
      rw [e8, cond_false]
      unfold gS
      rw [if_neg hb8]
      by_cases hb : b < sl.length
      · have e1 : sl.getD b 33 = sl[b] := by simp [hb]
        have e2 : (sl.map fun d => KT wl[a] d).getD b 2 = KT wl[a] sl[b] := by simp [hb]
        rw [e1, e2]
        exact KT_eq m (hs _ (List.getElem_mem hb))
      · have e1 : sl.getD b 33 = 33 := by simp [hb]
        have e2 : (sl.map fun d => KT wl[a] d).getD b 2 = 2 := by simp [hb]
        rw [e1, e2]
        exact (KT_oth m).1
  · have e : (wl.map fun c => sl.map fun d => KT c d)[a]? = none := by simp; omega
    have ea : fW wl a = 33 := by simp [fW, ha]
    rw [e, ea]
    dsimp only
    by_cases hb8 : b = 8
    · subst hb8
      exact KT_33.2.1
    · have e8 : Nat.beq b 8 = false := by
        cases q : Nat.beq b 8 with
        | false => rfl
        | true => exact absurd (Nat.eq_of_beq_eq_true q) hb8
      rw [e8, cond_false]
      unfold gS
      rw [if_neg hb8]
      by_cases hb : b < sl.length
      · have e1 : sl.getD b 33 = sl[b] := by simp [hb]
        have e2 : Nat.blt b sl.length = true := by simpa [Nat.blt_eq] using hb
        rw [e1, e2]
        exact (KT_oth (hs _ (List.getElem_mem hb))).2.2.1
      · have e1 : sl.getD b 33 = 33 := by simp [hb]
        have e2 : Nat.blt b sl.length = false := by
          cases q : Nat.blt b sl.length with
          | false => rfl
          | true => exact absurd (by simpa [Nat.blt_eq] using q) hb
        rw [e1, e2]
        exact KT_33.1
noncomputable def dotL (k : Nat) : List Nat → List Nat
  | [] => List.replicate k 8
  | a :: r => List.replicate k 8 ++ a :: dotL k r
noncomputable def dotC (k : Nat) : List Nat → List Nat
  | [] => List.replicate k 46
  | a :: r => List.replicate k 46 ++ a :: dotC k r
theorem dotL_map (sl : List Nat) (k : Nat) : ∀ l : List Nat, (dotL k l).map (gS sl) = dotC k (l.map (gS sl))
  | [] => by simp [dotL, dotC, gS]
  | a :: r => by simp [dotL, dotC, dotL_map sl k r]; simp [gS]
theorem range_f (wl : List Nat) : (List.range wl.length).map (fW wl) = wl := by
  apply List.ext_getElem
  · simp
  · intro i h1 h2; simp [fW, h2]
theorem range_g {sl : List Nat} (h : sl.length ≤ 8) : (List.range sl.length).map (gS sl) = sl := by
  apply List.ext_getElem
  · simp
  · intro i h1 h2
    have : i ≠ 8 := by omega
    simp [gS, h2, this]
/-- what is to be reckoned for one word and one stretch -/
noncomputable def tellsM (m : List (List Nat)) (a n : Nat) (due : Int) : Bool :=
  decide (klevA (cmG m n) (9 :: List.range a) (9 :: dotL (a - 1) (List.range n)) due = due) &&
  (if a = 1 then decide (klevA (fun x y => cmG m n y x) (dotL (a - 1) (List.range n) ++ [9]) (List.range a ++ [9]) (due - 1) = due) else decide (klevA (fun x y => cmG m n y x) (dotL (a - 1) (List.range n) ++ [9]) (List.range a ++ [9]) (due - 2) + 1 = due))
theorem getD9 {l : List Nat} (h : l.length ≤ 3) : l.getD 9 33 = 33 := by
  have e : l[9]? = none := List.getElem?_eq_none (by omega)
  simp [e]
theorem bang : Str.ofString "!" = S [33] := by decide +kernel
theorem tells_of {wl sl : List Nat} (hw : ∀ c ∈ wl, c ∈ six) (hs : ∀ d ∈ sl, d ∈ six) (hwl : wl.length ≤ 3) (hsl : sl.length ≤ 3) {due : Int} (turn : Int) (h : tellsM (mat wl sl) wl.length sl.length due = true) :
    tellsF (S wl) (S (dotC (wl.length - 1) sl)) due turn = true := by
  have c1 : (fun a b => Cc (fW wl a) (gS sl b)) = fun a b => ((cmG (mat wl sl) sl.length a b : Nat) : Int) := by funext a b; exact cm_eq hw hs a b
  have c2 : (fun a b => Cc (gS sl a) (fW wl b)) = fun a b => (((fun x y => cmG (mat wl sl) sl.length y x) a b : Nat) : Int) := by funext a b; rw [Cc_symm]; exact cm_eq hw hs b a
  have x1 : (9 :: List.range wl.length).map (fW wl) = 33 :: wl := by
    rw [List.map_cons, range_f]
    have : fW wl 9 = 33 := getD9 hwl
    rw [this]
  have g9 : gS sl 9 = 33 := by unfold gS; rw [if_neg (by decide)]; exact getD9 hsl
  have f9 : fW wl 9 = 33 := getD9 hwl
  have y1 : (9 :: dotL (wl.length - 1) (List.range sl.length)).map (gS sl) = 33 :: dotC (wl.length - 1) sl := by
    rw [List.map_cons, dotL_map, range_g (by omega), g9]
  have y2 : (dotL (wl.length - 1) (List.range sl.length) ++ [9]).map (gS sl) = dotC (wl.length - 1) sl ++ [33] := by
    rw [List.map_append, dotL_map, range_g (by omega)]; simp [g9]
  have x2 : (List.range wl.length ++ [9]).map (fW wl) = wl ++ [33] := by
    rw [List.map_append, range_f]; simp [f9]
  have L1 := fun mc => (lev_abs (fW wl) (gS sl) (9 :: List.range wl.length) (9 :: dotL (wl.length - 1) (List.range sl.length)) mc)
  have L2 := fun mc => (lev_abs (gS sl) (fW wl) (dotL (wl.length - 1) (List.range sl.length) ++ [9]) (List.range wl.length ++ [9]) mc)
  simp only [x1, y1, c1, klevN_eq, klevA_eq] at L1
  simp only [x2, y2, c2, klevN_eq, klevA_eq] at L2
  unfold tellsM at h
  rw [Bool.and_eq_true] at h
  obtain ⟨h1, h2⟩ := h
  unfold tellsF
  rw [bang, S_app, S_app, S_app, S_app, List.singleton_append, List.singleton_append, L1, L2, L2, S_len]
  split
  · simpa using h1
  · by_cases ha : wl.length = 1
    · rw [if_pos ha] at h2
      rw [if_pos (by omega)]
      simpa using h2
    · rw [if_neg ha] at h2
      rw [if_neg (by omega)]
      simpa using h2
end Mine
end

section
open PySem PySem.W PySem.Spec PySem.Calls PyProof.Rows
set_option Elab.async false
set_option maxRecDepth 100000
namespace Mine
theorem str_assoc (a b c : PySem.Str) : (a ++ b) ++ c = a ++ (b ++ c) := by
  show (⟨(a.cps ++ b.cps) ++ c.cps⟩ : PySem.Str) = ⟨a.cps ++ (b.cps ++ c.cps)⟩
  rw [Array.append_assoc]
theorem sjoin_S (k : Nat) : ∀ (a : Nat) (r : List Nat), S (List.replicate k 46) ++ Str.join (S (List.replicate k 46)) (chs (a :: r)) ++ S (List.replicate k 46) = S (dotC k (a :: r))
  | a, [] => by
    show S (List.replicate k 46) ++ S [a] ++ S (List.replicate k 46) = _
    rw [S_app, S_app]; simp [dotC]
  | a, b :: r => by
    have ih := sjoin_S k b r
    have e : Str.join (S (List.replicate k 46)) (chs (a :: b :: r)) = S [a] ++ S (List.replicate k 46) ++ Str.join (S (List.replicate k 46)) (chs (b :: r)) := rfl
    rw [e]
    have e2 : S (List.replicate k 46) ++ (S [a] ++ S (List.replicate k 46) ++ Str.join (S (List.replicate k 46)) (chs (b :: r))) ++ S (List.replicate k 46) = (S (List.replicate k 46) ++ S [a]) ++ (S (List.replicate k 46) ++ Str.join (S (List.replicate k 46)) (chs (b :: r)) ++ S (List.replicate k 46)) := by
      simp only [str_assoc]
    rw [e2, ih, S_app, S_app]
    simp [dotC]
theorem mulD (n : Nat) (h : n < 3) : Txt.mul (Str.ofString ".") (n : Int) = S (List.replicate n 46) := by
  have : n = 0 ∨ n = 1 ∨ n = 2 := by omega
  rcases this with rfl | rfl | rfl <;> decide +kernel
theorem dotted_S {wl : List Nat} (h1 : 1 ≤ wl.length) (h2 : wl.length ≤ 3) (a : Nat) (r : List Nat) : dotted (S wl) (S (a :: r)) = S (dotC (wl.length - 1) (a :: r)) := by
  unfold dotted
  have e : (((S wl).length : Int) - 1) = ((wl.length - 1 : Nat) : Int) := by rw [S_len]; omega
  rw [e, mulD _ (by omega)]
  have e2 : Txt.join (S (List.replicate (wl.length - 1) 46)) (chs (S (a :: r)).cps.toList) = Str.join (S (List.replicate (wl.length - 1) 46)) (chs (a :: r)) := by
    show Builtin.Str.glued _ (chs (a :: r)) = _
    rw [StrLaws.glued_eq_join]
  rw [e2]
  exact sjoin_S _ a r
theorem dotC_len (k : Nat) : ∀ l : List Nat, (dotC k l).length = (l.length + 1) * k + l.length
  | [] => by simp [dotC]
  | a :: r => by
    simp only [dotC, List.length_append, List.length_replicate, List.length_cons, dotC_len k r, Nat.add_mul, Nat.one_mul]
    omega
/-- the due: twice the dots, and what the strands add -/
noncomputable def dueM (a n cnt : Nat) : Int := 2 * ((((n + 1) * (a - 1) : Nat)) : Int) + (cnt : Int)
theorem due_S {wl : List Nat} (h1 : 1 ≤ wl.length) (h2 : wl.length ≤ 3) (b : Nat) (r : List Nat) (es : List Int) (i j : Int) : dueF (S wl) (S (b :: r)) es i j = dueM wl.length (b :: r).length (cntF es i j).length := by
  unfold dueF dueM
  rw [dotted_S h1 h2, S_len, S_len, dotC_len, List.length_map]
  omega
theorem ask_of {wl : List Nat} {b : Nat} {r : List Nat} {f d : PySem.Str} {es : List Int} {i j : Int} (t : Int) (hw : wdF f i j = S wl) (hs : stF d i j = S (b :: r)) (h1 : 1 ≤ wl.length) (h2 : wl.length ≤ 3) (h3 : (b :: r).length ≤ 3)
    (hwl : ∀ c ∈ wl, c ∈ six) (hsl : ∀ c ∈ b :: r, c ∈ six) (h : tellsM (mat wl (b :: r)) wl.length (b :: r).length (dueM wl.length (b :: r).length (cntF es i j).length) = true) : askF f d es t i j := by
  intro _
  rw [hw, hs, due_S h1 h2, dotted_S h1 h2]
  exact tells_of hwl hsl h2 h3 _ h
end Mine
end

section
open PySem PySem.W PySem.Spec PySem.Calls PyProof.Rows
set_option Elab.async false
set_option maxRecDepth 100000
set_option maxHeartbeats 0
namespace Mine
noncomputable def rowsG (f : Int → List Int) : Nat → Int → List Int → List Int × List Int
  | 0, _, pv => (pv, [])
  | k + 1, row, pv => ((rowsG f k (row + 1) (colF (f row) 0 (5 - row) pv).2).1, (colF (f row) 0 (5 - row) pv).1 :: (rowsG f k (row + 1) (colF (f row) 0 (5 - row) pv).2).2)
theorem rowsF_G (n0 n1 n2 wd : PySem.Str) : ∀ (k : Nat) (row : Int) (pv : List Int), rowsF n0 n1 n2 wd k row pv = rowsG (rowMs n0 n1 n2 wd) k row pv
  | 0, _, _ => rfl
  | k + 1, row, pv => by simp only [rowsF, rowsG, rowsF_G n0 n1 n2 wd k]
theorem rowsG_congr {f g : Int → List Int} (h : ∀ r : Int, 0 ≤ r → r < 6 → f r = g r) : ∀ (k : Nat) (row : Int) (pv : List Int), 0 ≤ row → row + k ≤ 6 → rowsG f k row pv = rowsG g k row pv
  | 0, _, _, _, _ => rfl
  | k + 1, row, pv, h1, h2 => by
    simp only [rowsG, h row h1 (by omega), rowsG_congr h k (row + 1) _ (by omega) (by omega)]
noncomputable def msE (row : List Nat) : List Int := (if Nat.beq (row.getD 0 2) 0 = true then [0] else []) ++ (if Nat.beq (row.getD 1 2) 0 = true then [2] else []) ++ (if Nat.beq (row.getD 2 2) 0 = true then [4] else [])
noncomputable def msO (row : List Nat) : List Int := (if Nat.ble (row.getD 0 2) 1 = true then [1] else []) ++ (if Nat.ble (row.getD 1 2) 1 = true then [3] else []) ++ (if Nat.ble (row.getD 2 2) 1 = true then [5] else [])
noncomputable def msM (m : List (List Nat)) (r : Int) : List Int := if r.fmod 2 = 0 then msE (m.getD (r.fdiv 2).toNat []) else msO (m.getD (r.fdiv 2).toNat [])
noncomputable def endsM (m : List (List Nat)) : List Int := (rowsG (msM m) 6 0 [6, 7, 8, 9, 10, 11]).1 ++ (rowsG (msM m) 6 0 [6, 7, 8, 9, 10, 11]).2.reverse
theorem rowMs_M {c0 c1 c2 d0 d1 d2 : Nat} (m0 : c0 ∈ six) (m1 : c1 ∈ six) (m2 : c2 ∈ six) (p0 : d0 ∈ six) (p1 : d1 ∈ six) (p2 : d2 ∈ six) (r : Int) (h0 : 0 ≤ r) (h6 : r < 6) :
    rowMs ⟨#[d0]⟩ ⟨#[d1]⟩ ⟨#[d2]⟩ ⟨#[c0, c1, c2]⟩ r = msM (mat [c0, c1, c2] [d0, d1, d2]) r := by
  have key : ∀ c ∈ six, meetE ⟨#[d0]⟩ ⟨#[d1]⟩ ⟨#[d2]⟩ ⟨#[c]⟩ = msE [KT c d0, KT c d1, KT c d2] ∧ meetO ⟨#[d0]⟩ ⟨#[d1]⟩ ⟨#[d2]⟩ ⟨#[c]⟩ = msO [KT c d0, KT c d1, KT c d2] := fun c hc => by
    unfold meetE meetO msE msO
    rw [eq_K hc p0, eq_K hc p1, eq_K hc p2, low_K hc p0, low_K hc p1, low_K hc p2]
    exact ⟨rfl, rfl⟩
  have : r = 0 ∨ r = 1 ∨ r = 2 ∨ r = 3 ∨ r = 4 ∨ r = 5 := by omega
  rcases this with rfl | rfl | rfl | rfl | rfl | rfl
  · exact (key c0 m0).1
  · exact (key c0 m0).2
  · exact (key c1 m1).1
  · exact (key c1 m1).2
  · exact (key c2 m2).1
  · exact (key c2 m2).2
theorem ends_M {c0 c1 c2 d0 d1 d2 : Nat} (m0 : c0 ∈ six) (m1 : c1 ∈ six) (m2 : c2 ∈ six) (p0 : d0 ∈ six) (p1 : d1 ∈ six) (p2 : d2 ∈ six) :
    endsF ⟨#[d0]⟩ ⟨#[d1]⟩ ⟨#[d2]⟩ ⟨#[c0, c1, c2]⟩ = endsM (mat [c0, c1, c2] [d0, d1, d2]) := by
  unfold endsF endsM
  rw [rowsF_G, rowsG_congr (rowMs_M m0 m1 m2 p0 p1 p2) 6 0 _ (by decide) (by decide)]
/-- weighted common subsequence over the rows of costs -/
noncomputable def mxN (a b : Nat) : Nat := cond (Nat.blt a b) b a
noncomputable def wrow : List Nat → List Nat → Nat → Nat → List Nat
  | c :: cs, q :: qs, d, r => seqN (mxN (mxN q r) (d + 2 - c)) fun z => z :: wrow cs qs q z
  | _, _, _, _ => []
noncomputable def Wm (m : List (List Nat)) (n : Nat) : Nat := (m.foldl (fun row cs => wrow cs row 0 0) (List.replicate n 0)).getLastD 0
noncomputable def sub (m : List (List Nat)) (w0 a s0 n : Nat) : List (List Nat) := ((m.drop w0).take a).map fun row => (row.drop s0).take n
/-- the pairs: i, j, where the word begins, its length, where the stretch begins, its length -/
noncomputable def PL19 : List (Int × Int × Nat × Nat × Nat × Nat) := [(-2, 1, 2, 1, 0, 1), (-2, 2, 2, 1, 0, 2), (-2, 3, 2, 1, 0, 3), (-1, 1, 1, 2, 0, 1), (-1, 2, 1, 2, 0, 2), (-1, 3, 1, 2, 0, 3), (-1, 4, 1, 1, 0, 3),
  (0, 1, 0, 3, 0, 1), (0, 2, 0, 3, 0, 2), (0, 3, 0, 3, 0, 3), (0, 4, 0, 2, 0, 3), (0, 5, 0, 1, 0, 3), (1, 2, 0, 3, 1, 1), (1, 3, 0, 3, 1, 2), (1, 4, 0, 2, 1, 2), (1, 5, 0, 1, 1, 2), (2, 3, 0, 3, 2, 1), (2, 4, 0, 2, 2, 1), (2, 5, 0, 1, 2, 1)]
noncomputable def chk1 (m : List (List Nat)) : Bool := let es := endsM m; PL19.all fun p => Nat.beq (cntF es p.1 p.2.1).length (2 * p.2.2.2.2.2 - Wm (sub m p.2.2.1 p.2.2.2.1 p.2.2.2.2.1 p.2.2.2.2.2) p.2.2.2.2.2)
noncomputable def chk2 (m : List (List Nat)) (a n : Nat) : Bool := tellsM m a n (dueM a n (2 * n - Wm m n))
end Mine
end

section
open PySem PySem.W PySem.Spec PySem.Calls PyProof.Rows
set_option Elab.async false
set_option maxRecDepth 100000
set_option maxHeartbeats 0
namespace Mine
noncomputable def all3 (R : List (List Nat)) (p : List (List Nat) → Bool) : Bool := R.all fun r0 => R.all fun r1 => R.all fun r2 => p [r0, r1, r2]
noncomputable def all2 (R : List (List Nat)) (p : List (List Nat) → Bool) : Bool := R.all fun r0 => R.all fun r1 => p [r0, r1]
noncomputable def all1 (R : List (List Nat)) (p : List (List Nat) → Bool) : Bool := R.all fun r0 => p [r0]
noncomputable def P2 : List (List Nat) := [[0, 0], [0, 1], [0, 2], [1, 0], [1, 1], [1, 2], [2, 0], [2, 1], [2, 2]]
noncomputable def P1 : List (List Nat) := [[0], [1], [2]]
theorem k1 : (RSs.all fun R => all3 R chk1) = true := by decide +kernel
theorem k33 : (RSs.all fun R => all3 R fun m => chk2 m 3 3) = true := by decide +kernel
theorem k23 : (RSs.all fun R => all2 R fun m => chk2 m 2 3) = true := by decide +kernel
theorem k13 : (RSs.all fun R => all1 R fun m => chk2 m 1 3) = true := by decide +kernel
theorem k32 : all3 P2 (fun m => chk2 m 3 2) = true := by decide +kernel
theorem k22 : all2 P2 (fun m => chk2 m 2 2) = true := by decide +kernel
theorem k12 : all1 P2 (fun m => chk2 m 1 2) = true := by decide +kernel
theorem k31 : all3 P1 (fun m => chk2 m 3 1) = true := by decide +kernel
theorem k21 : all2 P1 (fun m => chk2 m 2 1) = true := by decide +kernel
theorem k11 : all1 P1 (fun m => chk2 m 1 1) = true := by decide +kernel
theorem all3_of {R : List (List Nat)} {p : List (List Nat) → Bool} (h : all3 R p = true) {r0 r1 r2 : List Nat} (h0 : r0 ∈ R) (h1 : r1 ∈ R) (h2 : r2 ∈ R) : p [r0, r1, r2] = true := by
  unfold all3 at h
  exact List.all_eq_true.1 (List.all_eq_true.1 (List.all_eq_true.1 h r0 h0) r1 h1) r2 h2
theorem all2_of {R : List (List Nat)} {p : List (List Nat) → Bool} (h : all2 R p = true) {r0 r1 : List Nat} (h0 : r0 ∈ R) (h1 : r1 ∈ R) : p [r0, r1] = true := by
  unfold all2 at h
  exact List.all_eq_true.1 (List.all_eq_true.1 h r0 h0) r1 h1
theorem all1_of {R : List (List Nat)} {p : List (List Nat) → Bool} (h : all1 R p = true) {r0 : List Nat} (h0 : r0 ∈ R) : p [r0] = true := by
  unfold all1 at h
  exact List.all_eq_true.1 h r0 h0
theorem KT_le {a b : Nat} (ha : a ∈ six) (hb : b ∈ six) : [KT a b] ∈ P1 := by
  have h : ∀ a ∈ six, ∀ b ∈ six, [KT a b] ∈ P1 := by decide +kernel
  exact h a ha b hb
theorem KT_P2 {a b c : Nat} (ha : a ∈ six) (hb : b ∈ six) (hc : c ∈ six) : [KT a b, KT a c] ∈ P2 := by
  have h : ∀ a ∈ six, ∀ b ∈ six, ∀ c ∈ six, [KT a b, KT a c] ∈ P2 := by decide +kernel
  exact h a ha b hb c hc
end Mine
end

section
open PySem PySem.W PySem.Spec PySem.Calls PyProof.Rows
set_option Elab.async false
set_option maxRecDepth 100000
set_option maxHeartbeats 0
namespace Mine
theorem ask_go {wl : List Nat} {b : Nat} {r : List Nat} {f d : PySem.Str} {es : List Int} {i j : Int} (t : Int) (hw : wdF f i j = S wl) (hs : stF d i j = S (b :: r)) (h1 : 1 ≤ wl.length) (h2 : wl.length ≤ 3) (h3 : (b :: r).length ≤ 3)
    (hwl : ∀ c ∈ wl, c ∈ six) (hsl : ∀ c ∈ b :: r, c ∈ six) (hc : Nat.beq (cntF es i j).length (2 * (b :: r).length - Wm (mat wl (b :: r)) (b :: r).length) = true) (hk : chk2 (mat wl (b :: r)) wl.length (b :: r).length = true) : askF f d es t i j := by
  refine ask_of t hw hs h1 h2 h3 hwl hsl ?_
  rw [Nat.eq_of_beq_eq_true hc]
  exact hk
theorem ask_no {f d : PySem.Str} {es : List Int} {i j : Int} (t : Int) (hw : wdF f i j = S []) : askF f d es t i j := by
  intro h
  rw [hw] at h
  exact absurd h (by decide +kernel)
theorem mem1 {P : Nat → Prop} {a : Nat} (h : P a) : ∀ c ∈ [a], P c := by simpa using h
theorem mem2 {P : Nat → Prop} {a b : Nat} (h : P a) (h2 : P b) : ∀ c ∈ [a, b], P c := by simpa using ⟨h, h2⟩
theorem mem3 {P : Nat → Prop} {a b e : Nat} (h : P a) (h2 : P b) (h3 : P e) : ∀ c ∈ [a, b, e], P c := by simpa using ⟨h, h2, h3⟩
theorem ask_all {c0 c1 c2 d0 d1 d2 : Nat} (m0 : c0 ∈ six) (m1 : c1 ∈ six) (m2 : c2 ∈ six) (p0 : d0 ∈ six) (p1 : d1 ∈ six) (p2 : d2 ∈ six) (t : Int) :
    ∀ i j : Int, -2 ≤ i → i ≤ 2 → 1 ≤ j → j ≤ 5 → i + 1 ≤ j → askF ⟨#[c0, c1, c2]⟩ ⟨#[d0, d1, d2]⟩ (endsF ⟨#[d0]⟩ ⟨#[d1]⟩ ⟨#[d2]⟩ ⟨#[c0, c1, c2]⟩) t i j := by
  rw [ends_M m0 m1 m2 p0 p1 p2]
  obtain ⟨R, hR, hr⟩ := rows_in p0 p1 p2
  have hA := all3_of (List.all_eq_true.1 k1 R hR) (hr c0 m0) (hr c1 m1) (hr c2 m2)
  have hB : ∀ p ∈ PL19, Nat.beq (cntF (endsM (mat [c0, c1, c2] [d0, d1, d2])) p.1 p.2.1).length (2 * p.2.2.2.2.2 - Wm (sub (mat [c0, c1, c2] [d0, d1, d2]) p.2.2.1 p.2.2.2.1 p.2.2.2.2.1 p.2.2.2.2.2) p.2.2.2.2.2) = true := fun p hp => List.all_eq_true.1 hA p hp
  intro i j i1 i2 j1 j2 ij
  have hi : i = -2 ∨ i = -1 ∨ i = 0 ∨ i = 1 ∨ i = 2 := by omega
  have hj : j = 1 ∨ j = 2 ∨ j = 3 ∨ j = 4 ∨ j = 5 := by omega
  rcases hi with rfl | rfl | rfl | rfl | rfl <;> rcases hj with rfl | rfl | rfl | rfl | rfl
  · exact ask_go (wl := [c2]) (b := d0) (r := []) t (by kernel_rfl) (by kernel_rfl) (Nat.le_of_ble_eq_true rfl) (Nat.le_of_ble_eq_true rfl) (Nat.le_of_ble_eq_true rfl) (mem1 m2) (mem1 p0) (hB (-2, 1, 2, 1, 0, 1) (.head _)) (all1_of k11 (KT_le m2 p0))
  · exact ask_go (wl := [c2]) (b := d0) (r := [d1]) t (by kernel_rfl) (by kernel_rfl) (Nat.le_of_ble_eq_true rfl) (Nat.le_of_ble_eq_true rfl) (Nat.le_of_ble_eq_true rfl) (mem1 m2) (mem2 p0 p1) (hB (-2, 2, 2, 1, 0, 2) (.tail _ (.head _))) (all1_of k12 (KT_P2 m2 p0 p1))
  · exact ask_go (wl := [c2]) (b := d0) (r := [d1, d2]) t (by kernel_rfl) (by kernel_rfl) (Nat.le_of_ble_eq_true rfl) (Nat.le_of_ble_eq_true rfl) (Nat.le_of_ble_eq_true rfl) (mem1 m2) (mem3 p0 p1 p2) (hB (-2, 3, 2, 1, 0, 3) (.tail _ (.tail _ (.head _)))) (all1_of (List.all_eq_true.1 k13 R hR) (hr c2 m2))
  · exact ask_no t (by kernel_rfl)
  · exact ask_no t (by kernel_rfl)
  · exact ask_go (wl := [c1, c2]) (b := d0) (r := []) t (by kernel_rfl) (by kernel_rfl) (Nat.le_of_ble_eq_true rfl) (Nat.le_of_ble_eq_true rfl) (Nat.le_of_ble_eq_true rfl) (mem2 m1 m2) (mem1 p0) (hB (-1, 1, 1, 2, 0, 1) (.tail _ (.tail _ (.tail _ (.head _))))) (all2_of k21 (KT_le m1 p0) (KT_le m2 p0))
  · exact ask_go (wl := [c1, c2]) (b := d0) (r := [d1]) t (by kernel_rfl) (by kernel_rfl) (Nat.le_of_ble_eq_true rfl) (Nat.le_of_ble_eq_true rfl) (Nat.le_of_ble_eq_true rfl) (mem2 m1 m2) (mem2 p0 p1) (hB (-1, 2, 1, 2, 0, 2) (.tail _ (.tail _ (.tail _ (.tail _ (.head _)))))) (all2_of k22 (KT_P2 m1 p0 p1) (KT_P2 m2 p0 p1))
  · exact ask_go (wl := [c1, c2]) (b := d0) (r := [d1, d2]) t (by kernel_rfl) (by kernel_rfl) (Nat.le_of_ble_eq_true rfl) (Nat.le_of_ble_eq_true rfl) (Nat.le_of_ble_eq_true rfl) (mem2 m1 m2) (mem3 p0 p1 p2) (hB (-1, 3, 1, 2, 0, 3) (.tail _ (.tail _ (.tail _ (.tail _ (.tail _ (.head _))))))) (all2_of (List.all_eq_true.1 k23 R hR) (hr c1 m1) (hr c2 m2))
  · exact ask_go (wl := [c1]) (b := d0) (r := [d1, d2]) t (by kernel_rfl) (by kernel_rfl) (Nat.le_of_ble_eq_true rfl) (Nat.le_of_ble_eq_true rfl) (Nat.le_of_ble_eq_true rfl) (mem1 m1) (mem3 p0 p1 p2) (hB (-1, 4, 1, 1, 0, 3) (.tail _ (.tail _ (.tail _ (.tail _ (.tail _ (.tail _ (.head _)))))))) (all1_of (List.all_eq_true.1 k13 R hR) (hr c1 m1))
  · exact ask_no t (by kernel_rfl)
  · exact ask_go (wl := [c0, c1, c2]) (b := d0) (r := []) t (by kernel_rfl) (by kernel_rfl) (Nat.le_of_ble_eq_true rfl) (Nat.le_of_ble_eq_true rfl) (Nat.le_of_ble_eq_true rfl) (mem3 m0 m1 m2) (mem1 p0) (hB (0, 1, 0, 3, 0, 1) (.tail _ (.tail _ (.tail _ (.tail _ (.tail _ (.tail _ (.tail _ (.head _))))))))) (all3_of k31 (KT_le m0 p0) (KT_le m1 p0) (KT_le m2 p0))
  · exact ask_go (wl := [c0, c1, c2]) (b := d0) (r := [d1]) t (by kernel_rfl) (by kernel_rfl) (Nat.le_of_ble_eq_true rfl) (Nat.le_of_ble_eq_true rfl) (Nat.le_of_ble_eq_true rfl) (mem3 m0 m1 m2) (mem2 p0 p1) (hB (0, 2, 0, 3, 0, 2) (.tail _ (.tail _ (.tail _ (.tail _ (.tail _ (.tail _ (.tail _ (.tail _ (.head _)))))))))) (all3_of k32 (KT_P2 m0 p0 p1) (KT_P2 m1 p0 p1) (KT_P2 m2 p0 p1))
  · exact ask_go (wl := [c0, c1, c2]) (b := d0) (r := [d1, d2]) t (by kernel_rfl) (by kernel_rfl) (Nat.le_of_ble_eq_true rfl) (Nat.le_of_ble_eq_true rfl) (Nat.le_of_ble_eq_true rfl) (mem3 m0 m1 m2) (mem3 p0 p1 p2) (hB (0, 3, 0, 3, 0, 3) (.tail _ (.tail _ (.tail _ (.tail _ (.tail _ (.tail _ (.tail _ (.tail _ (.tail _ (.head _))))))))))) (all3_of (List.all_eq_true.1 k33 R hR) (hr c0 m0) (hr c1 m1) (hr c2 m2))
  · exact ask_go (wl := [c0, c1]) (b := d0) (r := [d1, d2]) t (by kernel_rfl) (by kernel_rfl) (Nat.le_of_ble_eq_true rfl) (Nat.le_of_ble_eq_true rfl) (Nat.le_of_ble_eq_true rfl) (mem2 m0 m1) (mem3 p0 p1 p2) (hB (0, 4, 0, 2, 0, 3) (.tail _ (.tail _ (.tail _ (.tail _ (.tail _ (.tail _ (.tail _ (.tail _ (.tail _ (.tail _ (.head _)))))))))))) (all2_of (List.all_eq_true.1 k23 R hR) (hr c0 m0) (hr c1 m1))
  · exact ask_go (wl := [c0]) (b := d0) (r := [d1, d2]) t (by kernel_rfl) (by kernel_rfl) (Nat.le_of_ble_eq_true rfl) (Nat.le_of_ble_eq_true rfl) (Nat.le_of_ble_eq_true rfl) (mem1 m0) (mem3 p0 p1 p2) (hB (0, 5, 0, 1, 0, 3) (.tail _ (.tail _ (.tail _ (.tail _ (.tail _ (.tail _ (.tail _ (.tail _ (.tail _ (.tail _ (.tail _ (.head _))))))))))))) (all1_of (List.all_eq_true.1 k13 R hR) (hr c0 m0))
  · exact absurd ij (by decide)
  · exact ask_go (wl := [c0, c1, c2]) (b := d1) (r := []) t (by kernel_rfl) (by kernel_rfl) (Nat.le_of_ble_eq_true rfl) (Nat.le_of_ble_eq_true rfl) (Nat.le_of_ble_eq_true rfl) (mem3 m0 m1 m2) (mem1 p1) (hB (1, 2, 0, 3, 1, 1) (.tail _ (.tail _ (.tail _ (.tail _ (.tail _ (.tail _ (.tail _ (.tail _ (.tail _ (.tail _ (.tail _ (.tail _ (.head _)))))))))))))) (all3_of k31 (KT_le m0 p1) (KT_le m1 p1) (KT_le m2 p1))
  · exact ask_go (wl := [c0, c1, c2]) (b := d1) (r := [d2]) t (by kernel_rfl) (by kernel_rfl) (Nat.le_of_ble_eq_true rfl) (Nat.le_of_ble_eq_true rfl) (Nat.le_of_ble_eq_true rfl) (mem3 m0 m1 m2) (mem2 p1 p2) (hB (1, 3, 0, 3, 1, 2) (.tail _ (.tail _ (.tail _ (.tail _ (.tail _ (.tail _ (.tail _ (.tail _ (.tail _ (.tail _ (.tail _ (.tail _ (.tail _ (.head _))))))))))))))) (all3_of k32 (KT_P2 m0 p1 p2) (KT_P2 m1 p1 p2) (KT_P2 m2 p1 p2))
  · exact ask_go (wl := [c0, c1]) (b := d1) (r := [d2]) t (by kernel_rfl) (by kernel_rfl) (Nat.le_of_ble_eq_true rfl) (Nat.le_of_ble_eq_true rfl) (Nat.le_of_ble_eq_true rfl) (mem2 m0 m1) (mem2 p1 p2) (hB (1, 4, 0, 2, 1, 2) (.tail _ (.tail _ (.tail _ (.tail _ (.tail _ (.tail _ (.tail _ (.tail _ (.tail _ (.tail _ (.tail _ (.tail _ (.tail _ (.tail _ (.head _)))))))))))))))) (all2_of k22 (KT_P2 m0 p1 p2) (KT_P2 m1 p1 p2))
  · exact ask_go (wl := [c0]) (b := d1) (r := [d2]) t (by kernel_rfl) (by kernel_rfl) (Nat.le_of_ble_eq_true rfl) (Nat.le_of_ble_eq_true rfl) (Nat.le_of_ble_eq_true rfl) (mem1 m0) (mem2 p1 p2) (hB (1, 5, 0, 1, 1, 2) (.tail _ (.tail _ (.tail _ (.tail _ (.tail _ (.tail _ (.tail _ (.tail _ (.tail _ (.tail _ (.tail _ (.tail _ (.tail _ (.tail _ (.tail _ (.head _))))))))))))))))) (all1_of k12 (KT_P2 m0 p1 p2))
  · exact absurd ij (by decide)
  · exact absurd ij (by decide)
  · exact ask_go (wl := [c0, c1, c2]) (b := d2) (r := []) t (by kernel_rfl) (by kernel_rfl) (Nat.le_of_ble_eq_true rfl) (Nat.le_of_ble_eq_true rfl) (Nat.le_of_ble_eq_true rfl) (mem3 m0 m1 m2) (mem1 p2) (hB (2, 3, 0, 3, 2, 1) (.tail _ (.tail _ (.tail _ (.tail _ (.tail _ (.tail _ (.tail _ (.tail _ (.tail _ (.tail _ (.tail _ (.tail _ (.tail _ (.tail _ (.tail _ (.tail _ (.head _)))))))))))))))))) (all3_of k31 (KT_le m0 p2) (KT_le m1 p2) (KT_le m2 p2))
  · exact ask_go (wl := [c0, c1]) (b := d2) (r := []) t (by kernel_rfl) (by kernel_rfl) (Nat.le_of_ble_eq_true rfl) (Nat.le_of_ble_eq_true rfl) (Nat.le_of_ble_eq_true rfl) (mem2 m0 m1) (mem1 p2) (hB (2, 4, 0, 2, 2, 1) (.tail _ (.tail _ (.tail _ (.tail _ (.tail _ (.tail _ (.tail _ (.tail _ (.tail _ (.tail _ (.tail _ (.tail _ (.tail _ (.tail _ (.tail _ (.tail _ (.tail _ (.head _))))))))))))))))))) (all2_of k21 (KT_le m0 p2) (KT_le m1 p2))
  · exact ask_go (wl := [c0]) (b := d2) (r := []) t (by kernel_rfl) (by kernel_rfl) (Nat.le_of_ble_eq_true rfl) (Nat.le_of_ble_eq_true rfl) (Nat.le_of_ble_eq_true rfl) (mem1 m0) (mem1 p2) (hB (2, 5, 0, 1, 2, 1) (.tail _ (.tail _ (.tail _ (.tail _ (.tail _ (.tail _ (.tail _ (.tail _ (.tail _ (.tail _ (.tail _ (.tail _ (.tail _ (.tail _ (.tail _ (.tail _ (.tail _ (.tail _ (.head _)))))))))))))))))))) (all1_of k11 (KT_le m0 p2))
end Mine
end

section
open PySem PySem.W PySem.Spec PySem.Calls PyProof.Rows
set_option Elab.async false
set_option maxRecDepth 100000
set_option maxHeartbeats 0
set_option pp.deepTerms false
set_option pp.maxSteps 2000
namespace Mine
section
variable {w : World} {mean : ExcName → Option Value} {mg mb : SMap} {dp un : Nat} {gd : Option (List Code)} {cn : PySem.Str} {cs : Scope} {a₀ : Addr} {ccd : Value} {cl : List (PySem.Str × Addr)} {outer outer1 : List Env} {base g : Heap} {L L₀ : Addr} {m : SMap} {news : List (Addr × Obj)} {s : Shared} {Q : Flow → Shared → Prop}

theorem gt1_c {L a : Addr} {h₀ : Heap} {A₀ : Around} {Q E : Value → Shared → Prop} {Y : LexA} {ln : Int} {tl : Tok} {v : Value} {pvs lvs : List Value} {pk lk : Nat}
    (B : Below A₀ base outer h₀) (F : Fr h₀ L s.heap m) (X : (hd01.heap_1 w.params).In h₀) (N : News h₀ L s.heap (lexE w Y ln tl (v :: pvs) pk lvs lk ++ news)) (T : Top VV LL mean mg mb h₀) (hk : cs.kind = .function)
   (hC : CodeHd base 248 244) (hY : LexOk Y) (ho1 : ∀ p ∈ news, p.1 ≠ Y.pb) (ho2 : ∀ p ∈ news, p.1 ≠ Y.dx) (ho3 : ∀ p ∈ news, p.1 ≠ Y.lf) (hz : (v :: pvs).length ≤ 1000) (hdp : dp + 12 < recursionLimit) (hun : un + 80 < cLine)
    (hret : ∀ (h' : Heap) (tk' : Nat), Fr h₀ L h' m → News h₀ L h' (lexE w Y ln tl pvs (pk + 1) lvs lk ++ news) → Q v { s with heap := h', toks := tk' }) :
    wpAny (model PP w) (ktrTop dp un gd cn cs L a ccd cl outer) (call (.ref 80) [.ref Y.x]) Q E s := by
  obtain ⟨⟨z1, z2, z3, z4, z5, z6, z7⟩, ⟨z8, z9, z10, z11⟩, fcls, fdict, ⟨ffd, ffun⟩, ⟨vs1, tq1, hc1, hc2⟩, hoc⟩ := id hY
  unfold lexE at N
  dsimp only [List.cons_append, List.nil_append] at N
  refine wpAny_noRaise ?_
  refine wpAny_call ?_
  k_dflt ktr_enter
  refine wpAny_noRaise ?_
  all_goals ((repeat' ((fail_if_success (with_reducible first | show EndQ _ _ _ | show Exit1 _ _ _ _ _ _ _ _ _ | show Turn1 _ _ _ _ _ _ _ _ _ | show TurnN _ _ _ _ _ _ _ _ _ | show wpAny _ _ (pyIter _) _ _ _ | show wpAny _ _ (exec (Stmt.While _ _ _ _) _) _ _ _)); first | (k_unfold; (try dsimp only)) | (k_end; wrow_close) | walk1 | (dsimp only; walk1) | (leave1; walk_say "STEP leave1"; try dsimp only) | fail "no step")))
  (with_reducible rename Fr h₀ _ _ _ => kF)
  (with_reducible rename News h₀ _ _ _ => kN)
  exact hret _ _ kF kN
theorem pt_c {L a : Addr} {h₀ : Heap} {A₀ : Around} {Q E : Value → Shared → Prop} {Y : LexA} {ln : Int} {tl : Tok} {v : Value} {pvs lvs : List Value} {pk lk : Nat}
    (B : Below A₀ base outer h₀) (F : Fr h₀ L s.heap m) (X : (hd01.heap_1 w.params).In h₀) (N : News h₀ L s.heap (lexE w Y ln tl pvs pk lvs lk ++ news)) (T : Top VV LL mean mg mb h₀) (hk : cs.kind = .function)
   (hC : CodeHd base 248 244) (hY : LexOk Y) (ho1 : ∀ p ∈ news, p.1 ≠ Y.pb) (ho2 : ∀ p ∈ news, p.1 ≠ Y.dx) (ho3 : ∀ p ∈ news, p.1 ≠ Y.lf) (hz : pvs.length ≤ 1000) (hdp : dp + 12 < recursionLimit) (hun : un + 80 < cLine)
    (hret : ∀ (k' : Nat) (h' : Heap) (tk' : Nat), Fr h₀ L h' m → News h₀ L h' (lexE w Y ln tl (pvs ++ [v]) k' lvs lk ++ news) → Q .none { s with heap := h', toks := tk' }) :
    wpAny (model PP w) (ktrTop dp un gd cn cs L a ccd cl outer) (call (.ref 87) [.ref Y.x, v]) Q E s := by
  obtain ⟨⟨z1, z2, z3, z4, z5, z6, z7⟩, ⟨z8, z9, z10, z11⟩, fcls, fdict, ⟨ffd, ffun⟩, ⟨vs1, tq1, hc1, hc2⟩, hoc⟩ := id hY
  unfold lexE at N
  dsimp only [List.cons_append, List.nil_append] at N
  refine wpAny_noRaise ?_
  refine wpAny_call ?_
  k_dflt ktr_enter
  refine wpAny_noRaise ?_
  all_goals ((repeat' ((fail_if_success (with_reducible first | show EndQ _ _ _ | show Exit1 _ _ _ _ _ _ _ _ _ | show Turn1 _ _ _ _ _ _ _ _ _ | show TurnN _ _ _ _ _ _ _ _ _ | show wpAny _ _ (pyIter _) _ _ _ | show wpAny _ _ (exec (Stmt.While _ _ _ _) _) _ _ _)); first | (k_unfold; (try dsimp only)) | (k_end; wrow_close) | walk1 | (dsimp only; walk1) | (leave1; walk_say "STEP leave1"; try dsimp only) | fail "no step")))
  (with_reducible rename Fr h₀ _ _ _ => kF)
  (with_reducible rename News h₀ _ _ _ => kN)
  try rw [List.push_toArray] at kN
  exact hret _ _ _ kF kN
end
end Mine
end

section
open PySem PySem.W PySem.Spec PySem.Calls PyProof.Rows
set_option Elab.async false
set_option maxRecDepth 100000
set_option maxHeartbeats 0
set_option pp.deepTerms false
set_option pp.maxSteps 2000
namespace Mine
section
variable {w : World} {mean : ExcName → Option Value} {mg mb : SMap} {dp un : Nat} {gd : Option (List Code)} {cn : PySem.Str} {cs : Scope} {a₀ : Addr} {ccd : Value} {cl : List (PySem.Str × Addr)} {outer outer1 : List Env} {base g : Heap} {L L₀ : Addr} {m : SMap} {news : List (Addr × Obj)} {s : Shared} {Q : Flow → Shared → Prop}

theorem segCol {Y : LexA} {ln : Int} {tl : Tok} {pvs lvs mvs : List Value} {pk lk : Nat} {rem ms : List Int} {hd row : Int} {th tw tr : Tok} {wd : PySem.Str} {ml x rr : Addr} {o1 : Obj} (B : Below (ktrTop dp un gd cn cs L₀ a₀ ccd cl outer) base (envX cn cs L₀ a₀ ccd cl :: outer) g) (X : (hd01.heap_1 w.params).In g) (T : Top VV LL mean mg mb g)
   (N : News g L s.heap ((L + 1, o1) :: (ml, LCg.lst mvs) :: (lexE w Y ln tl pvs pk lvs lk ++ news)))
   (F : Fr g L s.heap (frm [(Str.ofString "hand", .int hd th), (Str.ofString "meets", .ref ml), (Str.ofString "table", .ref x), (Str.ofString "word", .str wd tw), (Str.ofString "rights", .ref rr), (Str.ofString "row", .int row tr)] m)) (hC : CodeHd base 248 244) (hY : LexOk Y) (ho1 : ∀ p ∈ news, p.1 ≠ Y.pb) (ho2 : ∀ p ∈ news, p.1 ≠ Y.dx) (ho3 : ∀ p ∈ news, p.1 ≠ Y.lf) (hd1 : o1.data = .cell (some (.ref Y.x)))
   (hc1 : ∀ p ∈ lexE w Y ln tl pvs pk lvs lk, p.1 ≠ L + 1) (hm1 : ml ≠ Y.pb) (hm2 : ml ≠ Y.dx) (hm3 : ml ≠ Y.lf) (hms : IntsAre mvs ms) (hmz : ms.length ≤ 10) (hpv : IntsAre pvs rem) (hrl : rem.length = 6)
    (hdp : dp + 18 < recursionLimit) (hun : un + 160 < cLine)
    (hret : ∀ (pvs' : List Value) (pk' : Nat) (th' : Tok) (h' : Heap) (tk' : Nat) (m' : SMap), IntsAre pvs' (colF ms 0 hd rem).2 → Fr g L h' (frm [(Str.ofString "hand", .int (colF ms 0 hd rem).1 th'), (Str.ofString "meets", .ref ml), (Str.ofString "table", .ref x), (Str.ofString "word", .str wd tw), (Str.ofString "rights", .ref rr), (Str.ofString "row", .int row tr)] m') →
       News g L h' ((L + 1, o1) :: (ml, LCg.lst mvs) :: (lexE w Y ln tl pvs' pk' lvs lk ++ news)) → Q .next { s with heap := h', toks := tk' }) :
    wpAny (model PP w) ((ktrTop dp un gd cn cs L₀ a₀ ccd cl outer).deeper (fnEnvC (hd01.heap_1 w.params) (Str.ofString "_law_braid") 266 L)) (exec (brCol w) (fnEnvC (hd01.heap_1 w.params) (Str.ofString "_law_braid") 266 L)) (EndQ Q) (fun _ _ => False) s := by
  conv => arg 3; arg 1; whnf
  simp only [fnEnvC]
  generalize hsc : fnScope (hd01.heap_1 w.params) 266 = sc
  conv at hsc => lhs; whnf
  subst hsc
  generalize hsc : fnCode (hd01.heap_1 w.params) 266 = sc
  conv at hsc => lhs; whnf
  subst hsc
  (repeat' ((fail_if_success (with_reducible first | show wpAny _ _ (call (Value.ref 202) _) _ _ _ | show wpAny _ _ (call (Value.ref 177) _) _ _ _ | show wpAny _ _ (call (Value.ref 87) _) _ _ _ | show wpAny _ _ (call (Value.ref 80) _) _ _ _ | show EndQ _ _ _ | show Exit1 _ _ _ _ _ _ _ _ _ | show Turn1 _ _ _ _ _ _ _ _ _ | show TurnN _ _ _ _ _ _ _ _ _ | show wpAny _ _ (pyIter _) _ _ _ | show wpAny _ _ (exec (Stmt.While _ _ _ _) _) _ _ _)); first | (k_unfold; (try dsimp only)) | (k_end; wrow_close) | walk1 | (dsimp only; walk1) | (leave1; walk_say "STEP leave1"; try dsimp only) | fail "no step"))
  (with_reducible rename Fr _ _ _ _ => kF)
  (with_reducible rename News _ _ _ _ => kN)
  (rename IsRange _ _ _ _ _ _ _ _ => rg)
  generalize hR : colF ms 0 hd rem = R at hret
  obtain ⟨H, O⟩ := R
  refine for_range0 6 (fun i m₁ news₁ => ∃ (pvs : List Value) (pk : Nat) (hd : Int) (th : Tok) (m' : SMap) (rem out O' : List Int), m₁ = frm [(Str.ofString "hand", .int hd th), (Str.ofString "meets", .ref ml), (Str.ofString "table", .ref x), (Str.ofString "word", .str wd tw), (Str.ofString "rights", .ref rr), (Str.ofString "row", .int row tr)] m' ∧
     news₁ = (L + 1, o1) :: (ml, LCg.lst mvs) :: (lexE w Y ln tl pvs pk lvs lk ++ news) ∧ IntsAre pvs (rem ++ out) ∧ rem.length + i = 6 ∧ out.length = i ∧ colF ms i hd rem = (H, O') ∧ out ++ O' = O) rfl rg (by decide) (by decide) kF kN ?_ ?_ ?_
  · exact ⟨pvs, pk, hd, th, _, rem, [], O, frm_eq ⟨rfl, rfl, rfl, rfl, rfl, rfl, trivial⟩, rfl, by simpa using hpv, by omega, rfl, hR, rfl⟩
  · clear kF kN; (try clear F); (try clear N)
    intro i ti m₁ news₁ h tk own hin hadr hoff hJ F N
    obtain ⟨pvs, pk, hd, th, m', rem, out, O', rfl, rfl, hpv, hrl, hol, hcf, hout⟩ := hJ
    simp only [List.cons_append, List.append_assoc] at N
    have hc1 := lexE_ne (ln' := ln) (tl' := tl) (pvs' := pvs) (lvs' := lvs) (pk' := pk) (lk' := lk) hc1
    have hw1 : ∀ p ∈ own, p.1 ≠ Y.pb := OwnOff.ne hoff (by simp)
    have hw2 : ∀ p ∈ own, p.1 ≠ Y.dx := OwnOff.ne hoff (by simp)
    have hw3 : ∀ p ∈ own, p.1 ≠ Y.lf := OwnOff.ne hoff (by simp)
    obtain ⟨g1, g2, g3⟩ := offs (news := news ++ own) (it := L + 1) (q := ml) (o1 := o1) (o2 := LCg.lst mvs) hc1 hm1 hm2 hm3 (all_app ho1 hw1) (all_app ho2 hw2) (all_app ho3 hw3)
    obtain ⟨o, rem, rfl⟩ : ∃ o r, rem = o :: r := by cases rem with
      | nil => simp at hrl; omega
      | cons o r => exact ⟨o, r, rfl⟩
    obtain ⟨t9, pvs, rfl, hpw⟩ := IntsAre.cons_inv hpv
    clear hpv
    replace hpw : IntsAre pvs (rem ++ out) := hpw
    have hz := hpw.length
    simp only [List.length_append, List.length_cons] at hz hrl
    (repeat' ((fail_if_success (with_reducible first | show wpAny _ _ (call (Value.ref 202) _) _ _ _ | show wpAny _ _ (call (Value.ref 177) _) _ _ _ | show wpAny _ _ (call (Value.ref 87) _) _ _ _ | show wpAny _ _ (call (Value.ref 80) _) _ _ _ | show EndQ _ _ _ | show Exit1 _ _ _ _ _ _ _ _ _ | show Turn1 _ _ _ _ _ _ _ _ _ | show TurnN _ _ _ _ _ _ _ _ _ | show wpAny _ _ (pyIter _) _ _ _ | show wpAny _ _ (exec (Stmt.While _ _ _ _) _) _ _ _)); first | (k_unfold; (try dsimp only)) | (k_end; wrow_close) | walk1 | (dsimp only; walk1) | (leave1; walk_say "STEP leave1"; try dsimp only) | fail "no step"))
    (with_reducible rename Fr _ _ _ _ => kF)
    (with_reducible rename News _ _ _ _ => kN)
    refine' gt1_c ?B kF ?X (news_to kN) ?T ?hk hC hY g1 g2 g3 ?hz ?hd ?hu ?_
    case B => k_asm
    case X => k_asm
    case T => k_asm
    case hk => exact rfl
    case hz => simp only [List.length_cons]; omega
    case hd => ktr_room
    case hu => ktr_units
    clear kF kN; (try clear F); (try clear N)
    intro h8 tk8 F8 N8
    replace N8 := news_back N8
    (repeat' ((fail_if_success (with_reducible first | show wpAny _ _ (call (Value.ref 202) _) _ _ _ | show wpAny _ _ (call (Value.ref 177) _) _ _ _ | show wpAny _ _ (call (Value.ref 87) _) _ _ _ | show wpAny _ _ (call (Value.ref 80) _) _ _ _ | show EndQ _ _ _ | show Exit1 _ _ _ _ _ _ _ _ _ | show Turn1 _ _ _ _ _ _ _ _ _ | show TurnN _ _ _ _ _ _ _ _ _ | show wpAny _ _ (pyIter _) _ _ _ | show wpAny _ _ (exec (Stmt.While _ _ _ _) _) _ _ _)); first | (k_unfold; (try dsimp only)) | (k_end; wrow_close) | walk1 | (dsimp only; walk1) | (leave1; walk_say "STEP leave1"; try dsimp only) | fail "no step"))
    all_goals (
      (with_reducible rename Fr _ _ _ _ => kF)
      (with_reducible rename News _ _ _ _ => kN)
      refine' pt_c ?B kF ?X (news_to kN) ?T ?hk hC hY g1 g2 g3 ?hz ?hd ?hu ?_
      case B => k_asm
      case X => k_asm
      case T => k_asm
      case hk => exact rfl
      case hz => omega
      case hd => ktr_room
      case hu => ktr_units
      clear kF kN
      intro k9 h9 tk9 F9 N9
      replace N9 := news_back N9
      (repeat' ((fail_if_success (with_reducible first | show wpAny _ _ (call (Value.ref 202) _) _ _ _ | show wpAny _ _ (call (Value.ref 177) _) _ _ _ | show wpAny _ _ (call (Value.ref 87) _) _ _ _ | show wpAny _ _ (call (Value.ref 80) _) _ _ _ | show EndQ _ _ _ | show Exit1 _ _ _ _ _ _ _ _ _ | show Turn1 _ _ _ _ _ _ _ _ _ | show TurnN _ _ _ _ _ _ _ _ _ | show wpAny _ _ (pyIter _) _ _ _ | show wpAny _ _ (exec (Stmt.While _ _ _ _) _) _ _ _)); first | (k_unfold; (try dsimp only)) | (k_end; wrow_close) | walk1 | (dsimp only; walk1) | (leave1; walk_say "STEP leave1"; try dsimp only) | fail "no step"))
      (with_reducible rename Fr _ _ _ _ => kF)
      (with_reducible rename News _ _ _ _ => kN))
    · have kN2 := n2app kN
      obtain ⟨O2, q1, q2⟩ := colF_t (by simp [*]) hcf hout
      exact turnN_next' ((L + 1, o1) :: (ml, LCg.lst mvs) :: (lexE w Y ln tl (pvs ++ [Value.int hd th]) _ lvs lk ++ news)) kF kN2 rfl ⟨_, _, o, _, _, rem, out ++ [hd], O2, frm_eq ⟨rfl, rfl, rfl, rfl, rfl, rfl, trivial⟩, rfl, by rw [← List.append_assoc]; exact hpw.append (.cons _ _ .nil), by omega, by simp [hol], q1, q2⟩
    · have kN2 := n2app kN
      obtain ⟨O2, q1, q2⟩ := colF_t (by simp [*]) hcf hout
      exact turnN_next' ((L + 1, o1) :: (ml, LCg.lst mvs) :: (lexE w Y ln tl (pvs ++ [Value.int hd th]) _ lvs lk ++ news)) kF kN2 rfl ⟨_, _, o, _, _, rem, out ++ [hd], O2, frm_eq ⟨rfl, rfl, rfl, rfl, rfl, rfl, trivial⟩, rfl, by rw [← List.append_assoc]; exact hpw.append (.cons _ _ .nil), by omega, by simp [hol], q1, q2⟩
    · have kN2 := n2app kN
      obtain ⟨O2, q1, q2⟩ := colF_f (by assumption) (by assumption) hcf hout
      exact turnN_next' ((L + 1, o1) :: (ml, LCg.lst mvs) :: (lexE w Y ln tl (pvs ++ [Value.int o t9]) _ lvs lk ++ news)) kF kN2 rfl ⟨_, _, hd, _, _, rem, out ++ [o], O2, frm_eq ⟨rfl, rfl, rfl, rfl, rfl, rfl, trivial⟩, rfl, by rw [← List.append_assoc]; exact hpw.append (.cons _ _ .nil), by omega, by simp [hol], q1, q2⟩
  · intro m₁ news₁ h tk hJ F N
    obtain ⟨pvs, pk, hd, th, m', rem, out, O', rfl, rfl, hpv, hrl, hol, hcf, hout⟩ := hJ
    obtain rfl : rem = [] := List.eq_nil_of_length_eq_zero (by omega)
    injection hcf with e1 e2
    subst e1; subst e2
    rw [List.append_nil] at hout
    subst hout
    exact hret _ _ _ _ _ _ (by simpa using hpv) F N
end
end Mine
end

section
open PySem PySem.W PySem.Spec PySem.Calls PyProof.Rows
set_option Elab.async false
set_option maxRecDepth 100000
set_option maxHeartbeats 0
set_option pp.deepTerms false
set_option pp.maxSteps 2000
namespace Mine
section
variable {w : World} {mean : ExcName → Option Value} {mg mb : SMap} {dp un : Nat} {gd : Option (List Code)} {cn : PySem.Str} {cs : Scope} {a₀ : Addr} {ccd : Value} {cl : List (PySem.Str × Addr)} {outer outer1 : List Env} {base g : Heap} {L L₀ : Addr} {m : SMap} {news : List (Addr × Obj)} {s : Shared} {Q : Flow → Shared → Prop}

theorem segRest {Y : LexA} {ln : Int} {tl : Tok} {pvs lvs mvs rvs : List Value} {pk lk kr : Nat} {rem ms : List Int} {row : Int} {tw tr : Tok} {wd : PySem.Str} {ml x rr : Addr} {o1 o2 : Obj} (B : Below (ktrTop dp un gd cn cs L₀ a₀ ccd cl outer) base (envX cn cs L₀ a₀ ccd cl :: outer) g) (X : (hd01.heap_1 w.params).In g) (T : Top VV LL mean mg mb g)
   (N : News g L s.heap ((rr, listOf rvs.toArray kr) :: (L + 1 + 1, o2) :: (L + 1, o1) :: (ml, LCg.lst mvs) :: (lexE w Y ln tl pvs pk lvs lk ++ news)))
   (F : Fr g L s.heap (frm [(Str.ofString "meets", .ref ml), (Str.ofString "table", .ref x), (Str.ofString "word", .str wd tw), (Str.ofString "rights", .ref rr), (Str.ofString "row", .int row tr)] m)) (hC : CodeHd base 248 244) (hY : LexOk Y) (ho1 : ∀ p ∈ news, p.1 ≠ Y.pb) (ho2 : ∀ p ∈ news, p.1 ≠ Y.dx) (ho3 : ∀ p ∈ news, p.1 ≠ Y.lf) (hd1 : o1.data = .cell (some (.ref Y.x)))
   (hc1 : ∀ p ∈ lexE w Y ln tl pvs pk lvs lk, p.1 ≠ L + 1) (hm1 : ml ≠ Y.pb) (hm2 : ml ≠ Y.dx) (hm3 : ml ≠ Y.lf) (hms : IntsAre mvs ms) (hmz : ms.length ≤ 10) (hpv : IntsAre pvs rem) (hrl : rem.length = 6)
   (hc2 : ∀ p ∈ lexE w Y ln tl pvs pk lvs lk, p.1 ≠ L + 1 + 1) (hrr : ∀ p ∈ lexE w Y ln tl pvs pk lvs lk, p.1 ≠ rr) (hr1 : @Ne Nat rr (L + 1)) (hr2 : @Ne Nat rr (L + 1 + 1)) (hr3 : @Ne Nat ml rr) (hr4 : ∀ p ∈ news, p.1 ≠ rr) (hrow : 0 ≤ row ∧ row ≤ 10) (hrv : rvs.length ≤ 100)
    (hdp : dp + 18 < recursionLimit) (hun : un + 160 < cLine)
    (hret : ∀ (pvs' : List Value) (pk' kr' : Nat) (th' : Tok) (h' : Heap) (tk' : Nat) (m' : SMap), IntsAre pvs' (colF ms 0 (5 - row) rem).2 → Fr g L h' (frm [(Str.ofString "table", .ref x), (Str.ofString "word", .str wd tw), (Str.ofString "rights", .ref rr), (Str.ofString "row", .int row tr)] m') →
       News g L h' ((rr, listOf (rvs ++ [Value.int (colF ms 0 (5 - row) rem).1 th']).toArray kr') :: (L + 1 + 1, o2) :: (L + 1, o1) :: (ml, LCg.lst mvs) :: (lexE w Y ln tl pvs' pk' lvs lk ++ news)) → Q .next { s with heap := h', toks := tk' }) :
    wpAny (model PP w) ((ktrTop dp un gd cn cs L₀ a₀ ccd cl outer).deeper (fnEnvC (hd01.heap_1 w.params) (Str.ofString "_law_braid") 266 L)) (execs (brRest w) (fnEnvC (hd01.heap_1 w.params) (Str.ofString "_law_braid") 266 L)) (EndQ Q) (fun _ _ => False) s := by
  conv => arg 3; arg 1; whnf
  simp only [fnEnvC]
  generalize hsc : fnScope (hd01.heap_1 w.params) 266 = sc
  conv at hsc => lhs; whnf
  subst hsc
  generalize hsc : fnCode (hd01.heap_1 w.params) 266 = sc
  conv at hsc => lhs; whnf
  subst hsc
  (repeat' ((fail_if_success (with_reducible first | show wpAny _ _ (exec (Stmt.For _ _ _ _ _) _) _ _ _ | show wpAny _ _ (call (Value.ref 202) _) _ _ _ | show wpAny _ _ (call (Value.ref 177) _) _ _ _ | show wpAny _ _ (call (Value.ref 87) _) _ _ _ | show wpAny _ _ (call (Value.ref 80) _) _ _ _ | show EndQ _ _ _ | show Exit1 _ _ _ _ _ _ _ _ _ | show Turn1 _ _ _ _ _ _ _ _ _ | show TurnN _ _ _ _ _ _ _ _ _ | show wpAny _ _ (pyIter _) _ _ _ | show wpAny _ _ (exec (Stmt.While _ _ _ _) _) _ _ _)); first | (k_unfold; (try dsimp only)) | (k_end; wrow_close) | walk1 | (dsimp only; walk1) | (leave1; walk_say "STEP leave1"; try dsimp only) | fail "no step"))
  (with_reducible rename Fr _ _ _ _ => kF)
  (with_reducible rename News _ _ _ _ => kN)
  have q0 := hc1
  have q1 := hc2
  have q2 := hrr
  simp only [lexE, List.mem_cons, List.not_mem_nil, or_false, forall_eq_or_imp, forall_eq] at q0 q1 q2
  refine' segCol (news := (rr, listOf rvs.toArray kr) :: (L + 1 + 1, o2) :: news) B X T (n4_in kN) (fr_frm [(Str.ofString "hand", .int (5 - row) _), (Str.ofString "meets", .ref ml), (Str.ofString "table", .ref x), (Str.ofString "word", .str wd tw), (Str.ofString "rights", .ref rr), (Str.ofString "row", .int row tr)] kF ⟨rfl, rfl, rfl, rfl, rfl, rfl, trivial⟩) hC hY ?g1 ?g2 ?g3 hd1 hc1 hm1 hm2 hm3 hms hmz hpv hrl hdp hun ?_
  case g1 => exact off2 (Ne.symm q2.1) (Ne.symm q1.1) ho1
  case g2 => exact off2 (Ne.symm q2.2.2.1) (Ne.symm q1.2.2.1) ho2
  case g3 => exact off2 (Ne.symm q2.2.2.2.2.2.2.2.2.1) (Ne.symm q1.2.2.2.2.2.2.2.2.1) ho3
  clear kF kN
  intro pvs8 pk8 th8 h8 tk8 m8 hp8 F8 N8
  replace N8 := n4_out N8
  have hr5 := lexE_ne (ln' := ln) (tl' := tl) (pvs' := pvs8) (lvs' := lvs) (pk' := pk8) (lk' := lk) hrr
  have hr6 := all_app hr5 hr4
  (repeat' ((fail_if_success (with_reducible first | show wpAny _ _ (exec (Stmt.For _ _ _ _ _) _) _ _ _ | show wpAny _ _ (call (Value.ref 202) _) _ _ _ | show wpAny _ _ (call (Value.ref 177) _) _ _ _ | show wpAny _ _ (call (Value.ref 87) _) _ _ _ | show wpAny _ _ (call (Value.ref 80) _) _ _ _ | show EndQ _ _ _ | show Exit1 _ _ _ _ _ _ _ _ _ | show Turn1 _ _ _ _ _ _ _ _ _ | show TurnN _ _ _ _ _ _ _ _ _ | show wpAny _ _ (pyIter _) _ _ _ | show wpAny _ _ (exec (Stmt.While _ _ _ _) _) _ _ _)); first | (k_unfold; (try dsimp only)) | (k_end; wrow_close) | walk1 | (dsimp only; walk1) | (leave1; walk_say "STEP leave1"; try dsimp only) | fail "no step"))
  (with_reducible rename Fr _ _ _ _ => kF)
  (with_reducible rename News _ _ _ _ => kN)
  (try rw [List.push_toArray] at kN)
  exact hret _ _ _ _ _ _ _ hp8 (fr_frm [(Str.ofString "table", .ref x), (Str.ofString "word", .str wd tw), (Str.ofString "rights", .ref rr), (Str.ofString "row", .int row tr)] kF ⟨rfl, rfl, rfl, rfl, trivial⟩) kN
end
end Mine
end

section
open PySem PySem.W PySem.Spec PySem.Calls PyProof.Rows
set_option Elab.async false
set_option maxRecDepth 100000
set_option maxHeartbeats 0
set_option pp.deepTerms false
set_option pp.maxSteps 2000
namespace Mine
section
variable {w : World} {mean : ExcName → Option Value} {mg mb : SMap} {dp un : Nat} {gd : Option (List Code)} {cn : PySem.Str} {cs : Scope} {a₀ : Addr} {ccd : Value} {cl : List (PySem.Str × Addr)} {outer outer1 : List Env} {base g : Heap} {L L₀ : Addr} {m : SMap} {news : List (Addr × Obj)} {s : Shared} {Q : Flow → Shared → Prop}

theorem items_c {L a : Addr} {h₀ : Heap} {A₀ : Around} {Q E : Value → Shared → Prop} {x dx hl a0 a1 a2 : Addr} {t t0 t1 t2 u0 u1 u2 : Tok} {n0 n1 n2 v0 v1 v2 : PySem.Str} {k : Nat}
    (B : Below A₀ base outer h₀) (F : Fr h₀ L s.heap m) (X : (hd01.heap_1 w.params).In h₀) (N : News h₀ L s.heap ((hl, listOf #[.ref a0, .ref a1, .ref a2] k) :: (x, instObj 238 dx) :: (dx, dictOf [⟨PyData.keyHash w.params (Str.ofString "_headers"), .str (Str.ofString "_headers") t, .ref hl⟩] 1) :: (a0, { cls := .type "tuple", data := .seq #[.str n0 t0, .str v0 u0] }) :: (a1, { cls := .type "tuple", data := .seq #[.str n1 t1, .str v1 u1] }) :: (a2, { cls := .type "tuple", data := .seq #[.str n2 t2, .str v2 u2] }) :: news)) (T : Top VV LL mean mg mb h₀) (hk : cs.kind = .function)
   (hdp : dp + 12 < recursionLimit) (hun : un + 80 < cLine)
    (hret : ∀ (l' : Addr) (k' : Nat) (h' : Heap) (tk' : Nat), AllLt l' news → Fr h₀ L h' m → News h₀ L h' ((l', listOf #[.ref a0, .ref a1, .ref a2] k') :: (hl, listOf #[.ref a0, .ref a1, .ref a2] k) :: (x, instObj 238 dx) :: (dx, dictOf [⟨PyData.keyHash w.params (Str.ofString "_headers"), .str (Str.ofString "_headers") t, .ref hl⟩] 1) :: (a0, { cls := .type "tuple", data := .seq #[.str n0 t0, .str v0 u0] }) :: (a1, { cls := .type "tuple", data := .seq #[.str n1 t1, .str v1 u1] }) :: (a2, { cls := .type "tuple", data := .seq #[.str n2 t2, .str v2 u2] }) :: news) → Q (.ref l') { s with heap := h', toks := tk' }) :
    wpAny (model PP w) (ktrTop dp un gd cn cs L a ccd cl outer) (call (.ref 202) [.ref x]) Q E s := by
  refine wpAny_noRaise ?_
  refine wpAny_call ?_
  k_dflt ktr_enter
  refine wpAny_noRaise ?_
  (repeat' ((fail_if_success (with_reducible first | show NilAt _ _ _ _ _ _ _ _ _ | show EndQ _ _ _ | show Exit1 _ _ _ _ _ _ _ _ _ | show Turn1 _ _ _ _ _ _ _ _ _ | show TurnN _ _ _ _ _ _ _ _ _ | show wpAny _ _ (pyIter _) _ _ _ | show wpAny _ _ (exec (Stmt.While _ _ _ _) _) _ _ _)); first | (k_unfold; (try dsimp only)) | (k_end; wrow_close) | walk1 | (dsimp only; walk1) | (leave1; walk_say "STEP leave1"; try dsimp only) | fail "no step"))
  (with_reducible rename Fr h₀ _ _ _ => kF)
  (with_reducible rename News h₀ _ _ _ => kN)
  refine hret _ _ _ _ ?_ kF kN
  (repeat (rename _ ∧ _ => hcj; obtain ⟨_, _⟩ := hcj))
  assumption
end
end Mine
end

section
open PySem PySem.W PySem.Spec PySem.Calls PyProof.Rows
set_option Elab.async false
set_option maxRecDepth 100000
set_option maxHeartbeats 0
set_option pp.deepTerms false
set_option pp.maxSteps 2000
namespace Mine
local macro_rules | `(tactic| walk_at "eval ListComp") => `(tactic| (k_here; lct_look; lcg_calm; k_dflt (refine LCt.ListComp_T (F₀ := by k_asm) (by with_unfolding_all rfl) (by decide) (by rfl) (by decide) (by rfl) ?_)))
section
variable {w : World} {mean : ExcName → Option Value} {mg mb : SMap} {dp un : Nat} {gd : Option (List Code)} {cn : PySem.Str} {cs : Scope} {a₀ : Addr} {ccd : Value} {cl : List (PySem.Str × Addr)} {outer outer1 : List Env} {base g : Heap} {L L₀ : Addr} {m : SMap} {news : List (Addr × Obj)} {s : Shared} {Q : Flow → Shared → Prop}

theorem gaN_c {L a : Addr} {h₀ : Heap} {A₀ : Around} {Q E : Value → Shared → Prop} {x dx hl : Addr} {t : Tok} {k : Nat} {es : List Ent} {y : PySem.Str} {ty : Tok}
    (B : Below A₀ base outer h₀) (F : Fr h₀ L s.heap m) (X : (hd01.heap_1 w.params).In h₀) (N : News h₀ L s.heap (bookE w hl x dx t k es ++ news)) (T : Top VV LL mean mg mb h₀) (hk : cs.kind = .function)
   (hno : reNo (patCode w 103) (Txt.lower y) = true) (hly : y.length ≤ 1000) (hes : es.length ≤ 1000) (hel : ∀ e ∈ es, e.n.length ≤ 1000) (hdp : dp + 22 < recursionLimit) (hun : un + 180 < cLine)
    (hret : ∀ (l' : Addr) (h' : Heap) (tk' : Nat), (∀ p ∈ bookE w hl x dx t k es ++ news, p.1 ≠ l') → Fr h₀ L h' m → News h₀ L h' ((l', LCg.lst (gaE y es)) :: (bookE w hl x dx t k es ++ news)) → Q (.ref l') { s with heap := h', toks := tk' }) :
    wpAny (model PP w) (ktrTop dp un gd cn cs L a ccd cl outer) (call (.ref 177) [.ref x, .str y ty]) Q E s := by
  refine wpAny_noRaise ?_
  refine wpAny_call ?_
  dsimp only [bookE, List.cons_append] at N hret
  have hmem : ∀ p ∈ entL es, p ∈ entL es ++ news := fun p hp => List.mem_append_left _ hp
  generalize hR : entL es ++ news = R at N hret hmem
  k_dflt (walk_at "ENTERC")
  refine wpAny_noRaise ?_
  (repeat' ((fail_if_success (with_reducible first | show NilAt _ _ _ _ _ _ _ _ _ | show NilView _ _ _ _ _ _ _ _ | show wpAny _ _ (exec (Stmt.For _ _ _ _ _) _) _ _ _ | show wpAny _ _ (call (Value.ref 139) _ _) _ _ _ | show LCg.CompEnd _ _ _ _ _ _ _ _ _ _ _ _ _ _ | show LCt.CompSrcT _ _ _ _ _ _ _ _ _ _ _ _ _ _ _ | show EndQ _ _ _ | show Exit1 _ _ _ _ _ _ _ _ _ | show Turn1 _ _ _ _ _ _ _ _ _ | show TurnN _ _ _ _ _ _ _ _ _ | show wpAny _ _ (pyIter _) _ _ _ | show wpAny _ _ (exec (Stmt.While _ _ _ _) _) _ _ _)); first | (k_unfold; (try dsimp only)) | (k_end; wrow_close) | walk1 | (dsimp only; walk1) | (leave1; walk_say "STEP leave1"; try dsimp only) | fail "no step"))
  (with_reducible rename Fr _ _ _ _ => kF)
  (with_reducible rename News _ _ _ _ => kN)
  refine' cvN_c ?B kF ?X kN ?T ?hk hno ?hd ?hu ?_
  case B => k_asm
  case X => k_asm
  case T => k_asm
  case hk => exact rfl
  case hd => ktr_room
  case hu => ktr_units
  clear kF kN
  intro h6 tk6 F6 N6
  (repeat' ((fail_if_success (with_reducible first | show NilAt _ _ _ _ _ _ _ _ _ | show NilView _ _ _ _ _ _ _ _ | show wpAny _ _ (exec (Stmt.For _ _ _ _ _) _) _ _ _ | show wpAny _ _ (call (Value.ref 139) _ _) _ _ _ | show LCg.CompEnd _ _ _ _ _ _ _ _ _ _ _ _ _ _ | show LCt.CompSrcT _ _ _ _ _ _ _ _ _ _ _ _ _ _ _ | show EndQ _ _ _ | show Exit1 _ _ _ _ _ _ _ _ _ | show Turn1 _ _ _ _ _ _ _ _ _ | show TurnN _ _ _ _ _ _ _ _ _ | show wpAny _ _ (pyIter _) _ _ _ | show wpAny _ _ (exec (Stmt.While _ _ _ _) _) _ _ _)); first | (k_unfold; (try dsimp only)) | (k_end; wrow_close) | walk1 | (dsimp only; walk1) | (leave1; walk_say "STEP leave1"; try dsimp only) | fail "no step"))
  (with_reducible rename Fr _ _ _ _ => kF)
  (with_reducible rename News _ _ _ _ => kN)
  refine' LCt.CompSrcT.ledger ?hh ?F ?N ?mm ?sz ?_
  case F => exact kF
  case N => exact kN
  case hh => exact rfl
  case mm => (repeat (first | exact List.Mem.head _ | apply List.Mem.tail))
  case sz => (show _ ≤ sizeLine; rw [List.size_toArray, List.length_map, sizeLine_eq]; omega)
  intro g9
  refine compT_ind (J := fun i ys news' => ys = gaE y (es.take i) ∧ news' = _) _ ?turn ?fin _ 0 [] _ (Nat.zero_add _) ⟨rfl, rfl⟩
  case turn =>
    clear kF kN
    rintro i ys news' hi ⟨rfl, rfl⟩ v I oI C oC D m₂ h9 tk9 E' hP hns hx F9 N9 off9 ne9
    have hi2 : i < es.length := by simpa using hi
    obtain ⟨e, he⟩ : ∃ e, es[i]? = some e := ⟨es[i], by simp [hi2]⟩
    obtain rfl : v = .ref e.a := by simpa [he] using hP.symm
    have hle := hel e (List.mem_of_getElem? he)
    have N9' : News _ _ _ ((e.a, e.obj) :: _) := fun p hp => (List.mem_cons.1 hp).elim (fun q => q ▸ N9 _ (.tail _ (.tail _ (.tail _ (.tail _ (.tail _ (.tail _ (.tail _ (hmem _ (ent_mem he))))))))) ) (fun q => N9 p q)
    have hT := gaE_take (y := y) he
    (repeat' ((fail_if_success (with_reducible first | show NilAt _ _ _ _ _ _ _ _ _ | show NilView _ _ _ _ _ _ _ _ | show wpAny _ _ (exec (Stmt.For _ _ _ _ _) _) _ _ _ | show wpAny _ _ (call (Value.ref 139) _ _) _ _ _ | show LCg.CompEnd _ _ _ _ _ _ _ _ _ _ _ _ _ _ | show LCt.CompSrcT _ _ _ _ _ _ _ _ _ _ _ _ _ _ _ | show EndQ _ _ _ | show Exit1 _ _ _ _ _ _ _ _ _ | show Turn1 _ _ _ _ _ _ _ _ _ | show TurnN _ _ _ _ _ _ _ _ _ | show wpAny _ _ (pyIter _) _ _ _ | show wpAny _ _ (exec (Stmt.While _ _ _ _) _) _ _ _)); first | (k_unfold; (try dsimp only)) | (k_end; wrow_close) | walk1 | (dsimp only; walk1) | (leave1; walk_say "STEP leave1"; try dsimp only) | fail "no step"))
    all_goals (
      refine LCg.CompEnd.intro F9 N9 _ (fun _ h => h) off9 (.inr ⟨_, .tail _ (.head _), rfl, _, rfl⟩) ⟨?_, rfl⟩
      rw [hT]
      simp only [*, if_true, if_false, Bool.false_eq_true, List.append_nil])
  case fin =>
    rintro ys news' ⟨rfl, rfl⟩
    rw [show List.take (List.map (fun e => Value.ref e.a) es).toArray.size es = es by rw [List.size_toArray, List.length_map, List.take_length]]
    clear kF kN
    (repeat' ((fail_if_success (with_reducible first | show NilAt _ _ _ _ _ _ _ _ _ | show NilView _ _ _ _ _ _ _ _ | show wpAny _ _ (exec (Stmt.For _ _ _ _ _) _) _ _ _ | show wpAny _ _ (call (Value.ref 139) _ _) _ _ _ | show LCg.CompEnd _ _ _ _ _ _ _ _ _ _ _ _ _ _ | show LCt.CompSrcT _ _ _ _ _ _ _ _ _ _ _ _ _ _ _ | show EndQ _ _ _ | show Exit1 _ _ _ _ _ _ _ _ _ | show Turn1 _ _ _ _ _ _ _ _ _ | show TurnN _ _ _ _ _ _ _ _ _ | show wpAny _ _ (pyIter _) _ _ _ | show wpAny _ _ (exec (Stmt.While _ _ _ _) _) _ _ _)); first | (k_unfold; (try dsimp only)) | (k_end; wrow_close) | walk1 | (dsimp only; walk1) | (leave1; walk_say "STEP leave1"; try dsimp only) | fail "no step"))
    (with_reducible rename Fr h₀ _ _ _ => kF)
    (with_reducible rename News h₀ _ _ _ => kN)
    (rename @Ne Nat _ _ ∧ _ => o1)
    have o9 : LCg.Off1 _ ((hl, listOf (es.map fun e => Value.ref e.a).toArray k) :: (x, instObj 238 dx) :: (dx, bookD w hl t) :: R) := o1.2
    exact hret _ _ _ (fun p hp => off1_mem o9 p hp) kF (fun p hp => kN p ((List.mem_cons.1 hp).elim (fun q => q ▸ .head _) fun q => .tail _ (.tail _ q)))
end
end Mine
end

section
open PySem PySem.W PySem.Spec PySem.Calls PyProof.Rows
set_option Elab.async false
set_option maxRecDepth 100000
set_option maxHeartbeats 0
set_option pp.deepTerms false
set_option pp.maxSteps 2000
namespace Mine
section
variable {w : World} {mean : ExcName → Option Value} {mg mb : SMap} {dp un : Nat} {gd : Option (List Code)} {cn : PySem.Str} {cs : Scope} {a₀ : Addr} {ccd : Value} {cl : List (PySem.Str × Addr)} {outer outer1 : List Env} {base g : Heap} {L L₀ : Addr} {m : SMap} {news : List (Addr × Obj)} {s : Shared} {Q : Flow → Shared → Prop}
theorem gaE_gaV (y : PySem.Str) (es : List Ent) : gaE y es = gaV y (es.map fun e => (e.n, .str e.v e.u)) := by
  unfold gaE gaV
  rw [List.filter_map, List.map_map]
  rfl
theorem ga_c {L a : Addr} {h₀ : Heap} {A₀ : Around} {Q E : Value → Shared → Prop} {x dx hl a0 a1 a2 : Addr} {t t0 t1 t2 u0 u1 u2 : Tok} {n0 n1 n2 v0 v1 v2 : PySem.Str} {k : Nat} {y : PySem.Str} {ty : Tok}
    (B : Below A₀ base outer h₀) (F : Fr h₀ L s.heap m) (X : (hd01.heap_1 w.params).In h₀) (N : News h₀ L s.heap ((hl, listOf #[.ref a0, .ref a1, .ref a2] k) :: (x, instObj 238 dx) :: (dx, dictOf [⟨PyData.keyHash w.params (Str.ofString "_headers"), .str (Str.ofString "_headers") t, .ref hl⟩] 1) :: (a0, { cls := .type "tuple", data := .seq #[.str n0 t0, .str v0 u0] }) :: (a1, { cls := .type "tuple", data := .seq #[.str n1 t1, .str v1 u1] }) :: (a2, { cls := .type "tuple", data := .seq #[.str n2 t2, .str v2 u2] }) :: news)) (T : Top VV LL mean mg mb h₀) (hk : cs.kind = .function)
   (hno : reNo (patCode w 103) (Txt.lower y) = true) (hly : y.length ≤ 1000) (hly0 : n0.length ≤ 1000) (hly1 : n1.length ≤ 1000) (hly2 : n2.length ≤ 1000) (hdp : dp + 22 < recursionLimit) (hun : un + 180 < cLine)
    (hret : ∀ (l' : Addr) (k' : Nat) (h' : Heap) (tk' : Nat), (∀ p ∈ (hl, listOf #[.ref a0, .ref a1, .ref a2] k) :: (x, instObj 238 dx) :: (dx, dictOf [⟨PyData.keyHash w.params (Str.ofString "_headers"), .str (Str.ofString "_headers") t, .ref hl⟩] 1) :: (a0, { cls := .type "tuple", data := .seq #[.str n0 t0, .str v0 u0] }) :: (a1, { cls := .type "tuple", data := .seq #[.str n1 t1, .str v1 u1] }) :: (a2, { cls := .type "tuple", data := .seq #[.str n2 t2, .str v2 u2] }) :: news, p.1 ≠ l') → ∀ vs, vs = gaV y [(n0, .str v0 u0), (n1, .str v1 u1), (n2, .str v2 u2)] → Fr h₀ L h' m → News h₀ L h' ((l', LCg.lst vs) :: (hl, listOf #[.ref a0, .ref a1, .ref a2] k) :: (x, instObj 238 dx) :: (dx, dictOf [⟨PyData.keyHash w.params (Str.ofString "_headers"), .str (Str.ofString "_headers") t, .ref hl⟩] 1) :: (a0, { cls := .type "tuple", data := .seq #[.str n0 t0, .str v0 u0] }) :: (a1, { cls := .type "tuple", data := .seq #[.str n1 t1, .str v1 u1] }) :: (a2, { cls := .type "tuple", data := .seq #[.str n2 t2, .str v2 u2] }) :: news) → Q (.ref l') { s with heap := h', toks := tk' }) :
    wpAny (model PP w) (ktrTop dp un gd cn cs L a ccd cl outer) (call (.ref 177) [.ref x, .str y ty]) Q E s := by
  refine gaN_c (es := [⟨a0, n0, t0, v0, u0⟩, ⟨a1, n1, t1, v1, u1⟩, ⟨a2, n2, t2, v2, u2⟩]) (t := t) (k := k) (hl := hl) (dx := dx) B F X N T hk hno hly (show (3 : Nat) ≤ 1000 by decide) ?_ hdp hun ?_
  · intro e he
    simp only [List.mem_cons, List.not_mem_nil, or_false] at he
    rcases he with rfl | rfl | rfl <;> assumption
  · intro l' h' tk' off F' N'
    exact hret l' 0 h' tk' off _ (gaE_gaV y _) F' N'
end
end Mine
end

section
open PySem PySem.W PySem.Spec PySem.Calls PyProof.Rows
set_option Elab.async false
set_option maxRecDepth 100000
set_option maxHeartbeats 0
set_option pp.deepTerms false
set_option pp.maxSteps 2000
namespace Mine
section
variable {w : World} {mean : ExcName → Option Value} {mg mb : SMap} {dp un : Nat} {gd : Option (List Code)} {cn : PySem.Str} {cs : Scope} {a₀ : Addr} {ccd : Value} {cl : List (PySem.Str × Addr)} {outer outer1 : List Env} {base g : Heap} {L L₀ : Addr} {m : SMap} {news : List (Addr × Obj)} {s : Shared} {Q : Flow → Shared → Prop}

theorem off6 {d a1 a2 a3 a4 a5 a6 : Addr} {o1 o2 o3 o4 o5 o6 : Obj} {r : List (Addr × Obj)} (h1 : a1 ≠ d) (h2 : a2 ≠ d) (h3 : a3 ≠ d) (h4 : a4 ≠ d) (h5 : a5 ≠ d) (h6 : a6 ≠ d) (h : ∀ p ∈ r, p.1 ≠ d) : ∀ p ∈ (a1, o1) :: (a2, o2) :: (a3, o3) :: (a4, o4) :: (a5, o5) :: (a6, o6) :: r, p.1 ≠ d := by
  simp only [List.mem_cons, forall_eq_or_imp]; exact ⟨h1, h2, h3, h4, h5, h6, h⟩
theorem off6' {d a1 a2 a3 a4 a5 a6 : Addr} {o1 o2 o3 o4 o5 o6 : Obj} {r : List (Addr × Obj)} (h1 : @Ne Nat a1 d) (h2 : @Ne Nat a2 d) (h3 : @Ne Nat a3 d) (h4 : @Ne Nat a4 d) (h5 : @Ne Nat a5 d) (h6 : @Ne Nat a6 d) (h : ∀ p ∈ r, p.1 ≠ d) : ∀ p ∈ (a1, o1) :: (a2, o2) :: (a3, o3) :: (a4, o4) :: (a5, o5) :: (a6, o6) :: r, p.1 ≠ d := off6 h1 h2 h3 h4 h5 h6 h
theorem segRow {Y : LexA} {ln : Int} {tl : Tok} {pvs lvs rvs : List Value} {pk lk kr k : Nat} {rem : List Int} {row : Int} {tw tr t t0 t1 t2 u0 u1 u2 : Tok} {wd : PySem.Str} {n0 n1 n2 : PySem.Str} {x dx hl a0 a1 a2 rr : Addr} {o1 o2 : Obj} (B : Below (ktrTop dp un gd cn cs L₀ a₀ ccd cl outer) base (envX cn cs L₀ a₀ ccd cl :: outer) g) (X : (hd01.heap_1 w.params).In g) (T : Top VV LL mean mg mb g)
   (N : News g L s.heap ((rr, listOf rvs.toArray kr) :: (L + 1 + 1, o2) :: (L + 1, o1) :: (hl, listOf #[.ref a0, .ref a1, .ref a2] k) :: (x, instObj 238 dx) :: (dx, dictOf [⟨PyData.keyHash w.params (Str.ofString "_headers"), .str (Str.ofString "_headers") t, .ref hl⟩] 1) :: (a0, { cls := .type "tuple", data := .seq #[.str n0 t0, .str (Str.ofString "0") u0] }) :: (a1, { cls := .type "tuple", data := .seq #[.str n1 t1, .str (Str.ofString "1") u1] }) :: (a2, { cls := .type "tuple", data := .seq #[.str n2 t2, .str (Str.ofString "2") u2] }) :: (lexE w Y ln tl pvs pk lvs lk ++ news)))
   (F : Fr g L s.heap (frm [(Str.ofString "table", .ref x), (Str.ofString "word", .str wd tw), (Str.ofString "rights", .ref rr), (Str.ofString "row", .int row tr)] m)) (hC : CodeHd base 248 244) (hY : LexOk Y) (ho1 : ∀ p ∈ news, p.1 ≠ Y.pb) (ho2 : ∀ p ∈ news, p.1 ≠ Y.dx) (ho3 : ∀ p ∈ news, p.1 ≠ Y.lf) (hd1 : o1.data = .cell (some (.ref Y.x))) (hd2 : ∃ vv, o2.data = .cell vv) (hlt : ∀ p ∈ (hl, listOf #[.ref a0, .ref a1, .ref a2] k) :: (x, instObj 238 dx) :: (dx, dictOf [⟨PyData.keyHash w.params (Str.ofString "_headers"), .str (Str.ofString "_headers") t, .ref hl⟩] 1) :: (a0, { cls := .type "tuple", data := .seq #[.str n0 t0, .str (Str.ofString "0") u0] }) :: (a1, { cls := .type "tuple", data := .seq #[.str n1 t1, .str (Str.ofString "1") u1] }) :: (a2, { cls := .type "tuple", data := .seq #[.str n2 t2, .str (Str.ofString "2") u2] }) :: lexE w Y ln tl pvs pk lvs lk, p.1 < L) (hn1 : ∀ p ∈ news, p.1 ≠ L + 1) (hn2 : ∀ p ∈ news, p.1 ≠ L + 1 + 1) (hrr : @LT.lt Nat _ (L + 1 + 1) rr)
   (hwd : wd.length = 3) (hrow : 0 ≤ row ∧ row ≤ 5) (hrow2 : 0 ≤ row.fdiv 2) (hrow3 : row.fdiv 2 < 3) (hrv : rvs.length ≤ 100) (hpv : IntsAre pvs rem) (hrl : rem.length = 6) (hro : ∀ p ∈ news, p.1 ≠ rr)
   (hrg : reNo (patCode w 103) (Txt.lower (Txt.upper (Txt.item wd (row.fdiv 2)))) = true) (hl0 : (Txt.item wd (row.fdiv 2)).length = 1) (hl1 : (Txt.upper (Txt.item wd (row.fdiv 2))).length ≤ 1000) (hl2 : n0.length ≤ 1000) (hl3 : n1.length ≤ 1000) (hl4 : n2.length ≤ 1000)
   (hp1 : hl ≠ Y.pb ∧ hl ≠ Y.dx ∧ hl ≠ Y.lf) (hp2 : x ≠ Y.pb ∧ x ≠ Y.dx ∧ x ≠ Y.lf) (hp3 : dx ≠ Y.pb ∧ dx ≠ Y.dx ∧ dx ≠ Y.lf) (hp4 : a0 ≠ Y.pb ∧ a0 ≠ Y.dx ∧ a0 ≠ Y.lf) (hp5 : a1 ≠ Y.pb ∧ a1 ≠ Y.dx ∧ a1 ≠ Y.lf) (hp6 : a2 ≠ Y.pb ∧ a2 ≠ Y.dx ∧ a2 ≠ Y.lf)
    (hdp : dp + 38 < recursionLimit) (hun : un + 460 < cLine)
    (hret : ∀ (pvs' : List Value) (pk' kr' : Nat) (th' : Tok) (o2' : Obj) (h' : Heap) (tk' : Nat) (m' : SMap), IntsAre pvs' (colF (rowMs n0 n1 n2 wd row) 0 (5 - row) rem).2 → (∃ vv, o2'.data = .cell vv) → Fr g L h' (frm [(Str.ofString "table", .ref x), (Str.ofString "word", .str wd tw), (Str.ofString "rights", .ref rr)] m') →
       News g L h' ((rr, listOf (rvs ++ [Value.int (colF (rowMs n0 n1 n2 wd row) 0 (5 - row) rem).1 th']).toArray kr') :: (L + 1 + 1, o2') :: (L + 1, o1) :: (hl, listOf #[.ref a0, .ref a1, .ref a2] k) :: (x, instObj 238 dx) :: (dx, dictOf [⟨PyData.keyHash w.params (Str.ofString "_headers"), .str (Str.ofString "_headers") t, .ref hl⟩] 1) :: (a0, { cls := .type "tuple", data := .seq #[.str n0 t0, .str (Str.ofString "0") u0] }) :: (a1, { cls := .type "tuple", data := .seq #[.str n1 t1, .str (Str.ofString "1") u1] }) :: (a2, { cls := .type "tuple", data := .seq #[.str n2 t2, .str (Str.ofString "2") u2] }) :: (lexE w Y ln tl pvs' pk' lvs lk ++ news)) → Q .next { s with heap := h', toks := tk' })
     :
    wpAny (model PP w) ((ktrTop dp un gd cn cs L₀ a₀ ccd cl outer).deeper (fnEnvC (hd01.heap_1 w.params) (Str.ofString "_law_braid") 266 L)) (execs (brBody w) (fnEnvC (hd01.heap_1 w.params) (Str.ofString "_law_braid") 266 L)) (EndQ Q) (fun _ _ => False) s := by
  conv => arg 3; arg 1; whnf
  simp only [fnEnvC]
  generalize hsc : fnScope (hd01.heap_1 w.params) 266 = sc
  conv at hsc => lhs; whnf
  subst hsc
  generalize hsc : fnCode (hd01.heap_1 w.params) 266 = sc
  conv at hsc => lhs; whnf
  subst hsc
  obtain ⟨vv, hd2⟩ := hd2
  have b7 : ∀ p ∈ lexE w Y ln tl pvs pk lvs lk, p.1 < L := fun p hp => hlt p (.tail _ (.tail _ (.tail _ (.tail _ (.tail _ (.tail _ hp))))))
  simp only [List.mem_cons, forall_eq_or_imp] at hlt
  obtain ⟨b1, b2, b3, b4, b5, b6, _⟩ := hlt
  have b8 : ∀ p ∈ lexE w Y ln tl pvs pk lvs lk ++ news, p.1 ≠ L + 1 + 1 := all_app (fun p hp => Nat.ne_of_lt (Nat.lt_of_lt_of_le (b7 p hp) (by show @LE.le Nat _ L (L + 1 + 1); omega))) hn2
  have b9 : ∀ p ∈ lexE w Y ln tl pvs pk lvs lk ++ news, p.1 ≠ L + 1 := all_app (fun p hp => Nat.ne_of_lt (Nat.lt_of_lt_of_le (b7 p hp) (by show @LE.le Nat _ L (L + 1); omega))) hn1
  have c1 : @LT.lt Nat _ hl L := b1
  have c2 : @LT.lt Nat _ x L := b2
  have c3 : @LT.lt Nat _ dx L := b3
  have c4 : @LT.lt Nat _ a0 L := b4
  have c5 : @LT.lt Nat _ a1 L := b5
  have c6 : @LT.lt Nat _ a2 L := b6
  clear b1 b2 b3 b4 b5 b6
  have b10 : ∀ p ∈ lexE w Y ln tl pvs pk lvs lk ++ news, p.1 ≠ rr := all_app (fun p hp => Nat.ne_of_lt (Nat.lt_trans (b7 p hp) (by show @LT.lt Nat _ L rr; omega))) hro
  (repeat' ((fail_if_success (with_reducible first | show LCg.CompEnd _ _ _ _ _ _ _ _ _ _ _ _ _ _ | show LCg.CompSrc _ _ _ _ _ _ _ _ _ _ _ _ _ _ | show PEnd _ _ _ _ _ _ _ _ | show SrcPT _ _ _ _ _ _ _ _ _ _ _ _ _ _ _ _ _ | show wpAny _ _ (exec (Stmt.Assign [Expr.Name (Str.ofString "meets") _] _ _) _) _ _ _ | show wpAny _ _ (execs (Stmt.Assign [Expr.Name (Str.ofString "hand") _] _ _ :: _) _) _ _ _ | show wpAny _ _ (exec (Stmt.For _ _ _ _ _) _) _ _ _ | show wpAny _ _ (call (Value.ref 202) _) _ _ _ | show wpAny _ _ (call (Value.ref 177) _) _ _ _ | show wpAny _ _ (call (Value.ref 87) _) _ _ _ | show wpAny _ _ (call (Value.ref 80) _) _ _ _ | show EndQ _ _ _ | show Exit1 _ _ _ _ _ _ _ _ _ | show Turn1 _ _ _ _ _ _ _ _ _ | show TurnN _ _ _ _ _ _ _ _ _ | show wpAny _ _ (pyIter _) _ _ _ | show wpAny _ _ (exec (Stmt.While _ _ _ _) _) _ _ _)); first | (k_unfold; (try dsimp only)) | (k_end; wrow_close) | walk1 | (dsimp only; walk1) | (leave1; walk_say "STEP leave1"; try dsimp only) | fail "no step"))
  · have hro0 : row.fmod 2 = 0 := by first | assumption | (simp_all; done)
    (with_reducible rename Fr _ _ _ _ => kF)
    refine' Assign_PT (by exact rfl) kF (by rfl) (by with_unfolding_all rfl) (by with_unfolding_all rfl) (by decide) (by rfl) (by decide) (by rfl) (by rfl) (by decide) (by rfl) (by rfl) ?_
    (repeat' ((fail_if_success (with_reducible first | show LCg.CompEnd _ _ _ _ _ _ _ _ _ _ _ _ _ _ | show LCg.CompSrc _ _ _ _ _ _ _ _ _ _ _ _ _ _ | show PEnd _ _ _ _ _ _ _ _ | show SrcPT _ _ _ _ _ _ _ _ _ _ _ _ _ _ _ _ _ | show wpAny _ _ (exec (Stmt.Assign [Expr.Name (Str.ofString "meets") _] _ _) _) _ _ _ | show wpAny _ _ (execs (Stmt.Assign [Expr.Name (Str.ofString "hand") _] _ _ :: _) _) _ _ _ | show wpAny _ _ (exec (Stmt.For _ _ _ _ _) _) _ _ _ | show wpAny _ _ (call (Value.ref 202) _) _ _ _ | show wpAny _ _ (call (Value.ref 177) _) _ _ _ | show wpAny _ _ (call (Value.ref 87) _) _ _ _ | show wpAny _ _ (call (Value.ref 80) _) _ _ _ | show EndQ _ _ _ | show Exit1 _ _ _ _ _ _ _ _ _ | show Turn1 _ _ _ _ _ _ _ _ _ | show TurnN _ _ _ _ _ _ _ _ _ | show wpAny _ _ (pyIter _) _ _ _ | show wpAny _ _ (exec (Stmt.While _ _ _ _) _) _ _ _)); first | (k_unfold; (try dsimp only)) | (k_end; wrow_close) | walk1 | (dsimp only; walk1) | (leave1; walk_say "STEP leave1"; try dsimp only) | fail "no step"))
    (with_reducible rename Fr _ _ _ _ => kF)
    (with_reducible rename News _ _ _ _ => kN)
    refine' items_c ?B kF ?X (n_ga kN) ?T ?hk ?hd ?hu ?_
    case B => k_asm
    case X => k_asm
    case T => k_asm
    case hk => exact rfl
    case hd => ktr_room
    case hu => ktr_units
    clear kF kN
    intro l8 k8 h8 tk8 al8 F8 N8
    replace N8 := n_gaB N8
    refine ⟨l8, [.ref a0, .ref a1, .ref a2], k8, _, _, _, rfl, rfl, F8, N8, List.mem_cons_self .., by simp, ?_⟩
    clear F8 N8
    refine PT_ind (fun i ys => IntsAre ys (pk3 (n0 == (Txt.item wd (row.fdiv 2))) (n1 == (Txt.item wd (row.fdiv 2))) (n2 == (Txt.item wd (row.fdiv 2))) 0 2 4 i)) _ ?turn ?fin _ 0 [] (Nat.zero_le _) rfl .nil
    case turn =>
      intro i v ys hv hJ
      rcases i with _ | _ | _ | i
      · obtain rfl : Value.ref a0 = v := Option.some.inj hv
        refine ⟨_, _, _, _, rfl, by repeat (first | exact List.Mem.head _ | apply List.Mem.tail), ?_⟩
        intro I9 oI9 C9 oC9 D9 m9 h9 tk9 E9 hn9 hx9 hy9 F9 N9
        (repeat' ((fail_if_success (with_reducible first | show LCg.CompEnd _ _ _ _ _ _ _ _ _ _ _ _ _ _ | show LCg.CompSrc _ _ _ _ _ _ _ _ _ _ _ _ _ _ | show PEnd _ _ _ _ _ _ _ _ | show SrcPT _ _ _ _ _ _ _ _ _ _ _ _ _ _ _ _ _ | show wpAny _ _ (exec (Stmt.Assign [Expr.Name (Str.ofString "meets") _] _ _) _) _ _ _ | show wpAny _ _ (execs (Stmt.Assign [Expr.Name (Str.ofString "hand") _] _ _ :: _) _) _ _ _ | show wpAny _ _ (exec (Stmt.For _ _ _ _ _) _) _ _ _ | show wpAny _ _ (call (Value.ref 202) _) _ _ _ | show wpAny _ _ (call (Value.ref 177) _) _ _ _ | show wpAny _ _ (call (Value.ref 87) _) _ _ _ | show wpAny _ _ (call (Value.ref 80) _) _ _ _ | show EndQ _ _ _ | show Exit1 _ _ _ _ _ _ _ _ _ | show Turn1 _ _ _ _ _ _ _ _ _ | show TurnN _ _ _ _ _ _ _ _ _ | show wpAny _ _ (pyIter _) _ _ _ | show wpAny _ _ (exec (Stmt.While _ _ _ _) _) _ _ _)); first | (k_unfold; (try dsimp only)) | (k_end; wrow_close) | walk1 | (dsimp only; walk1) | (leave1; walk_say "STEP leave1"; try dsimp only) | fail "no step"))
        all_goals (
          (with_reducible rename Fr _ _ _ _ => kF)
          (with_reducible rename News _ _ _ _ => kN)
          refine ⟨_, _, rfl, kF, kN, ?_⟩
          dsimp only
          first
          | (rw [pk3_t0 (by assumption)]; exact ints_snoc hJ _ _)
          | (rw [pk3_f0 (by assumption)]; exact hJ))
      · obtain rfl : Value.ref a1 = v := Option.some.inj hv
        refine ⟨_, _, _, _, rfl, by repeat (first | exact List.Mem.head _ | apply List.Mem.tail), ?_⟩
        intro I9 oI9 C9 oC9 D9 m9 h9 tk9 E9 hn9 hx9 hy9 F9 N9
        (repeat' ((fail_if_success (with_reducible first | show LCg.CompEnd _ _ _ _ _ _ _ _ _ _ _ _ _ _ | show LCg.CompSrc _ _ _ _ _ _ _ _ _ _ _ _ _ _ | show PEnd _ _ _ _ _ _ _ _ | show SrcPT _ _ _ _ _ _ _ _ _ _ _ _ _ _ _ _ _ | show wpAny _ _ (exec (Stmt.Assign [Expr.Name (Str.ofString "meets") _] _ _) _) _ _ _ | show wpAny _ _ (execs (Stmt.Assign [Expr.Name (Str.ofString "hand") _] _ _ :: _) _) _ _ _ | show wpAny _ _ (exec (Stmt.For _ _ _ _ _) _) _ _ _ | show wpAny _ _ (call (Value.ref 202) _) _ _ _ | show wpAny _ _ (call (Value.ref 177) _) _ _ _ | show wpAny _ _ (call (Value.ref 87) _) _ _ _ | show wpAny _ _ (call (Value.ref 80) _) _ _ _ | show EndQ _ _ _ | show Exit1 _ _ _ _ _ _ _ _ _ | show Turn1 _ _ _ _ _ _ _ _ _ | show TurnN _ _ _ _ _ _ _ _ _ | show wpAny _ _ (pyIter _) _ _ _ | show wpAny _ _ (exec (Stmt.While _ _ _ _) _) _ _ _)); first | (k_unfold; (try dsimp only)) | (k_end; wrow_close) | walk1 | (dsimp only; walk1) | (leave1; walk_say "STEP leave1"; try dsimp only) | fail "no step"))
        all_goals (
          (with_reducible rename Fr _ _ _ _ => kF)
          (with_reducible rename News _ _ _ _ => kN)
          refine ⟨_, _, rfl, kF, kN, ?_⟩
          dsimp only
          first
          | (rw [pk3_t1 (by assumption)]; exact ints_snoc hJ _ _)
          | (rw [pk3_f1 (by assumption)]; exact hJ))
      · obtain rfl : Value.ref a2 = v := Option.some.inj hv
        refine ⟨_, _, _, _, rfl, by repeat (first | exact List.Mem.head _ | apply List.Mem.tail), ?_⟩
        intro I9 oI9 C9 oC9 D9 m9 h9 tk9 E9 hn9 hx9 hy9 F9 N9
        (repeat' ((fail_if_success (with_reducible first | show LCg.CompEnd _ _ _ _ _ _ _ _ _ _ _ _ _ _ | show LCg.CompSrc _ _ _ _ _ _ _ _ _ _ _ _ _ _ | show PEnd _ _ _ _ _ _ _ _ | show SrcPT _ _ _ _ _ _ _ _ _ _ _ _ _ _ _ _ _ | show wpAny _ _ (exec (Stmt.Assign [Expr.Name (Str.ofString "meets") _] _ _) _) _ _ _ | show wpAny _ _ (execs (Stmt.Assign [Expr.Name (Str.ofString "hand") _] _ _ :: _) _) _ _ _ | show wpAny _ _ (exec (Stmt.For _ _ _ _ _) _) _ _ _ | show wpAny _ _ (call (Value.ref 202) _) _ _ _ | show wpAny _ _ (call (Value.ref 177) _) _ _ _ | show wpAny _ _ (call (Value.ref 87) _) _ _ _ | show wpAny _ _ (call (Value.ref 80) _) _ _ _ | show EndQ _ _ _ | show Exit1 _ _ _ _ _ _ _ _ _ | show Turn1 _ _ _ _ _ _ _ _ _ | show TurnN _ _ _ _ _ _ _ _ _ | show wpAny _ _ (pyIter _) _ _ _ | show wpAny _ _ (exec (Stmt.While _ _ _ _) _) _ _ _)); first | (k_unfold; (try dsimp only)) | (k_end; wrow_close) | walk1 | (dsimp only; walk1) | (leave1; walk_say "STEP leave1"; try dsimp only) | fail "no step"))
        all_goals (
          (with_reducible rename Fr _ _ _ _ => kF)
          (with_reducible rename News _ _ _ _ => kN)
          refine ⟨_, _, rfl, kF, kN, ?_⟩
          dsimp only
          first
          | (rw [pk3_t2 (by assumption)]; exact ints_snoc hJ _ _)
          | (rw [pk3_f2 (by assumption)]; exact hJ))
      · cases hv
    case fin =>
      intro ys hJ D9 h9 tk9 F9 N9 lw9
      (repeat' ((fail_if_success (with_reducible first | show LCg.CompEnd _ _ _ _ _ _ _ _ _ _ _ _ _ _ | show LCg.CompSrc _ _ _ _ _ _ _ _ _ _ _ _ _ _ | show PEnd _ _ _ _ _ _ _ _ | show SrcPT _ _ _ _ _ _ _ _ _ _ _ _ _ _ _ _ _ | show wpAny _ _ (exec (Stmt.Assign [Expr.Name (Str.ofString "meets") _] _ _) _) _ _ _ | show wpAny _ _ (execs (Stmt.Assign [Expr.Name (Str.ofString "hand") _] _ _ :: _) _) _ _ _ | show wpAny _ _ (exec (Stmt.For _ _ _ _ _) _) _ _ _ | show wpAny _ _ (call (Value.ref 202) _) _ _ _ | show wpAny _ _ (call (Value.ref 177) _) _ _ _ | show wpAny _ _ (call (Value.ref 87) _) _ _ _ | show wpAny _ _ (call (Value.ref 80) _) _ _ _ | show EndQ _ _ _ | show Exit1 _ _ _ _ _ _ _ _ _ | show Turn1 _ _ _ _ _ _ _ _ _ | show TurnN _ _ _ _ _ _ _ _ _ | show wpAny _ _ (pyIter _) _ _ _ | show wpAny _ _ (exec (Stmt.While _ _ _ _) _) _ _ _)); first | (k_unfold; (try dsimp only)) | (k_end; wrow_close) | walk1 | (dsimp only; walk1) | (leave1; walk_say "STEP leave1"; try dsimp only) | fail "no step"))
      dsimp only
      have lwR : @LT.lt Nat _ rr D9 := lw9 _ (List.mem_cons_of_mem _ (List.mem_cons_self ..))
      have lwM : ∀ p ∈ lexE w Y ln tl pvs pk lvs lk ++ news, D9 ≠ p.1 := fun p hp => Nat.ne_of_gt (lw9 p (List.mem_cons_of_mem _ (List.mem_cons_of_mem _ (List.mem_cons_of_mem _ (List.mem_cons_of_mem _ (List.mem_cons_of_mem _ (List.mem_cons_of_mem _ (List.mem_cons_of_mem _ (List.mem_cons_of_mem _ (List.mem_cons_of_mem _ (List.mem_cons_of_mem _ hp)))))))))))
      (with_reducible rename Fr _ _ _ _ => kF)
      (with_reducible rename News _ _ _ _ => kN)
      have kN2 := n_rest (l := lexE w Y ln tl pvs pk lvs lk) (r := news) kN
      refine segRest (Y := Y) (o1 := o1) (rem := rem) (mvs := ys) B X T kN2 (fr_frm [(Str.ofString "meets", .ref _), (Str.ofString "table", .ref x), (Str.ofString "word", .str wd tw), (Str.ofString "rights", .ref rr), (Str.ofString "row", .int row tr)] kF ⟨rfl, rfl, rfl, rfl, rfl, trivial⟩) hC hY (off6 hp1.1 hp2.1 hp3.1 hp4.1 hp5.1 hp6.1 ho1) (off6 hp1.2.1 hp2.2.1 hp3.2.1 hp4.2.1 hp5.2.1 hp6.2.1 ho2) (off6 hp1.2.2 hp2.2.2 hp3.2.2 hp4.2.2 hp5.2.2 hp6.2.2 ho3) hd1
        (fun p hp => b9 p (List.mem_append_left _ hp)) ?m1 ?m2 ?m3 hJ (pk3_len _ _ _ _ _ _) hpv hrl (fun p hp => b8 p (List.mem_append_left _ hp)) ?rr ?r1 ?r2 ?r3 ?r4 ⟨hrow.1, by omega⟩ hrv (by omega) (by omega) ?_
      case m1 => exact lwM _ (List.mem_append_left _ (List.mem_cons_self ..))
      case m2 => exact lwM _ (List.mem_append_left _ (List.mem_cons_of_mem _ (List.mem_cons_of_mem _ (List.mem_cons_self ..))))
      case m3 => exact lwM (Y.lf, listOf lvs.toArray lk) (List.mem_append_left _ (by repeat (first | exact List.Mem.head _ | apply List.Mem.tail)))
      case rr => exact fun p hp => b10 p (List.mem_append_left _ hp)
      case r1 => omega
      case r2 => omega
      case r3 => exact Nat.ne_of_gt lwR
      case r4 => exact off6' (by omega) (by omega) (by omega) (by omega) (by omega) (by omega) hro
      intro pvs' pk' kr' th' h' tk' m'' hp' F' N'
      have e9 : rowMs n0 n1 n2 wd row = pk3 (n0 == (Txt.item wd (row.fdiv 2))) (n1 == (Txt.item wd (row.fdiv 2))) (n2 == (Txt.item wd (row.fdiv 2))) 0 2 4 3 := by unfold rowMs; rw [if_pos hro0]; rfl
      rw [e9] at hret
      exact hret pvs' pk' kr' th' _ h' tk' _ hp' ⟨_, by assumption⟩ (fr_frm [(Str.ofString "table", .ref x), (Str.ofString "word", .str wd tw), (Str.ofString "rights", .ref rr)] F' ⟨rfl, rfl, rfl, trivial⟩) (n_restB N')
  · k_here
    lcg_calm
    k_dflt (refine LCg.Assign_ListComp_U (F₀ := by k_asm) (by rfl) (by with_unfolding_all rfl) (by rfl) (by decide) (by rfl) (by decide) (by rfl) (by rfl) (by rfl) ?_)
    (repeat' ((fail_if_success (with_reducible first | show LCg.CompEnd _ _ _ _ _ _ _ _ _ _ _ _ _ _ | show LCg.CompSrc _ _ _ _ _ _ _ _ _ _ _ _ _ _ | show PEnd _ _ _ _ _ _ _ _ | show SrcPT _ _ _ _ _ _ _ _ _ _ _ _ _ _ _ _ _ | show wpAny _ _ (exec (Stmt.Assign [Expr.Name (Str.ofString "meets") _] _ _) _) _ _ _ | show wpAny _ _ (execs (Stmt.Assign [Expr.Name (Str.ofString "hand") _] _ _ :: _) _) _ _ _ | show wpAny _ _ (exec (Stmt.For _ _ _ _ _) _) _ _ _ | show wpAny _ _ (call (Value.ref 202) _) _ _ _ | show wpAny _ _ (call (Value.ref 177) _) _ _ _ | show wpAny _ _ (call (Value.ref 87) _) _ _ _ | show wpAny _ _ (call (Value.ref 80) _) _ _ _ | show EndQ _ _ _ | show Exit1 _ _ _ _ _ _ _ _ _ | show Turn1 _ _ _ _ _ _ _ _ _ | show TurnN _ _ _ _ _ _ _ _ _ | show wpAny _ _ (pyIter _) _ _ _ | show wpAny _ _ (exec (Stmt.While _ _ _ _) _) _ _ _)); first | (k_unfold; (try dsimp only)) | (k_end; wrow_close) | walk1 | (dsimp only; walk1) | (leave1; walk_say "STEP leave1"; try dsimp only) | fail "no step"))
    (with_reducible rename Fr _ _ _ _ => kF)
    (with_reducible rename News _ _ _ _ => kN)
    refine' ga_c ?B kF ?X (n_ga kN) ?T ?hk ?hno ?l0 ?l1 ?l2 ?l3 ?hd ?hu ?_
    case B => k_asm
    case X => k_asm
    case T => k_asm
    case hk => exact rfl
    case hno => exact hrg
    case l0 => exact hl1
    case l1 => exact hl2
    case l2 => exact hl3
    case l3 => exact hl4
    case hd => ktr_room
    case hu => ktr_units
    clear kF kN
    intro l8 k8 h8 tk8 al8 vs8 hv8 F8 N8
    replace N8 := n_gaB N8
    have z8 := gaV_len (Txt.upper (Txt.item wd (row.fdiv 2))) n0 n1 n2 (.str (Str.ofString "0") u0) (.str (Str.ofString "1") u1) (.str (Str.ofString "2") u2)
    have p8 := pk3_len (Txt.lower n0 == Txt.lower (Txt.upper (Txt.item wd (row.fdiv 2)))) (Txt.lower n1 == Txt.lower (Txt.upper (Txt.item wd (row.fdiv 2)))) (Txt.lower n2 == Txt.lower (Txt.upper (Txt.item wd (row.fdiv 2)))) 1 3 5
    rw [← hv8] at z8
    refine' LCg.CompSrc.ledger ?hh ?F ?N ?mm ?sz ?_
    case F => exact F8
    case N => exact N8
    case hh => exact rfl
    case mm => exact List.mem_cons_self ..
    case sz => (show _ ≤ sizeLine; rw [List.size_toArray, sizeLine_eq]; omega)
    intro g9
    refine comp_ind (J := fun i ys news' => IntsAre ys ((pk3 (Txt.lower n0 == Txt.lower (Txt.upper (Txt.item wd (row.fdiv 2)))) (Txt.lower n1 == Txt.lower (Txt.upper (Txt.item wd (row.fdiv 2)))) (Txt.lower n2 == Txt.lower (Txt.upper (Txt.item wd (row.fdiv 2)))) 1 3 5 3).take i) ∧ news' = _) _ ?turn ?fin _ 0 [] _ (Nat.zero_add _) ⟨.nil, rfl⟩
    case turn =>
      clear F8 N8
      rintro i ys news' hi ⟨hJ, rfl⟩ v I oI C oC D m₂ h9 tk9 E' hP hns hx F9 N9 off9 ne9
      have hP2 : vs8[i]? = some v := by simpa using hP
      rw [hv8] at hP2
      obtain ⟨u9, hd9⟩ := dig3 hP2
      clear hP hP2
      rcases hd9 with ⟨rfl, hm9⟩ | ⟨rfl, hm9⟩ | ⟨rfl, hm9⟩
      all_goals (
        (repeat' ((fail_if_success (with_reducible first | show LCg.CompEnd _ _ _ _ _ _ _ _ _ _ _ _ _ _ | show LCg.CompSrc _ _ _ _ _ _ _ _ _ _ _ _ _ _ | show PEnd _ _ _ _ _ _ _ _ | show SrcPT _ _ _ _ _ _ _ _ _ _ _ _ _ _ _ _ _ | show wpAny _ _ (exec (Stmt.Assign [Expr.Name (Str.ofString "meets") _] _ _) _) _ _ _ | show wpAny _ _ (execs (Stmt.Assign [Expr.Name (Str.ofString "hand") _] _ _ :: _) _) _ _ _ | show wpAny _ _ (exec (Stmt.For _ _ _ _ _) _) _ _ _ | show wpAny _ _ (call (Value.ref 202) _) _ _ _ | show wpAny _ _ (call (Value.ref 177) _) _ _ _ | show wpAny _ _ (call (Value.ref 87) _) _ _ _ | show wpAny _ _ (call (Value.ref 80) _) _ _ _ | show EndQ _ _ _ | show Exit1 _ _ _ _ _ _ _ _ _ | show Turn1 _ _ _ _ _ _ _ _ _ | show TurnN _ _ _ _ _ _ _ _ _ | show wpAny _ _ (pyIter _) _ _ _ | show wpAny _ _ (exec (Stmt.While _ _ _ _) _) _ _ _)); first | (k_unfold; (try dsimp only)) | (k_end; wrow_close) | walk1 | (dsimp only; walk1) | (leave1; walk_say "STEP leave1"; try dsimp only) | fail "no step"))
        refine LCg.CompEnd.intro F9 N9 _ (fun _ h => h) off9 (.inr ⟨_, .head _, rfl, _, rfl⟩) ⟨?_, rfl⟩
        rw [take_snoc hm9]
        exact ints_snoc hJ _ _)
    case fin =>
      rintro ys news' ⟨hJ, rfl⟩
      rw [show List.take vs8.toArray.size (pk3 (Txt.lower n0 == Txt.lower (Txt.upper (Txt.item wd (row.fdiv 2)))) (Txt.lower n1 == Txt.lower (Txt.upper (Txt.item wd (row.fdiv 2)))) (Txt.lower n2 == Txt.lower (Txt.upper (Txt.item wd (row.fdiv 2)))) 1 3 5 3) = _ from by rw [List.size_toArray, z8, List.take_length]] at hJ
      clear F8 N8
      (repeat' ((fail_if_success (with_reducible first | show LCg.CompEnd _ _ _ _ _ _ _ _ _ _ _ _ _ _ | show LCg.CompSrc _ _ _ _ _ _ _ _ _ _ _ _ _ _ | show PEnd _ _ _ _ _ _ _ _ | show SrcPT _ _ _ _ _ _ _ _ _ _ _ _ _ _ _ _ _ | show wpAny _ _ (exec (Stmt.Assign [Expr.Name (Str.ofString "meets") _] _ _) _) _ _ _ | show wpAny _ _ (execs (Stmt.Assign [Expr.Name (Str.ofString "hand") _] _ _ :: _) _) _ _ _ | show wpAny _ _ (exec (Stmt.For _ _ _ _ _) _) _ _ _ | show wpAny _ _ (call (Value.ref 202) _) _ _ _ | show wpAny _ _ (call (Value.ref 177) _) _ _ _ | show wpAny _ _ (call (Value.ref 87) _) _ _ _ | show wpAny _ _ (call (Value.ref 80) _) _ _ _ | show EndQ _ _ _ | show Exit1 _ _ _ _ _ _ _ _ _ | show Turn1 _ _ _ _ _ _ _ _ _ | show TurnN _ _ _ _ _ _ _ _ _ | show wpAny _ _ (pyIter _) _ _ _ | show wpAny _ _ (exec (Stmt.While _ _ _ _) _) _ _ _)); first | (k_unfold; (try dsimp only)) | (k_end; wrow_close) | walk1 | (dsimp only; walk1) | (leave1; walk_say "STEP leave1"; try dsimp only) | fail "no step"))
      dsimp only
      (rename @Ne Nat _ _ ∧ _ => o9)
      obtain ⟨_, q2, _, _, _, _, _, _, _, _, q11, _, q13, _, _, _, _, _, q19, _⟩ := o9
      (with_reducible rename Fr _ _ _ _ => kF)
      (with_reducible rename News _ _ _ _ => kN)
      have kN2 := n_rest (l := lexE w Y ln tl pvs pk lvs lk) (r := news) kN
      refine segRest (Y := Y) (o1 := o1) (rem := rem) (mvs := ys) B X T kN2 (fr_frm [(Str.ofString "meets", .ref _), (Str.ofString "table", .ref x), (Str.ofString "word", .str wd tw), (Str.ofString "rights", .ref rr), (Str.ofString "row", .int row tr)] kF ⟨rfl, rfl, rfl, rfl, rfl, trivial⟩) hC hY (off6 hp1.1 hp2.1 hp3.1 hp4.1 hp5.1 hp6.1 ho1) (off6 hp1.2.1 hp2.2.1 hp3.2.1 hp4.2.1 hp5.2.1 hp6.2.1 ho2) (off6 hp1.2.2 hp2.2.2 hp3.2.2 hp4.2.2 hp5.2.2 hp6.2.2 ho3) hd1
        (fun p hp => b9 p (List.mem_append_left _ hp)) ?m1 ?m2 ?m3 hJ (pk3_len _ _ _ _ _ _) hpv hrl (fun p hp => b8 p (List.mem_append_left _ hp)) ?rr ?r1 ?r2 ?r3 ?r4 ⟨hrow.1, by omega⟩ hrv (by omega) (by omega) ?_
      case m1 => exact Ne.symm q11
      case m2 => exact Ne.symm q13
      case m3 => exact Ne.symm q19
      case rr => exact fun p hp => b10 p (List.mem_append_left _ hp)
      case r1 => omega
      case r2 => omega
      case r3 => exact Ne.symm q2
      case r4 => exact off6' (by omega) (by omega) (by omega) (by omega) (by omega) (by omega) hro
      intro pvs' pk' kr' th' h' tk' m'' hp' F' N'
      have e9 : rowMs n0 n1 n2 wd row = pk3 (Txt.lower n0 == Txt.lower (Txt.upper (Txt.item wd (row.fdiv 2)))) (Txt.lower n1 == Txt.lower (Txt.upper (Txt.item wd (row.fdiv 2)))) (Txt.lower n2 == Txt.lower (Txt.upper (Txt.item wd (row.fdiv 2)))) 1 3 5 3 := by unfold rowMs; rw [if_neg (by assumption)]; rfl
      rw [e9] at hret
      exact hret pvs' pk' kr' th' _ h' tk' _ hp' ⟨_, by assumption⟩ (fr_frm [(Str.ofString "table", .ref x), (Str.ofString "word", .str wd tw), (Str.ofString "rights", .ref rr)] F' ⟨rfl, rfl, rfl, trivial⟩) (n_restB N')
end
end Mine
end

section
open PySem PySem.W PySem.Spec PySem.Calls PyProof.Rows
set_option Elab.async false
set_option maxRecDepth 100000
set_option maxHeartbeats 0
set_option pp.deepTerms false
set_option pp.maxSteps 2000
namespace Mine
section
variable {w : World} {mean : ExcName → Option Value} {mg mb : SMap} {dp un : Nat} {gd : Option (List Code)} {cn : PySem.Str} {cs : Scope} {a₀ : Addr} {ccd : Value} {cl : List (PySem.Str × Addr)} {outer outer1 : List Env} {base g : Heap} {L L₀ : Addr} {m : SMap} {news : List (Addr × Obj)} {s : Shared} {Q : Flow → Shared → Prop}

theorem br_c {L a : Addr} {h₀ : Heap} {A₀ : Around} {Q E : Value → Shared → Prop} {x dx hl a0 a1 a2 : Addr} {t t0 t1 t2 u0 u1 u2 : Tok} {n0 n1 n2 wd : PySem.Str} {k : Nat} {Y : LexA} {ln : Int} {tl tw : Tok} {lvs : List Value} {pk lk : Nat}
    (B : Below A₀ base outer h₀) (F : Fr h₀ L s.heap m) (X : (hd01.heap_1 w.params).In h₀) (N : News h₀ L s.heap ((hl, listOf #[.ref a0, .ref a1, .ref a2] k) :: (x, instObj 238 dx) :: (dx, dictOf [⟨PyData.keyHash w.params (Str.ofString "_headers"), .str (Str.ofString "_headers") t, .ref hl⟩] 1) :: (a0, { cls := .type "tuple", data := .seq #[.str n0 t0, .str (Str.ofString "0") u0] }) :: (a1, { cls := .type "tuple", data := .seq #[.str n1 t1, .str (Str.ofString "1") u1] }) :: (a2, { cls := .type "tuple", data := .seq #[.str n2 t2, .str (Str.ofString "2") u2] }) :: (lexE w Y ln tl [] pk lvs lk ++ news))) (T : Top VV LL mean mg mb h₀) (hk : cs.kind = .function)
   (hC : CodeHd base 248 244) (hY : LexOk Y) (ho1 : ∀ p ∈ news, p.1 ≠ Y.pb) (ho2 : ∀ p ∈ news, p.1 ≠ Y.dx) (ho3 : ∀ p ∈ news, p.1 ≠ Y.lf)(hwd : wd.length = 3) (hdp : dp + 60 < recursionLimit) (hun : un + 860 < cLine) (hp1 : hl ≠ Y.pb ∧ hl ≠ Y.dx ∧ hl ≠ Y.lf) (hp2 : x ≠ Y.pb ∧ x ≠ Y.dx ∧ x ≠ Y.lf) (hp3 : dx ≠ Y.pb ∧ dx ≠ Y.dx ∧ dx ≠ Y.lf) (hp4 : a0 ≠ Y.pb ∧ a0 ≠ Y.dx ∧ a0 ≠ Y.lf) (hp5 : a1 ≠ Y.pb ∧ a1 ≠ Y.dx ∧ a1 ≠ Y.lf) (hp6 : a2 ≠ Y.pb ∧ a2 ≠ Y.dx ∧ a2 ≠ Y.lf)
   (hrg : ∀ i : Nat, i < 3 → reNo (patCode w 103) (Txt.lower (Txt.upper (Txt.item wd i))) = true) (hl0 : ∀ i : Nat, i < 3 → (Txt.item wd i).length = 1) (hl1 : ∀ i : Nat, i < 3 → (Txt.upper (Txt.item wd i)).length ≤ 1000) (hl2 : n0.length ≤ 1000) (hl3 : n1.length ≤ 1000) (hl4 : n2.length ≤ 1000) {xs : List PySem.Str} (hS : StrsAre lvs xs)
    (hret : ∀ (l' : Addr) (vs : List Value) (k' pk' : Nat) (h' : Heap) (tk' : Nat), l' ≠ Y.pb → l' ≠ Y.dx → l' ≠ Y.lf → IntsAre vs (endsF n0 n1 n2 wd) → Fr h₀ L h' m → News h₀ L h' ((l', listOf vs.toArray k') :: (hl, listOf #[.ref a0, .ref a1, .ref a2] k) :: (x, instObj 238 dx) :: (dx, dictOf [⟨PyData.keyHash w.params (Str.ofString "_headers"), .str (Str.ofString "_headers") t, .ref hl⟩] 1) :: (a0, { cls := .type "tuple", data := .seq #[.str n0 t0, .str (Str.ofString "0") u0] }) :: (a1, { cls := .type "tuple", data := .seq #[.str n1 t1, .str (Str.ofString "1") u1] }) :: (a2, { cls := .type "tuple", data := .seq #[.str n2 t2, .str (Str.ofString "2") u2] }) :: (lexE w Y ln tl [] pk' lvs lk ++ news)) → Q (.ref l') { s with heap := h', toks := tk' }) :
    wpAny (model PP w) (ktrTop dp un gd cn cs L a ccd cl outer) (call (.ref 266) [.ref Y.x, .ref x, .str wd tw]) Q E s := by
  refine wpAny_noRaise ?_
  refine wpAny_call ?_
  k_dflt (walk_at "ENTERC")
  refine wpAny_noRaise ?_
  (repeat' ((fail_if_success (with_reducible first | show NilAt _ _ _ _ _ _ _ _ _ | show LCg.CompEnd _ _ _ _ _ _ _ _ _ _ _ _ _ _ | show LCg.CompSrc _ _ _ _ _ _ _ _ _ _ _ _ _ _ | show wpAny _ _ (call (Value.ref 202) _) _ _ _ | show wpAny _ _ (call (Value.ref 177) _) _ _ _ | show wpAny _ _ (call (Value.ref 87) _) _ _ _ | show wpAny _ _ (call (Value.ref 80) _) _ _ _ | show EndQ _ _ _ | show Exit1 _ _ _ _ _ _ _ _ _ | show Turn1 _ _ _ _ _ _ _ _ _ | show TurnN _ _ _ _ _ _ _ _ _ | show wpAny _ _ (pyIter _) _ _ _ | show wpAny _ _ (exec (Stmt.While _ _ _ _) _) _ _ _)); first | (k_unfold; (try dsimp only)) | (k_end; wrow_close) | walk1 | (dsimp only; walk1) | (leave1; walk_say "STEP leave1"; try dsimp only) | fail "no step"))
  rename_i g3 L4 h3 tk3 FG3 F3 B3 X3 T3 l13 o4 o3 hd3 hd4 N3 h4 tk4 t4 u4 v4 rg4 F4 N4 up4
  have hq1 : o3.data = .cell (some (.ref Y.x)) := by first | exact hd3 | exact hd4
  have hq2 : o4.data = .cell none := by first | exact hd3 | exact hd4
  clear hd3 hd4 F3 N3 up4
  obtain ⟨c1, c2, c3, c4, c5, c6, c7⟩ := l13
  have d1 : @LT.lt Nat _ hl L4 := c1
  have d2 : @LT.lt Nat _ x L4 := c2
  have d3 : @LT.lt Nat _ dx L4 := c3
  have d4 : @LT.lt Nat _ a0 L4 := c4
  have d5 : @LT.lt Nat _ a1 L4 := c5
  have d6 : @LT.lt Nat _ a2 L4 := c6
  have hlex : ∀ pvs pk, ∀ p ∈ lexE w Y ln tl pvs pk lvs lk, p.1 < L4 := fun pvs pk' => lexE_lt (pvs := []) (pk := pk) (fun p hp => allLt_mem c7 p (List.mem_append_left _ hp))
  have eb : @LT.lt Nat _ Y.pb L4 := hlex [] 0 (Y.pb, _) (List.mem_cons_self ..)
  have ed : @LT.lt Nat _ Y.dx L4 := hlex [] 0 (Y.dx, _) (.tail _ (.tail _ (.head _)))
  have el : @LT.lt Nat _ Y.lf L4 := hlex [] 0 (Y.lf, listOf lvs.toArray lk) (by repeat (first | exact List.Mem.head _ | apply List.Mem.tail))
  have hnw : ∀ p ∈ news, p.1 < L4 := fun p hp => allLt_mem c7 p (List.mem_append_right _ hp)
  clear c1 c2 c3 c4 c5 c6
  refine for_range 6 (fun i m₁ news₁ => ∃ (pvs : List Value) (pk : Nat) (m' : SMap), m₁ = frm [(Str.ofString "table", .ref x), (Str.ofString "word", .str wd tw)] m' ∧
     news₁ = (L4 + 1 + 1, o4) :: (L4 + 1, o3) :: (hl, listOf #[.ref a0, .ref a1, .ref a2] k) :: (x, instObj 238 dx) :: (dx, dictOf [⟨PyData.keyHash w.params (Str.ofString "_headers"), .str (Str.ofString "_headers") t, .ref hl⟩] 1) :: (a0, { cls := .type "tuple", data := .seq #[.str n0 t0, .str (Str.ofString "0") u0] }) :: (a1, { cls := .type "tuple", data := .seq #[.str n1 t1, .str (Str.ofString "1") u1] }) :: (a2, { cls := .type "tuple", data := .seq #[.str n2 t2, .str (Str.ofString "2") u2] }) :: (lexE w Y ln tl pvs pk lvs lk ++ news) ∧ IntsAre pvs (sixI i)) rfl rg4 (by decide) (by decide) F4 N4 ?_ ?_ ?_
  · exact ⟨[], pk, _, frm_eq ⟨rfl, rfl, trivial⟩, rfl, .nil⟩
  · clear F4 N4
    intro i ti m₁ news₁ h tk own hin hadr hoff hJ F N
    obtain ⟨pvs, pk, m', rfl, rfl, hpv⟩ := hJ
    have hz := hpv.length
    rw [sixI_len] at hz
    rw [← n8_app] at N
    have hw1 : ∀ p ∈ own, p.1 ≠ Y.pb := OwnOff.ne hoff (by simp)
    have hw2 : ∀ p ∈ own, p.1 ≠ Y.dx := OwnOff.ne hoff (by simp)
    have hw3 : ∀ p ∈ own, p.1 ≠ Y.lf := OwnOff.ne hoff (by simp)
    (repeat' ((fail_if_success (with_reducible first | show NilAt _ _ _ _ _ _ _ _ _ | show LCg.CompEnd _ _ _ _ _ _ _ _ _ _ _ _ _ _ | show LCg.CompSrc _ _ _ _ _ _ _ _ _ _ _ _ _ _ | show wpAny _ _ (call (Value.ref 202) _) _ _ _ | show wpAny _ _ (call (Value.ref 177) _) _ _ _ | show wpAny _ _ (call (Value.ref 87) _) _ _ _ | show wpAny _ _ (call (Value.ref 80) _) _ _ _ | show EndQ _ _ _ | show Exit1 _ _ _ _ _ _ _ _ _ | show Turn1 _ _ _ _ _ _ _ _ _ | show TurnN _ _ _ _ _ _ _ _ _ | show wpAny _ _ (pyIter _) _ _ _ | show wpAny _ _ (exec (Stmt.While _ _ _ _) _) _ _ _)); first | (k_unfold; (try dsimp only)) | (k_end; wrow_close) | walk1 | (dsimp only; walk1) | (leave1; walk_say "STEP leave1"; try dsimp only) | fail "no step"))
    (with_reducible rename Fr _ _ _ _ => kF)
    (with_reducible rename News _ _ _ _ => kN)
    refine' pt_c ?B kF ?X (n8_to kN) ?T ?hk hC hY ?g1 ?g2 ?g3 ?hz ?hd ?hu ?_
    case B => k_asm
    case X => k_asm
    case T => k_asm
    case hk => exact rfl
    case g1 => exact off8 (show @Ne Nat _ _ by omega) (show @Ne Nat _ _ by omega) hp1.1 hp2.1 hp3.1 hp4.1 hp5.1 hp6.1 (all_app ho1 hw1)
    case g2 => exact off8 (show @Ne Nat _ _ by omega) (show @Ne Nat _ _ by omega) hp1.2.1 hp2.2.1 hp3.2.1 hp4.2.1 hp5.2.1 hp6.2.1 (all_app ho2 hw2)
    case g3 => exact off8 (show @Ne Nat _ _ by omega) (show @Ne Nat _ _ by omega) hp1.2.2 hp2.2.2 hp3.2.2 hp4.2.2 hp5.2.2 hp6.2.2 (all_app ho3 hw3)
    case hz => omega
    case hd => ktr_room
    case hu => ktr_units
    clear kF kN
    intro k9 h9 tk9 F9 N9
    replace N9 := n8_back N9
    (repeat' ((fail_if_success (with_reducible first | show NilAt _ _ _ _ _ _ _ _ _ | show LCg.CompEnd _ _ _ _ _ _ _ _ _ _ _ _ _ _ | show LCg.CompSrc _ _ _ _ _ _ _ _ _ _ _ _ _ _ | show wpAny _ _ (call (Value.ref 202) _) _ _ _ | show wpAny _ _ (call (Value.ref 177) _) _ _ _ | show wpAny _ _ (call (Value.ref 87) _) _ _ _ | show wpAny _ _ (call (Value.ref 80) _) _ _ _ | show EndQ _ _ _ | show Exit1 _ _ _ _ _ _ _ _ _ | show Turn1 _ _ _ _ _ _ _ _ _ | show TurnN _ _ _ _ _ _ _ _ _ | show wpAny _ _ (pyIter _) _ _ _ | show wpAny _ _ (exec (Stmt.While _ _ _ _) _) _ _ _)); first | (k_unfold; (try dsimp only)) | (k_end; wrow_close) | walk1 | (dsimp only; walk1) | (leave1; walk_say "STEP leave1"; try dsimp only) | fail "no step"))
    (with_reducible rename Fr _ _ _ _ => kF)
    (with_reducible rename News _ _ _ _ => kN)
    exact turnN_next' ((L4 + 1 + 1, o4) :: (L4 + 1, o3) :: (hl, listOf #[.ref a0, .ref a1, .ref a2] k) :: (x, instObj 238 dx) :: (dx, dictOf [⟨PyData.keyHash w.params (Str.ofString "_headers"), .str (Str.ofString "_headers") t, .ref hl⟩] 1) :: (a0, { cls := .type "tuple", data := .seq #[.str n0 t0, .str (Str.ofString "0") u0] }) :: (a1, { cls := .type "tuple", data := .seq #[.str n1 t1, .str (Str.ofString "1") u1] }) :: (a2, { cls := .type "tuple", data := .seq #[.str n2 t2, .str (Str.ofString "2") u2] }) :: (lexE w Y ln tl (pvs ++ [Value.int (6 + (i : Int)) ti]) _ lvs lk ++ news)) kF (n8_app.1 kN) rfl ⟨_, _, _, frm_eq ⟨rfl, rfl, trivial⟩, rfl, by rw [sixI_succ]; exact hpv.append (.cons _ _ .nil)⟩
  intro m₁ news₁ h tk hJ F N
  obtain ⟨pvs, pk5, m', rfl, rfl, hpv⟩ := hJ
  clear F4 N4 rg4
  dsimp only
  (repeat' ((fail_if_success (with_reducible first | show NilAt _ _ _ _ _ _ _ _ _ | show LCg.CompEnd _ _ _ _ _ _ _ _ _ _ _ _ _ _ | show LCg.CompSrc _ _ _ _ _ _ _ _ _ _ _ _ _ _ | show wpAny _ _ (call (Value.ref 202) _) _ _ _ | show wpAny _ _ (call (Value.ref 177) _) _ _ _ | show wpAny _ _ (call (Value.ref 87) _) _ _ _ | show wpAny _ _ (call (Value.ref 80) _) _ _ _ | show EndQ _ _ _ | show Exit1 _ _ _ _ _ _ _ _ _ | show Turn1 _ _ _ _ _ _ _ _ _ | show TurnN _ _ _ _ _ _ _ _ _ | show wpAny _ _ (pyIter _) _ _ _ | show wpAny _ _ (exec (Stmt.While _ _ _ _) _) _ _ _)); first | (k_unfold; (try dsimp only)) | (k_end; wrow_close) | walk1 | (dsimp only; walk1) | (leave1; walk_say "STEP leave1"; try dsimp only) | fail "no step"))
  (rename IsRange _ _ _ _ _ _ _ _ => rg5)
  (with_reducible rename Fr _ _ _ _ => kF)
  (with_reducible rename News _ _ _ _ => kN)
  rename_i rr z1 z2 z3 lq y2 F5 N5 y5 y6 y7 y8 y9 y10
  have lrr : @LT.lt Nat _ (L4 + 1 + 1) rr := lq.1
  clear lq
  generalize hRR : rowsF n0 n1 n2 wd 6 0 [6, 7, 8, 9, 10, 11] = RR
  obtain ⟨P, R⟩ := RR
  refine for_range0 6 (fun i m₁ news₁ => ∃ (pvs : List Value) (pk : Nat) (rvs : List Value) (kr : Nat) (o4 : Obj) (m' : SMap) (pv hs R' : List Int), m₁ = frm [(Str.ofString "table", .ref x), (Str.ofString "word", .str wd tw), (Str.ofString "rights", .ref rr)] m' ∧
     news₁ = (rr, listOf rvs.toArray kr) :: (L4 + 1 + 1, o4) :: (L4 + 1, o3) :: (hl, listOf #[.ref a0, .ref a1, .ref a2] k) :: (x, instObj 238 dx) :: (dx, dictOf [⟨PyData.keyHash w.params (Str.ofString "_headers"), .str (Str.ofString "_headers") t, .ref hl⟩] 1) :: (a0, { cls := .type "tuple", data := .seq #[.str n0 t0, .str (Str.ofString "0") u0] }) :: (a1, { cls := .type "tuple", data := .seq #[.str n1 t1, .str (Str.ofString "1") u1] }) :: (a2, { cls := .type "tuple", data := .seq #[.str n2 t2, .str (Str.ofString "2") u2] }) :: (lexE w Y ln tl pvs pk lvs lk ++ news) ∧ IntsAre pvs pv ∧ IntsAre rvs hs ∧ pv.length = 6 ∧ hs.length = i ∧ (∃ vv, o4.data = .cell vv) ∧ rowsF n0 n1 n2 wd (6 - i) i pv = (P, R') ∧ hs ++ R' = R) rfl rg5 (by decide) (by decide) kF kN ?_ ?_ ?_
  · exact ⟨pvs, pk5, [], 0, o4, _, [6, 7, 8, 9, 10, 11], [], R, frm_eq ⟨rfl, rfl, rfl, trivial⟩, rfl, hpv, .nil, rfl, rfl, ⟨_, hq2⟩, hRR, rfl⟩
  · clear kF kN rg5 hpv hq2
    intro i ti m₁ news₁ h tk own hin hadr hoff hJ F N
    obtain ⟨pvs, pk, rvs, kr, o4, m', pv, hs, R', rfl, rfl, hpv, hrv, hpl, hsl, hq2, hrow, hR⟩ := hJ
    rw [← n9_app] at N
    have hi6 : 6 - i = (6 - (i + 1)) + 1 := by omega
    rw [hi6] at hrow
    have ed2 := fdiv2 i
    have hz := hrv.length
    refine segRow (L := L4) (Y := Y) (news := news ++ own) (o1 := o3) (rem := pv) (row := i) B3 X3 T3 N (fr_frm [(Str.ofString "table", .ref x), (Str.ofString "word", .str wd tw), (Str.ofString "rights", .ref rr), (Str.ofString "row", .int (i : Int) ti)] F ⟨rfl, rfl, rfl, rfl, trivial⟩) hC hY (all_app ho1 (OwnOff.ne hoff (by simp))) (all_app ho2 (OwnOff.ne hoff (by simp))) (all_app ho3 (OwnOff.ne hoff (by simp))) hq1 hq2
      (lt6 d1 d2 d3 d4 d5 d6 (hlex pvs pk)) (all_app (fun p hp => Nat.ne_of_lt (Nat.lt_of_lt_of_le (hnw p hp) (by show @LE.le Nat _ L4 (L4 + 1); omega))) (OwnOff.ne hoff (by simp))) (all_app (fun p hp => Nat.ne_of_lt (Nat.lt_of_lt_of_le (hnw p hp) (by show @LE.le Nat _ L4 (L4 + 1 + 1); omega))) (OwnOff.ne hoff (by simp))) lrr
      hwd ⟨by omega, by omega⟩ (by rw [ed2]; omega) (by rw [ed2]; omega) (by omega) hpv hpl (all_app (fun p hp => Nat.ne_of_lt (Nat.lt_trans (hnw p hp) (by show @LT.lt Nat _ L4 rr; omega))) (OwnOff.ne hoff (by simp)))
      (by rw [ed2]; exact hrg _ (by omega)) (by rw [ed2]; exact hl0 _ (by omega)) (by rw [ed2]; exact hl1 _ (by omega)) hl2 hl3 hl4 hp1 hp2 hp3 hp4 hp5 hp6 (by omega) (by omega) ?_
    intro pvs' pk' kr' th' o2' h' tk' m'' hpv' hq2' F' N'
    obtain ⟨R2, q1, q2⟩ := rowsF_step hrow hR
    exact turnN_next' ((rr, listOf (rvs ++ [Value.int (colF (rowMs n0 n1 n2 wd i) 0 (5 - i) pv).1 th']).toArray kr') :: (L4 + 1 + 1, o2') :: (L4 + 1, o3) :: (hl, listOf #[.ref a0, .ref a1, .ref a2] k) :: (x, instObj 238 dx) :: (dx, dictOf [⟨PyData.keyHash w.params (Str.ofString "_headers"), .str (Str.ofString "_headers") t, .ref hl⟩] 1) :: (a0, { cls := .type "tuple", data := .seq #[.str n0 t0, .str (Str.ofString "0") u0] }) :: (a1, { cls := .type "tuple", data := .seq #[.str n1 t1, .str (Str.ofString "1") u1] }) :: (a2, { cls := .type "tuple", data := .seq #[.str n2 t2, .str (Str.ofString "2") u2] }) :: (lexE w Y ln tl pvs' pk' lvs lk ++ news)) F' (n9_app.1 N') rfl ⟨_, _, _, _, _, _, _, _, R2, rfl, rfl, hpv', hrv.append (.cons _ _ .nil), by rw [colF_len]; exact hpl, by simp [hsl], hq2', q1, q2⟩
  clear kF kN rg5 hpv hq2
  intro m₁ news₁ h8 tk8 hJ F8 N8
  obtain ⟨pvs, pk8, rvs, kr, o4, m8, pv, hs, R', rfl, rfl, hpv, hrv, hpl, hsl, hq2, hrow, hR⟩ := hJ
  obtain ⟨rfl, rfl⟩ : pv = P ∧ [] = R' := by
    have := hrow; simp only [Nat.sub_self, rowsF] at this; exact ⟨congrArg Prod.fst this, congrArg Prod.snd this⟩
  rw [List.append_nil] at hR
  subst hR
  obtain ⟨x1, x2, x3, x4, x5, x6, w1, w2, w3, w4, w5, w6, rfl, rfl⟩ := ints6 hrv hsl
  have hvl : pvs.length = 6 := by rw [hpv.length, hpl]
  dsimp only
  (repeat' ((fail_if_success (with_reducible first | show NilAt _ _ _ _ _ _ _ _ _ | show LCg.CompEnd _ _ _ _ _ _ _ _ _ _ _ _ _ _ | show LCg.CompSrc _ _ _ _ _ _ _ _ _ _ _ _ _ _ | show wpAny _ _ (call (Value.ref 202) _) _ _ _ | show wpAny _ _ (call (Value.ref 177) _) _ _ _ | show wpAny _ _ (call (Value.ref 87) _) _ _ _ | show wpAny _ _ (call (Value.ref 80) _) _ _ _ | show EndQ _ _ _ | show Exit1 _ _ _ _ _ _ _ _ _ | show Turn1 _ _ _ _ _ _ _ _ _ | show TurnN _ _ _ _ _ _ _ _ _ | show wpAny _ _ (pyIter _) _ _ _ | show wpAny _ _ (exec (Stmt.While _ _ _ _) _) _ _ _)); first | (k_unfold; (try dsimp only)) | (k_end; wrow_close) | walk1 | (dsimp only; walk1) | (leave1; walk_say "STEP leave1"; try dsimp only) | fail "no step"))
  (rename IsRange _ _ _ _ _ _ _ _ => rg8)
  (with_reducible rename Fr _ _ _ _ => kF)
  (with_reducible rename News _ _ _ _ => kN)
  refine' LCg.CompSrc.range (n := 6) ?hh ?F ?N rg8 (by decide) (by decide) (by decide) ?_
  case hh => exact rfl
  case F => exact kF
  case N => exact kN
  intro g9
  refine comp_ind (J := fun i ys news' => ∃ pk, ys = pvs.take i ∧ news' = (rr, listOf [Value.int x1 w1, Value.int x2 w2, Value.int x3 w3, Value.int x4 w4, Value.int x5 w5, Value.int x6 w6].toArray kr) :: (L4 + 1 + 1, o4) :: (L4 + 1, o3) :: (hl, listOf #[.ref a0, .ref a1, .ref a2] k) :: (x, instObj 238 dx) :: (dx, dictOf [⟨PyData.keyHash w.params (Str.ofString "_headers"), .str (Str.ofString "_headers") t, .ref hl⟩] 1) :: (a0, { cls := .type "tuple", data := .seq #[.str n0 t0, .str (Str.ofString "0") u0] }) :: (a1, { cls := .type "tuple", data := .seq #[.str n1 t1, .str (Str.ofString "1") u1] }) :: (a2, { cls := .type "tuple", data := .seq #[.str n2 t2, .str (Str.ofString "2") u2] }) :: (lexE w Y ln tl (pvs.drop i) pk lvs lk ++ news)) 6 ?turn ?fin _ 0 [] _ rfl ⟨pk8, rfl, rfl⟩
  case turn =>
    clear kF kN rg8
    rintro i ys news' hi ⟨pk, rfl, rfl⟩ v I oI C oC D m₂ h9 tk9 E' hP hns hx F9 N9 off9 ne9
    have hlt : i < pvs.length := by omega
    have ed9 := List.drop_eq_getElem_cons hlt
    have et9 : pvs.take (i + 1) = pvs.take i ++ [pvs[i]] := by rw [List.take_add_one, List.getElem?_eq_getElem hlt]; rfl
    have hz9 : (pvs[i] :: pvs.drop (i + 1)).length ≤ 1000 := by rw [← ed9, List.length_drop]; omega
    generalize pvs[i] = v8 at ed9 et9 hz9
    rw [ed9] at N9 off9
    (repeat' ((fail_if_success (with_reducible first | show NilAt _ _ _ _ _ _ _ _ _ | show LCg.CompEnd _ _ _ _ _ _ _ _ _ _ _ _ _ _ | show LCg.CompSrc _ _ _ _ _ _ _ _ _ _ _ _ _ _ | show wpAny _ _ (call (Value.ref 202) _) _ _ _ | show wpAny _ _ (call (Value.ref 177) _) _ _ _ | show wpAny _ _ (call (Value.ref 87) _) _ _ _ | show wpAny _ _ (call (Value.ref 80) _) _ _ _ | show EndQ _ _ _ | show Exit1 _ _ _ _ _ _ _ _ _ | show Turn1 _ _ _ _ _ _ _ _ _ | show TurnN _ _ _ _ _ _ _ _ _ | show wpAny _ _ (pyIter _) _ _ _ | show wpAny _ _ (exec (Stmt.While _ _ _ _) _) _ _ _)); first | (k_unfold; (try dsimp only)) | (k_end; wrow_close) | walk1 | (dsimp only; walk1) | (leave1; walk_say "STEP leave1"; try dsimp only) | fail "no step"))
    (with_reducible rename Fr _ _ _ _ => kF)
    (with_reducible rename News _ _ _ _ => kN)
    have om := LCg.Off3.mem off9.2.2.2.2.2.2.2.2.2
    have ob := om (Y.pb, _) (List.mem_append_left _ (.head _))
    have od := om (Y.dx, _) (List.mem_append_left _ (.tail _ (.tail _ (.head _))))
    have ol := om (Y.lf, listOf lvs.toArray lk) (List.mem_append_left _ (by repeat (first | exact List.Mem.head _ | apply List.Mem.tail)))
    refine' gt1_c (Y := Y) (ln := ln) (tl := tl) (lvs := lvs) (lk := lk) (v := v8) (pvs := pvs.drop (i + 1)) ?B kF ?X (n12_to (l := lexE w Y ln tl (v8 :: pvs.drop (i + 1)) pk lvs lk) (r := news) kN) ?T ?hk hC hY ?g1 ?g2 ?g3 hz9 ?hd ?hu ?_
    case B => k_asm
    case X => k_asm
    case T => k_asm
    case hk => exact rfl
    case g1 => exact off4 (Ne.symm ob.1) (Ne.symm ob.2.1) (Ne.symm ob.2.2) (show @Ne Nat _ _ by omega) (off8 (show @Ne Nat _ _ by omega) (show @Ne Nat _ _ by omega) hp1.1 hp2.1 hp3.1 hp4.1 hp5.1 hp6.1 ho1)
    case g2 => exact off4 (Ne.symm od.1) (Ne.symm od.2.1) (Ne.symm od.2.2) (show @Ne Nat _ _ by omega) (off8 (show @Ne Nat _ _ by omega) (show @Ne Nat _ _ by omega) hp1.2.1 hp2.2.1 hp3.2.1 hp4.2.1 hp5.2.1 hp6.2.1 ho2)
    case g3 => exact off4 (Ne.symm ol.1) (Ne.symm ol.2.1) (Ne.symm ol.2.2) (show @Ne Nat _ _ by omega) (off8 (show @Ne Nat _ _ by omega) (show @Ne Nat _ _ by omega) hp1.2.2 hp2.2.2 hp3.2.2 hp4.2.2 hp5.2.2 hp6.2.2 ho3)
    case hd => ktr_room
    case hu => ktr_units
    clear kF kN om ob od ol
    intro h7 tk7 F7 N7
    replace N7 := n12_back N7
    (repeat' ((fail_if_success (with_reducible first | show NilAt _ _ _ _ _ _ _ _ _ | show LCg.CompEnd _ _ _ _ _ _ _ _ _ _ _ _ _ _ | show LCg.CompSrc _ _ _ _ _ _ _ _ _ _ _ _ _ _ | show wpAny _ _ (call (Value.ref 202) _) _ _ _ | show wpAny _ _ (call (Value.ref 177) _) _ _ _ | show wpAny _ _ (call (Value.ref 87) _) _ _ _ | show wpAny _ _ (call (Value.ref 80) _) _ _ _ | show EndQ _ _ _ | show Exit1 _ _ _ _ _ _ _ _ _ | show Turn1 _ _ _ _ _ _ _ _ _ | show TurnN _ _ _ _ _ _ _ _ _ | show wpAny _ _ (pyIter _) _ _ _ | show wpAny _ _ (exec (Stmt.While _ _ _ _) _) _ _ _)); first | (k_unfold; (try dsimp only)) | (k_end; wrow_close) | walk1 | (dsimp only; walk1) | (leave1; walk_say "STEP leave1"; try dsimp only) | fail "no step"))
    refine LCg.CompEnd.intro F7 N7 _ (fun _ h => h) ?_ trivial ⟨_, et9.symm, rfl⟩
    exact off9
  case fin =>
    rintro ys news' ⟨pk9, rfl, rfl⟩
    clear kF kN rg8
    rw [List.take_of_length_le (by omega), List.drop_eq_nil_of_le (by omega)]
    obtain ⟨z1, z2, z3, z4, z5, z6, y1, y2, y3, y4, y5, y6, rfl, rfl⟩ := ints6 hpv hpl
    (repeat' ((fail_if_success (with_reducible first | show NilAt _ _ _ _ _ _ _ _ _ | show LCg.CompEnd _ _ _ _ _ _ _ _ _ _ _ _ _ _ | show LCg.CompSrc _ _ _ _ _ _ _ _ _ _ _ _ _ _ | show wpAny _ _ (call (Value.ref 202) _) _ _ _ | show wpAny _ _ (call (Value.ref 177) _) _ _ _ | show wpAny _ _ (call (Value.ref 87) _) _ _ _ | show wpAny _ _ (call (Value.ref 80) _) _ _ _ | show EndQ _ _ _ | show Exit1 _ _ _ _ _ _ _ _ _ | show Turn1 _ _ _ _ _ _ _ _ _ | show TurnN _ _ _ _ _ _ _ _ _ | show wpAny _ _ (pyIter _) _ _ _ | show wpAny _ _ (exec (Stmt.While _ _ _ _) _) _ _ _)); first | (k_unfold; (try dsimp only)) | (k_end; wrow_close) | walk1 | (dsimp only; walk1) | (leave1; walk_say "STEP leave1"; try dsimp only) | fail "no step"))
    (with_reducible rename Fr h₀ _ _ _ => kF)
    (with_reducible rename News h₀ _ _ _ => kN)
    have kE := n_end kN
    refine hret _ _ _ _ _ _ ?q1 ?q2 ?q3 ?q4 kF kE
    case q1 => exact ne_of_obj kE (.head _) (.tail _ (.tail _ (.tail _ (.tail _ (.tail _ (.tail _ (.tail _ (.head _)))))))) (by intro e; injection e with _ _ e _; injection e with e _; cases e)
    case q2 => exact ne_of_obj kE (.head _) (.tail _ (.tail _ (.tail _ (.tail _ (.tail _ (.tail _ (.tail _ (.tail _ (.tail _ (.head _)))))))))) (by intro e; have e2 := congrArg Obj.cls e; injection e2 with e2; exact absurd e2 (by decide))
    case q3 => exact ne_of_obj (b := Y.lf) (B := listOf lvs.toArray lk) kE (.head _) (by repeat (first | exact List.Mem.head _ | apply List.Mem.tail)) (ends_lf hS)
    case q4 => unfold endsF; rw [hRR]; repeat constructor
end
end Mine
end

section


section
open PySem PySem.W PySem.Spec PySem.Calls PyProof.Rows
set_option Elab.async false
set_option maxRecDepth 100000
set_option maxHeartbeats 0
set_option pp.deepTerms false
set_option pp.maxSteps 2000
namespace Mine
section
variable {w : World} {mean : ExcName → Option Value} {mg mb : SMap} {dp un : Nat} {gd : Option (List Code)} {cn : PySem.Str} {cs : Scope} {a₀ : Addr} {ccd : Value} {cl : List (PySem.Str × Addr)} {outer outer1 : List Env} {base g : Heap} {L L₀ : Addr} {m : SMap} {news : List (Addr × Obj)} {s : Shared} {Q : Flow → Shared → Prop}

theorem lawW_c {fa : Addr} {cd : Value} {one two : Int} {t1 t2 t3 t4 ti tj : Tok} {oi : Obj} {c0 c1 c2 d0 d1 d2 : Nat} {le : Addr} {ve : List Value} {ke : Nat} {es : List Int} {i j : Int} {wd st : PySem.Str} {tw ts : Tok} (B : Below callerA g [] g) (X : (hd01.heap_1 w.params).In g) (T : Top VV LL mean mg mb g)
   (N : News g L s.heap ((L + 1, oi) :: (le, listOf ve.toArray ke) :: news)) (hoi : oi.data = .cell (some (.int i ti))) (hie : IntsAre ve es) (hel : es.length = 12)
   (F : Fr g L s.heap (frm [(Str.ofString "one", .int one t1), (Str.ofString "two", .int two t2), (Str.ofString "first", .str ⟨#[c0, c1, c2]⟩ t3), (Str.ofString "second", .str ⟨#[d0, d1, d2]⟩ t4), (Str.ofString "ends", .ref le), (Str.ofString "j", .int j tj), (Str.ofString "word", .str wd tw), (Str.ofString "stretch", .str st ts)] m)) (hi1 : -2 ≤ i) (hi2 : i ≤ 2) (hj1 : 1 ≤ j) (hj2 : j ≤ 5) (hle : @Ne Nat le (L + 1)) (hnl : ∀ p ∈ news, p.1 ≠ le) (hnc : ∀ p ∈ news, p.1 ≠ L + 1) (hw1 : 1 ≤ wd.length) (hw2 : wd.length ≤ 3) (hs2 : st.length ≤ 3)
   (htell : tellsF wd (dotted wd st) (dueF wd st es i j) ((one + two).fdiv 432 + i + j) = true)
   (hret : ∀ (h' : Heap) (tk' : Nat) (m' : SMap), Fr g L h' (frm [(Str.ofString "one", .int one t1), (Str.ofString "two", .int two t2), (Str.ofString "first", .str ⟨#[c0, c1, c2]⟩ t3), (Str.ofString "second", .str ⟨#[d0, d1, d2]⟩ t4), (Str.ofString "ends", .ref le)] m') → News g L h' ((L + 1, oi) :: (le, listOf ve.toArray ke) :: news) → Q .next { s with heap := h', toks := tk' }) :
    wpAny (model PP w) (callerA.deeper (lawEnv w fa cd L)) (execs (lawW w) (lawEnv w fa cd L)) (EndQ Q) (fun _ _ => False) s := by
  conv => arg 3; arg 1; whnf
  simp only [lawEnv]
  generalize hsc : fnScope (hd01.heap_1 w.params) 278 = sc
  conv at hsc => lhs; whnf
  subst hsc
  have hml := mul_le hw1 hw2
  have hdl := dj_le hw1 hw2 hs2
  (repeat' ((fail_if_success (with_reducible first | show NilAt _ _ _ _ _ _ _ _ _ | show wpAny _ _ (call (Value.builtin "sum") _) _ _ _ | show wpAny _ _ (call (Value.ref 273) _) _ _ _ | show wpAny _ _ (call (Value.ref 266) _) _ _ _ | show wpAny _ _ (call (Value.ref 261) _) _ _ _ | show wpAny _ _ (call (Value.ref 254) _) _ _ _ | show wpAny _ _ (call (Value.ref 249) _) _ _ _ | show wpAny _ _ (call (Value.ref 235) _) _ _ _ | show wpAny _ _ (call (Value.ref 238) _) _ _ _ | show wpAny _ _ (call (Value.ref 80) _) _ _ _ | show wpAny _ _ (call (Value.builtin "str.join") _) _ _ _ | show EndQ _ _ _ | show Exit1 _ _ _ _ _ _ _ _ _ | show Turn1 _ _ _ _ _ _ _ _ _ | show TurnN _ _ _ _ _ _ _ _ _ | show wpAny _ _ (pyIter _) _ _ _ | show wpAny _ _ (exec (Stmt.While _ _ _ _) _) _ _ _)); first | (k_unfold; (try dsimp only)) | (k_end; wrow_close) | walk1 | (dsimp only; walk1) | (leave1; walk_say "STEP leave1"; try dsimp only) | fail "no step"))
  (with_reducible rename Fr _ _ _ _ => kF)
  (with_reducible rename News _ _ _ _ => kN)
  (rename StrsAre _ _ => hS)
  refine' join_listW (items := _) ?hl hS ?hsep ?hw ?_
  case hl => exact ⟨_, (kN _ (List.mem_cons_self ..)).1, rfl, _, rfl⟩
  case hsep => omega
  case hw =>
    rw [(chs_sum _).1, (chs_sum _).2]
    have c : st.cps.toList.length ≤ 3 := by rw [Array.length_toList]; exact hs2
    omega
  intro t8 k8
  (repeat' ((fail_if_success (with_reducible first | show NilAt _ _ _ _ _ _ _ _ _ | show wpAny _ _ (call (Value.builtin "sum") _) _ _ _ | show wpAny _ _ (call (Value.ref 273) _) _ _ _ | show wpAny _ _ (call (Value.ref 266) _) _ _ _ | show wpAny _ _ (call (Value.ref 261) _) _ _ _ | show wpAny _ _ (call (Value.ref 254) _) _ _ _ | show wpAny _ _ (call (Value.ref 249) _) _ _ _ | show wpAny _ _ (call (Value.ref 235) _) _ _ _ | show wpAny _ _ (call (Value.ref 238) _) _ _ _ | show wpAny _ _ (call (Value.ref 80) _) _ _ _ | show wpAny _ _ (call (Value.builtin "str.join") _) _ _ _ | show EndQ _ _ _ | show Exit1 _ _ _ _ _ _ _ _ _ | show Turn1 _ _ _ _ _ _ _ _ _ | show TurnN _ _ _ _ _ _ _ _ _ | show wpAny _ _ (pyIter _) _ _ _ | show wpAny _ _ (exec (Stmt.While _ _ _ _) _) _ _ _)); first | (k_unfold; (try dsimp only)) | (k_end; wrow_close) | walk1 | (dsimp only; walk1) | (leave1; walk_say "STEP leave1"; try dsimp only) | fail "no step"))
  any_goals (first | exact (Str.ofString "") | exact Value.none | exact (0 : Nat))
  (rename CarriedAll _ _ => hca)
  refine' len_list_made ?hl hca ?hb ?_
  case hl => assumption
  case hb => exact Nat.le_trans (cnt_le hel i j) (by decide)
  (repeat' ((fail_if_success (with_reducible first | show NilAt _ _ _ _ _ _ _ _ _ | show wpAny _ _ (call (Value.builtin "sum") _) _ _ _ | show wpAny _ _ (call (Value.ref 273) _) _ _ _ | show wpAny _ _ (call (Value.ref 266) _) _ _ _ | show wpAny _ _ (call (Value.ref 261) _) _ _ _ | show wpAny _ _ (call (Value.ref 254) _) _ _ _ | show wpAny _ _ (call (Value.ref 249) _) _ _ _ | show wpAny _ _ (call (Value.ref 235) _) _ _ _ | show wpAny _ _ (call (Value.ref 238) _) _ _ _ | show wpAny _ _ (call (Value.ref 80) _) _ _ _ | show wpAny _ _ (call (Value.builtin "str.join") _) _ _ _ | show EndQ _ _ _ | show Exit1 _ _ _ _ _ _ _ _ _ | show Turn1 _ _ _ _ _ _ _ _ _ | show TurnN _ _ _ _ _ _ _ _ _ | show wpAny _ _ (pyIter _) _ _ _ | show wpAny _ _ (exec (Stmt.While _ _ _ _) _) _ _ _)); first | (k_unfold; (try dsimp only)) | (k_end; wrow_close) | walk1 | (dsimp only; walk1) | (leave1; walk_say "STEP leave1"; try dsimp only) | fail "no step"))
  (with_reducible rename Fr _ _ _ _ => kF)
  (with_reducible rename News _ _ _ _ => kN)
  have hdu := due_le hw1 hw2 hs2 hel i j
  refine' tl_c (x := wd) (y := dotted wd st) (due := dueF wd st es i j) (turn := (one + two).fdiv 432 + i + j) ?B kF ?X kN ?T ?hk ?hx ?hy ?d1 ?d2 ?hd ?hu htell ?_
  case B => exact B
  case X => exact X
  case T => exact T
  case hk => exact rfl
  case hx => omega
  case hy => exact Nat.le_trans (dotted_le hw1 hw2 hs2) (by decide)
  case d1 => exact hdu.1
  case d2 => exact hdu.2
  case hd => ktr_room
  case hu => ktr_units
  clear kF kN
  intro h9 tk9 F9 N9
  (repeat' ((fail_if_success (with_reducible first | show NilAt _ _ _ _ _ _ _ _ _ | show wpAny _ _ (call (Value.builtin "sum") _) _ _ _ | show wpAny _ _ (call (Value.ref 273) _) _ _ _ | show wpAny _ _ (call (Value.ref 266) _) _ _ _ | show wpAny _ _ (call (Value.ref 261) _) _ _ _ | show wpAny _ _ (call (Value.ref 254) _) _ _ _ | show wpAny _ _ (call (Value.ref 249) _) _ _ _ | show wpAny _ _ (call (Value.ref 235) _) _ _ _ | show wpAny _ _ (call (Value.ref 238) _) _ _ _ | show wpAny _ _ (call (Value.ref 80) _) _ _ _ | show wpAny _ _ (call (Value.builtin "str.join") _) _ _ _ | show EndQ _ _ _ | show Exit1 _ _ _ _ _ _ _ _ _ | show Turn1 _ _ _ _ _ _ _ _ _ | show TurnN _ _ _ _ _ _ _ _ _ | show wpAny _ _ (pyIter _) _ _ _ | show wpAny _ _ (exec (Stmt.While _ _ _ _) _) _ _ _)); first | (k_unfold; (try dsimp only)) | (k_end; wrow_close) | walk1 | (dsimp only; walk1) | (leave1; walk_say "STEP leave1"; try dsimp only) | fail "no step"))
  exact hret _ _ _ (fr_frm [(Str.ofString "one", .int one t1), (Str.ofString "two", .int two t2), (Str.ofString "first", .str ⟨#[c0, c1, c2]⟩ t3), (Str.ofString "second", .str ⟨#[d0, d1, d2]⟩ t4), (Str.ofString "ends", .ref le)] F9 ⟨rfl, rfl, rfl, rfl, rfl, trivial⟩) (d3 N9)
end
end Mine
end

section
open PySem PySem.W PySem.Spec PySem.Calls PyProof.Rows
set_option Elab.async false
set_option maxRecDepth 100000
set_option maxHeartbeats 0
set_option pp.deepTerms false
set_option pp.maxSteps 2000
namespace Mine
section
variable {w : World} {mean : ExcName → Option Value} {mg mb : SMap} {dp un : Nat} {gd : Option (List Code)} {cn : PySem.Str} {cs : Scope} {a₀ : Addr} {ccd : Value} {cl : List (PySem.Str × Addr)} {outer outer1 : List Env} {base g : Heap} {L L₀ : Addr} {m : SMap} {news : List (Addr × Obj)} {s : Shared} {Q : Flow → Shared → Prop}

theorem lawJ_c {fa : Addr} {cd : Value} {one two : Int} {t1 t2 t3 t4 ti tj : Tok} {oi : Obj} {c0 c1 c2 d0 d1 d2 : Nat} {le : Addr} {ve : List Value} {ke : Nat} {es : List Int} {i j : Int} (B : Below callerA g [] g) (X : (hd01.heap_1 w.params).In g) (T : Top VV LL mean mg mb g)
   (N : News g L s.heap ((L + 1, oi) :: (le, listOf ve.toArray ke) :: news)) (hoi : oi.data = .cell (some (.int i ti))) (hie : IntsAre ve es) (hel : es.length = 12)
   (F : Fr g L s.heap (frm [(Str.ofString "one", .int one t1), (Str.ofString "two", .int two t2), (Str.ofString "first", .str ⟨#[c0, c1, c2]⟩ t3), (Str.ofString "second", .str ⟨#[d0, d1, d2]⟩ t4), (Str.ofString "ends", .ref le), (Str.ofString "j", .int j tj)] m)) (hi1 : -2 ≤ i) (hi2 : i ≤ 2) (hj1 : 1 ≤ j) (hj2 : j ≤ 5) (hj3 : i + 1 ≤ j) (hle : @Ne Nat le (L + 1)) (hnl : ∀ p ∈ news, p.1 ≠ le) (hnc : ∀ p ∈ news, p.1 ≠ L + 1)
   (hask : askF ⟨#[c0, c1, c2]⟩ ⟨#[d0, d1, d2]⟩ es ((one + two).fdiv 432) i j)
   (hret : ∀ (h' : Heap) (tk' : Nat) (m' : SMap), Fr g L h' (frm [(Str.ofString "one", .int one t1), (Str.ofString "two", .int two t2), (Str.ofString "first", .str ⟨#[c0, c1, c2]⟩ t3), (Str.ofString "second", .str ⟨#[d0, d1, d2]⟩ t4), (Str.ofString "ends", .ref le)] m') → News g L h' ((L + 1, oi) :: (le, listOf ve.toArray ke) :: news) → Q .next { s with heap := h', toks := tk' }) :
    wpAny (model PP w) (callerA.deeper (lawEnv w fa cd L)) (execs (lawJ w) (lawEnv w fa cd L)) (EndQ Q) (fun _ _ => False) s := by
  have hc3 : (⟨#[c0, c1, c2]⟩ : PySem.Str).length = 3 := rfl
  have hd3 : (⟨#[d0, d1, d2]⟩ : PySem.Str).length = 3 := rfl
  conv => arg 3; arg 1; whnf
  simp only [lawEnv]
  generalize hsc : fnScope (hd01.heap_1 w.params) 278 = sc
  conv at hsc => lhs; whnf
  subst hsc
  (repeat' ((fail_if_success (with_reducible first | show NilAt _ _ _ _ _ _ _ _ _ | show wpAny _ _ (call (Value.builtin "sum") _) _ _ _ | show wpAny _ _ (call (Value.ref 273) _) _ _ _ | show wpAny _ _ (call (Value.ref 266) _) _ _ _ | show wpAny _ _ (call (Value.ref 261) _) _ _ _ | show wpAny _ _ (call (Value.ref 254) _) _ _ _ | show wpAny _ _ (call (Value.ref 249) _) _ _ _ | show wpAny _ _ (call (Value.ref 235) _) _ _ _ | show wpAny _ _ (call (Value.ref 238) _) _ _ _ | show wpAny _ _ (call (Value.ref 80) _) _ _ _ | show wpAny _ _ (execs (Stmt.Assign [Expr.Name (Str.ofString "dots") _] _ _ :: _) _) _ _ _ | show EndQ _ _ _ | show Exit1 _ _ _ _ _ _ _ _ _ | show Turn1 _ _ _ _ _ _ _ _ _ | show TurnN _ _ _ _ _ _ _ _ _ | show wpAny _ _ (pyIter _) _ _ _ | show wpAny _ _ (exec (Stmt.While _ _ _ _) _) _ _ _)); first | (k_unfold; (try dsimp only)) | (k_end; wrow_close) | walk1 | (dsimp only; walk1) | (leave1; walk_say "STEP leave1"; try dsimp only) | fail "no step"))
  · (with_reducible rename Fr _ _ _ _ => kF)
    (with_reducible rename News _ _ _ _ => kN)
    (rename (_ != _) = true => hne)
    refine lawW_c (wd := wdF ⟨#[c0, c1, c2]⟩ i j) (st := stF ⟨#[d0, d1, d2]⟩ i j) (es := es) (i := i) (j := j) B X T kN hoi hie hel (fr_frm [(Str.ofString "one", .int one t1), (Str.ofString "two", .int two t2), (Str.ofString "first", .str ⟨#[c0, c1, c2]⟩ t3), (Str.ofString "second", .str ⟨#[d0, d1, d2]⟩ t4), (Str.ofString "ends", .ref le), (Str.ofString "j", .int j tj), (Str.ofString "word", .str (wdF ⟨#[c0, c1, c2]⟩ i j) _), (Str.ofString "stretch", .str (stF ⟨#[d0, d1, d2]⟩ i j) _)] kF ⟨rfl, rfl, rfl, rfl, rfl, rfl, rfl, rfl, trivial⟩) hi1 hi2 hj1 hj2 hle hnl hnc (ne_len hne) ?w2 ?s2 (hask hne) ?_
    case w2 => exact (by show (Txt.slice _ _ _).length ≤ 3; omega)
    case s2 => exact (by show (Txt.slice _ _ _).length ≤ 3; omega)
    intro h9 tk9 m9 F9 N9
    dsimp only
    (repeat' ((fail_if_success (with_reducible first | show NilAt _ _ _ _ _ _ _ _ _ | show wpAny _ _ (call (Value.builtin "sum") _) _ _ _ | show wpAny _ _ (call (Value.ref 273) _) _ _ _ | show wpAny _ _ (call (Value.ref 266) _) _ _ _ | show wpAny _ _ (call (Value.ref 261) _) _ _ _ | show wpAny _ _ (call (Value.ref 254) _) _ _ _ | show wpAny _ _ (call (Value.ref 249) _) _ _ _ | show wpAny _ _ (call (Value.ref 235) _) _ _ _ | show wpAny _ _ (call (Value.ref 238) _) _ _ _ | show wpAny _ _ (call (Value.ref 80) _) _ _ _ | show wpAny _ _ (execs (Stmt.Assign [Expr.Name (Str.ofString "dots") _] _ _ :: _) _) _ _ _ | show EndQ _ _ _ | show Exit1 _ _ _ _ _ _ _ _ _ | show Turn1 _ _ _ _ _ _ _ _ _ | show TurnN _ _ _ _ _ _ _ _ _ | show wpAny _ _ (pyIter _) _ _ _ | show wpAny _ _ (exec (Stmt.While _ _ _ _) _) _ _ _)); first | (k_unfold; (try dsimp only)) | (k_end; wrow_close) | walk1 | (dsimp only; walk1) | (leave1; walk_say "STEP leave1"; try dsimp only) | fail "no step"))
    exact hret _ _ _ F9 N9
  · (with_reducible rename Fr _ _ _ _ => kF)
    (with_reducible rename News _ _ _ _ => kN)
    exact hret _ _ _ (fr_frm [(Str.ofString "one", .int one t1), (Str.ofString "two", .int two t2), (Str.ofString "first", .str ⟨#[c0, c1, c2]⟩ t3), (Str.ofString "second", .str ⟨#[d0, d1, d2]⟩ t4), (Str.ofString "ends", .ref le)] kF ⟨rfl, rfl, rfl, rfl, rfl, trivial⟩) kN
end
end Mine
end

section
open PySem PySem.W PySem.Spec PySem.Calls PyProof.Rows
set_option Elab.async false
set_option maxRecDepth 100000
set_option maxHeartbeats 0
set_option pp.deepTerms false
set_option pp.maxSteps 2000
namespace Mine
section
variable {w : World} {mean : ExcName → Option Value} {mg mb : SMap} {dp un : Nat} {gd : Option (List Code)} {cn : PySem.Str} {cs : Scope} {a₀ : Addr} {ccd : Value} {cl : List (PySem.Str × Addr)} {outer outer1 : List Env} {base g : Heap} {L L₀ : Addr} {m : SMap} {news : List (Addr × Obj)} {s : Shared} {Q : Flow → Shared → Prop}

theorem rng3 {a : Int} (h1 : 1 ≤ a) (h2 : a ≤ 3) : Builtin.Range.small a 6 1 = true ∧ Builtin.Range.rangeSize a 6 1 = (((6 - a).toNat : Nat) : Int) := by
  have : a = 1 ∨ a = 2 ∨ a = 3 := by omega
  rcases this with rfl | rfl | rfl <;> exact ⟨by decide, by decide⟩
theorem nrot {h₀ h : Heap} {L : Addr} {e1 e2 e3 : Addr × Obj} {r : List (Addr × Obj)} (N : News h₀ L h (e1 :: e2 :: e3 :: r)) : News h₀ L h (e2 :: e3 :: e1 :: r) := news_sub N (fun p hp => by
  simp only [List.mem_cons] at hp ⊢
  rcases hp with h | h | h | h <;> simp [h])
theorem nrotB {h₀ h : Heap} {L : Addr} {e1 e2 e3 : Addr × Obj} {r : List (Addr × Obj)} (N : News h₀ L h (e2 :: e3 :: e1 :: r)) : News h₀ L h (e1 :: e2 :: e3 :: r) := news_sub N (fun p hp => by
  simp only [List.mem_cons] at hp ⊢
  rcases hp with h | h | h | h <;> simp [h])
theorem lawFj_c {fa : Addr} {cd : Value} {one two : Int} {t1 t2 t3 t4 ti : Tok} {oi : Obj} {c0 c1 c2 d0 d1 d2 : Nat} {le : Addr} {ve : List Value} {ke : Nat} {es : List Int} {i : Int} (B : Below callerA g [] g) (X : (hd01.heap_1 w.params).In g) (T : Top VV LL mean mg mb g)
   (N : News g L s.heap ((L + 1, oi) :: (le, listOf ve.toArray ke) :: news)) (hoi : oi.data = .cell (some (.int i ti))) (hie : IntsAre ve es) (hel : es.length = 12)
   (F : Fr g L s.heap (frm [(Str.ofString "one", .int one t1), (Str.ofString "two", .int two t2), (Str.ofString "first", .str ⟨#[c0, c1, c2]⟩ t3), (Str.ofString "second", .str ⟨#[d0, d1, d2]⟩ t4), (Str.ofString "ends", .ref le)] m)) (hi1 : -2 ≤ i) (hi2 : i ≤ 2) (hle : @Ne Nat le (L + 1)) (hnl : ∀ p ∈ news, p.1 ≠ le) (hnc : ∀ p ∈ news, p.1 ≠ L + 1)
   (hask : ∀ j : Int, 1 ≤ j → j ≤ 5 → i + 1 ≤ j → askF ⟨#[c0, c1, c2]⟩ ⟨#[d0, d1, d2]⟩ es ((one + two).fdiv 432) i j)
   (hret : ∀ (h' : Heap) (tk' : Nat) (m' : SMap), Fr g L h' (frm [(Str.ofString "one", .int one t1), (Str.ofString "two", .int two t2), (Str.ofString "first", .str ⟨#[c0, c1, c2]⟩ t3), (Str.ofString "second", .str ⟨#[d0, d1, d2]⟩ t4), (Str.ofString "ends", .ref le)] m') → News g L h' ((L + 1, oi) :: (le, listOf ve.toArray ke) :: news) → Q .next { s with heap := h', toks := tk' }) :
    wpAny (model PP w) (callerA.deeper (lawEnv w fa cd L)) (exec (lawFj w) (lawEnv w fa cd L)) (EndQ Q) (fun _ _ => False) s := by
  conv => arg 3; arg 1; whnf
  simp only [lawEnv]
  generalize hsc : fnScope (hd01.heap_1 w.params) 278 = sc
  conv at hsc => lhs; whnf
  subst hsc
  have ha1 : 1 ≤ (if i > 0 then i else 0) + 1 := by split <;> omega
  have ha2 : (if i > 0 then i else 0) + 1 ≤ 3 := by split <;> omega
  have ha3 : i + 1 ≤ (if i > 0 then i else 0) + 1 := by split <;> omega
  have hrn := rng3 ha1 ha2
  refine For_rng (h₀ := g) (L := L) (6 - ((if i > 0 then i else 0) + 1)).toNat ((if i > 0 then i else 0) + 1) (fun k m₁ news₁ => ∃ m', m₁ = frm [(Str.ofString "one", .int one t1), (Str.ofString "two", .int two t2), (Str.ofString "first", .str ⟨#[c0, c1, c2]⟩ t3), (Str.ofString "second", .str ⟨#[d0, d1, d2]⟩ t4), (Str.ofString "ends", .ref le)] m' ∧ news₁ = (L + 1, oi) :: (le, listOf ve.toArray ke) :: news) rfl ?ev ?turn ?done
  case ev =>
    (repeat' ((fail_if_success (with_reducible first | show NilAt _ _ _ _ _ _ _ _ _ | show wpAny _ _ (call (Value.builtin "sum") _) _ _ _ | show wpAny _ _ (call (Value.ref 273) _) _ _ _ | show wpAny _ _ (call (Value.ref 266) _) _ _ _ | show wpAny _ _ (call (Value.ref 261) _) _ _ _ | show wpAny _ _ (call (Value.ref 254) _) _ _ _ | show wpAny _ _ (call (Value.ref 249) _) _ _ _ | show wpAny _ _ (call (Value.ref 235) _) _ _ _ | show wpAny _ _ (call (Value.ref 238) _) _ _ _ | show wpAny _ _ (call (Value.ref 80) _) _ _ _ | show wpAny _ _ (execs (Stmt.Assign [Expr.Name (Str.ofString "word") _] _ _ :: _) _) _ _ _ | show RngEnd _ _ _ _ _ _ _ _ _ | show RngAt _ _ _ _ _ _ _ _ | show EndQ _ _ _ | show Exit1 _ _ _ _ _ _ _ _ _ | show Turn1 _ _ _ _ _ _ _ _ _ | show TurnN _ _ _ _ _ _ _ _ _ | show wpAny _ _ (pyIter _) _ _ _ | show wpAny _ _ (exec (Stmt.While _ _ _ _) _) _ _ _)); first | (k_unfold; (try dsimp only)) | (k_end; wrow_close) | walk1 | (dsimp only; walk1) | (leave1; walk_say "STEP leave1"; try dsimp only) | fail "no step"))
    (rename IsRange _ _ _ _ _ _ _ _ => rg)
    (with_reducible rename Fr _ _ _ _ => kF)
    (with_reducible rename News _ _ _ _ => kN)
    exact ⟨_, 6, _, _, _, _, _, _, _, rfl, rfl, rg, hrn.1, hrn.2, kF, kN, m, rfl, rfl⟩
  case done =>
    rintro m₁ news₁ h tk ⟨m', rfl, rfl⟩ F' N'
    exact hret _ _ _ F' N'
  case turn =>
    clear F N
    rintro k t m₁ news₁ I oI h tk hk ⟨m', rfl, rfl⟩ hne F N
    (repeat' ((fail_if_success (with_reducible first | show NilAt _ _ _ _ _ _ _ _ _ | show wpAny _ _ (call (Value.builtin "sum") _) _ _ _ | show wpAny _ _ (call (Value.ref 273) _) _ _ _ | show wpAny _ _ (call (Value.ref 266) _) _ _ _ | show wpAny _ _ (call (Value.ref 261) _) _ _ _ | show wpAny _ _ (call (Value.ref 254) _) _ _ _ | show wpAny _ _ (call (Value.ref 249) _) _ _ _ | show wpAny _ _ (call (Value.ref 235) _) _ _ _ | show wpAny _ _ (call (Value.ref 238) _) _ _ _ | show wpAny _ _ (call (Value.ref 80) _) _ _ _ | show wpAny _ _ (execs (Stmt.Assign [Expr.Name (Str.ofString "word") _] _ _ :: _) _) _ _ _ | show RngEnd _ _ _ _ _ _ _ _ _ | show RngAt _ _ _ _ _ _ _ _ | show EndQ _ _ _ | show Exit1 _ _ _ _ _ _ _ _ _ | show Turn1 _ _ _ _ _ _ _ _ _ | show TurnN _ _ _ _ _ _ _ _ _ | show wpAny _ _ (pyIter _) _ _ _ | show wpAny _ _ (exec (Stmt.While _ _ _ _) _) _ _ _)); first | (k_unfold; (try dsimp only)) | (k_end; wrow_close) | walk1 | (dsimp only; walk1) | (leave1; walk_say "STEP leave1"; try dsimp only) | fail "no step"))
    (with_reducible rename Fr _ _ _ _ => kF)
    (with_reducible rename News _ _ _ _ => kN)
    have hI1 : le ≠ I := hne (le, _) (.tail _ (.head _))
    have hI2 : @Ne Nat (L + 1) I := hne (L + 1, _) (.head _)
    have kN2 := nrot kN
    refine lawJ_c (es := es) (i := i) (j := (if i > 0 then i else 0) + 1 + (k : Int)) (ti := ti) B X T kN2 hoi hie hel (fr_frm [(Str.ofString "one", .int one t1), (Str.ofString "two", .int two t2), (Str.ofString "first", .str ⟨#[c0, c1, c2]⟩ t3), (Str.ofString "second", .str ⟨#[d0, d1, d2]⟩ t4), (Str.ofString "ends", .ref le), (Str.ofString "j", .int ((if i > 0 then i else 0) + 1 + (k : Int)) t)] kF ⟨rfl, rfl, rfl, rfl, rfl, rfl, trivial⟩) hi1 hi2 (by omega) (by omega) (by omega) hle ?n1 ?n2 (hask _ (by omega) (by omega) (by omega)) ?_
    case n1 => intro p hp; rcases List.mem_cons.1 hp with rfl | hp; exact Ne.symm hI1; exact hnl p hp
    case n2 => intro p hp; rcases List.mem_cons.1 hp with rfl | hp; exact Ne.symm hI2; exact hnc p hp
    intro h9 tk9 m9 F9 N9
    exact rngEnd_next (Q := EndQ Q) ⟨m9, rfl, rfl⟩ hne F9 (nrotB N9)
end
end Mine
end

section
open PySem PySem.W PySem.Spec PySem.Calls PyProof.Rows
set_option Elab.async false
set_option maxRecDepth 100000
set_option maxHeartbeats 0
set_option pp.deepTerms false
set_option pp.maxSteps 2000
namespace Mine
section
variable {w : World} {mean : ExcName → Option Value} {mg mb : SMap} {dp un : Nat} {gd : Option (List Code)} {cn : PySem.Str} {cs : Scope} {a₀ : Addr} {ccd : Value} {cl : List (PySem.Str × Addr)} {outer outer1 : List Env} {base g : Heap} {L L₀ : Addr} {m : SMap} {news : List (Addr × Obj)} {s : Shared} {Q : Flow → Shared → Prop}

theorem rng5 : Builtin.Range.small (-2) 3 1 = true ∧ Builtin.Range.rangeSize (-2) 3 1 = ((5 : Nat) : Int) := ⟨by decide, by decide⟩
theorem lawD_c {fa : Addr} {cd : Value} {one two : Int} {t1 t2 t3 t4  : Tok} {oi : Obj} {ea eb : Addr} {c0 c1 c2 d0 d1 d2 : Nat} {le : Addr} {ve : List Value} {ke : Nat} {es : List Int}  (B : Below callerA g [] g) (X : (hd01.heap_1 w.params).In g) (T : Top VV LL mean mg mb g)
   (N : News g L s.heap [(L + 1, oi), (le, listOf ve.toArray ke), (244, lexT ea eb)]) (hoi : ∃ vv, oi.data = .cell vv) (hie : IntsAre ve es) (hel : es.length = 12) (hle : @Ne Nat le (L + 1)) (hl4 : @Ne Nat 244 le) (hc4 : @Ne Nat 244 (L + 1))
   (F : Fr g L s.heap (frm [(Str.ofString "one", .int one t1), (Str.ofString "two", .int two t2), (Str.ofString "first", .str ⟨#[c0, c1, c2]⟩ t3), (Str.ofString "second", .str ⟨#[d0, d1, d2]⟩ t4), (Str.ofString "ends", .ref le)] m))
   (hask : ∀ i j : Int, -2 ≤ i → i ≤ 2 → 1 ≤ j → j ≤ 5 → i + 1 ≤ j → askF ⟨#[c0, c1, c2]⟩ ⟨#[d0, d1, d2]⟩ es ((one + two).fdiv 432) i j)
   (hret : ∀ (h' : Heap) (tk' : Nat) (m' : SMap) (a b : Addr), Fr g L h' m' → News g L h' [(244, lexT a b)] → Q (.ret (.bool true)) { s with heap := h', toks := tk' }) :
    wpAny (model PP w) (callerA.deeper (lawEnv w fa cd L)) (execs (lawD w) (lawEnv w fa cd L)) (EndQ Q) (fun _ _ => False) s := by
  conv => arg 3; arg 1; whnf
  simp only [lawEnv]
  generalize hsc : fnScope (hd01.heap_1 w.params) 278 = sc
  conv at hsc => lhs; whnf
  subst hsc
  (repeat' ((fail_if_success (with_reducible first | show NilAt _ _ _ _ _ _ _ _ _ | show wpAny _ _ (call (Value.builtin "sum") _) _ _ _ | show wpAny _ _ (call (Value.ref 273) _) _ _ _ | show wpAny _ _ (call (Value.ref 266) _) _ _ _ | show wpAny _ _ (call (Value.ref 261) _) _ _ _ | show wpAny _ _ (call (Value.ref 254) _) _ _ _ | show wpAny _ _ (call (Value.ref 249) _) _ _ _ | show wpAny _ _ (call (Value.ref 235) _) _ _ _ | show wpAny _ _ (call (Value.ref 238) _) _ _ _ | show wpAny _ _ (call (Value.ref 80) _) _ _ _ | show wpAny _ _ (exec (Stmt.For (Expr.Name (Str.ofString "i") _) _ _ _ _) _) _ _ _ | show RngEnd _ _ _ _ _ _ _ _ _ | show RngAt _ _ _ _ _ _ _ _ | show wpAny _ _ (exec (Stmt.For (Expr.Name (Str.ofString "j") _) _ _ _ _) _) _ _ _ | show EndQ _ _ _ | show Exit1 _ _ _ _ _ _ _ _ _ | show Turn1 _ _ _ _ _ _ _ _ _ | show TurnN _ _ _ _ _ _ _ _ _ | show wpAny _ _ (pyIter _) _ _ _ | show wpAny _ _ (exec (Stmt.While _ _ _ _) _) _ _ _)); first | (k_unfold; (try dsimp only)) | (k_end; wrow_close) | walk1 | (dsimp only; walk1) | (leave1; walk_say "STEP leave1"; try dsimp only) | fail "no step"))
  (with_reducible rename Fr _ _ _ _ => kF)
  (with_reducible rename News _ _ _ _ => kN)
  refine For_rng (h₀ := g) (L := L) 5 (-2) (fun k m₁ news₁ => ∃ m' oi, m₁ = frm [(Str.ofString "one", .int one t1), (Str.ofString "two", .int two t2), (Str.ofString "first", .str ⟨#[c0, c1, c2]⟩ t3), (Str.ofString "second", .str ⟨#[d0, d1, d2]⟩ t4), (Str.ofString "ends", .ref le)] m' ∧ news₁ = [(L + 1, oi), (le, listOf ve.toArray ke), (244, lexT ea eb)] ∧ ∃ vv, oi.data = .cell vv) rfl ?ev ?turn ?done
  case ev =>
    (repeat' ((fail_if_success (with_reducible first | show NilAt _ _ _ _ _ _ _ _ _ | show wpAny _ _ (call (Value.builtin "sum") _) _ _ _ | show wpAny _ _ (call (Value.ref 273) _) _ _ _ | show wpAny _ _ (call (Value.ref 266) _) _ _ _ | show wpAny _ _ (call (Value.ref 261) _) _ _ _ | show wpAny _ _ (call (Value.ref 254) _) _ _ _ | show wpAny _ _ (call (Value.ref 249) _) _ _ _ | show wpAny _ _ (call (Value.ref 235) _) _ _ _ | show wpAny _ _ (call (Value.ref 238) _) _ _ _ | show wpAny _ _ (call (Value.ref 80) _) _ _ _ | show wpAny _ _ (exec (Stmt.For (Expr.Name (Str.ofString "i") _) _ _ _ _) _) _ _ _ | show RngEnd _ _ _ _ _ _ _ _ _ | show RngAt _ _ _ _ _ _ _ _ | show wpAny _ _ (exec (Stmt.For (Expr.Name (Str.ofString "j") _) _ _ _ _) _) _ _ _ | show EndQ _ _ _ | show Exit1 _ _ _ _ _ _ _ _ _ | show Turn1 _ _ _ _ _ _ _ _ _ | show TurnN _ _ _ _ _ _ _ _ _ | show wpAny _ _ (pyIter _) _ _ _ | show wpAny _ _ (exec (Stmt.While _ _ _ _) _) _ _ _)); first | (k_unfold; (try dsimp only)) | (k_end; wrow_close) | walk1 | (dsimp only; walk1) | (leave1; walk_say "STEP leave1"; try dsimp only) | fail "no step"))
    (rename IsRange _ _ _ _ _ _ _ _ => rg)
    (with_reducible rename Fr _ _ _ _ => kF)
    (with_reducible rename News _ _ _ _ => kN)
    exact ⟨_, 3, _, _, _, _, _, _, _, rfl, rfl, rg, rng5.1, rng5.2, kF, kN, m, oi, rfl, rfl, hoi⟩
  case done =>
    clear kF kN
    rintro m₁ news₁ h tk ⟨m', oi, rfl, rfl, hoi⟩ F' N'
    dsimp only
    (repeat' ((fail_if_success (with_reducible first | show NilAt _ _ _ _ _ _ _ _ _ | show wpAny _ _ (call (Value.builtin "sum") _) _ _ _ | show wpAny _ _ (call (Value.ref 273) _) _ _ _ | show wpAny _ _ (call (Value.ref 266) _) _ _ _ | show wpAny _ _ (call (Value.ref 261) _) _ _ _ | show wpAny _ _ (call (Value.ref 254) _) _ _ _ | show wpAny _ _ (call (Value.ref 249) _) _ _ _ | show wpAny _ _ (call (Value.ref 235) _) _ _ _ | show wpAny _ _ (call (Value.ref 238) _) _ _ _ | show wpAny _ _ (call (Value.ref 80) _) _ _ _ | show wpAny _ _ (exec (Stmt.For (Expr.Name (Str.ofString "i") _) _ _ _ _) _) _ _ _ | show RngEnd _ _ _ _ _ _ _ _ _ | show RngAt _ _ _ _ _ _ _ _ | show wpAny _ _ (exec (Stmt.For (Expr.Name (Str.ofString "j") _) _ _ _ _) _) _ _ _ | show EndQ _ _ _ | show Exit1 _ _ _ _ _ _ _ _ _ | show Turn1 _ _ _ _ _ _ _ _ _ | show TurnN _ _ _ _ _ _ _ _ _ | show wpAny _ _ (pyIter _) _ _ _ | show wpAny _ _ (exec (Stmt.While _ _ _ _) _) _ _ _)); first | (k_unfold; (try dsimp only)) | (k_end; wrow_close) | walk1 | (dsimp only; walk1) | (leave1; walk_say "STEP leave1"; try dsimp only) | fail "no step"))
    (with_reducible rename Fr _ _ _ _ => kF)
    (with_reducible rename News _ _ _ _ => kN)
    exact hret _ _ _ ea eb kF (fun p hp => kN p (.tail _ (.tail _ hp)))
  case turn =>
    clear kF kN
    rintro k t m₁ news₁ I oI h tk hk ⟨m', oi, rfl, rfl, vv, hoi⟩ hne F N
    have hI1 : le ≠ I := hne (le, _) (.tail _ (.head _))
    have hI2 : @Ne Nat (L + 1) I := hne (L + 1, _) (.head _)
    have hI3 : @Ne Nat 244 I := hne (244, _) (.tail _ (.tail _ (.head _)))
    (repeat' ((fail_if_success (with_reducible first | show NilAt _ _ _ _ _ _ _ _ _ | show wpAny _ _ (call (Value.builtin "sum") _) _ _ _ | show wpAny _ _ (call (Value.ref 273) _) _ _ _ | show wpAny _ _ (call (Value.ref 266) _) _ _ _ | show wpAny _ _ (call (Value.ref 261) _) _ _ _ | show wpAny _ _ (call (Value.ref 254) _) _ _ _ | show wpAny _ _ (call (Value.ref 249) _) _ _ _ | show wpAny _ _ (call (Value.ref 235) _) _ _ _ | show wpAny _ _ (call (Value.ref 238) _) _ _ _ | show wpAny _ _ (call (Value.ref 80) _) _ _ _ | show wpAny _ _ (exec (Stmt.For (Expr.Name (Str.ofString "i") _) _ _ _ _) _) _ _ _ | show RngEnd _ _ _ _ _ _ _ _ _ | show RngAt _ _ _ _ _ _ _ _ | show wpAny _ _ (exec (Stmt.For (Expr.Name (Str.ofString "j") _) _ _ _ _) _) _ _ _ | show EndQ _ _ _ | show Exit1 _ _ _ _ _ _ _ _ _ | show Turn1 _ _ _ _ _ _ _ _ _ | show TurnN _ _ _ _ _ _ _ _ _ | show wpAny _ _ (pyIter _) _ _ _ | show wpAny _ _ (exec (Stmt.While _ _ _ _) _) _ _ _)); first | (k_unfold; (try dsimp only)) | (k_end; wrow_close) | walk1 | (dsimp only; walk1) | (leave1; walk_say "STEP leave1"; try dsimp only) | fail "no step"))
    (with_reducible rename Fr _ _ _ _ => kF)
    (with_reducible rename News _ _ _ _ => kN)
    have kN2 := nrot kN
    refine lawFj_c (es := es) (i := -2 + (k : Int)) (ti := t) B X T kN2 (by assumption) hie hel (fr_frm [(Str.ofString "one", .int one t1), (Str.ofString "two", .int two t2), (Str.ofString "first", .str ⟨#[c0, c1, c2]⟩ t3), (Str.ofString "second", .str ⟨#[d0, d1, d2]⟩ t4), (Str.ofString "ends", .ref le)] kF ⟨rfl, rfl, rfl, rfl, rfl, trivial⟩) (by omega) (by omega) hle ?n1 ?n2 (fun j h1 h2 h3 => hask _ j (by omega) (by omega) h1 h2 h3) ?_
    case n1 => intro p hp; rcases List.mem_cons.1 hp with rfl | hp; exact Ne.symm hI1; rcases List.mem_singleton.1 hp with rfl; exact hl4
    case n2 => intro p hp; rcases List.mem_cons.1 hp with rfl | hp; exact Ne.symm hI2; rcases List.mem_singleton.1 hp with rfl; exact hc4
    clear kF kN kN2
    intro h9 tk9 m9 F9 N9
    dsimp only
    (repeat' ((fail_if_success (with_reducible first | show NilAt _ _ _ _ _ _ _ _ _ | show wpAny _ _ (call (Value.builtin "sum") _) _ _ _ | show wpAny _ _ (call (Value.ref 273) _) _ _ _ | show wpAny _ _ (call (Value.ref 266) _) _ _ _ | show wpAny _ _ (call (Value.ref 261) _) _ _ _ | show wpAny _ _ (call (Value.ref 254) _) _ _ _ | show wpAny _ _ (call (Value.ref 249) _) _ _ _ | show wpAny _ _ (call (Value.ref 235) _) _ _ _ | show wpAny _ _ (call (Value.ref 238) _) _ _ _ | show wpAny _ _ (call (Value.ref 80) _) _ _ _ | show wpAny _ _ (exec (Stmt.For (Expr.Name (Str.ofString "i") _) _ _ _ _) _) _ _ _ | show RngEnd _ _ _ _ _ _ _ _ _ | show RngAt _ _ _ _ _ _ _ _ | show wpAny _ _ (exec (Stmt.For (Expr.Name (Str.ofString "j") _) _ _ _ _) _) _ _ _ | show EndQ _ _ _ | show Exit1 _ _ _ _ _ _ _ _ _ | show Turn1 _ _ _ _ _ _ _ _ _ | show TurnN _ _ _ _ _ _ _ _ _ | show wpAny _ _ (pyIter _) _ _ _ | show wpAny _ _ (exec (Stmt.While _ _ _ _) _) _ _ _)); first | (k_unfold; (try dsimp only)) | (k_end; wrow_close) | walk1 | (dsimp only; walk1) | (leave1; walk_say "STEP leave1"; try dsimp only) | fail "no step"))
    refine rngEnd_next ⟨m9, _, rfl, rfl, _, by assumption⟩ ?_ F9 (nrotB N9)
    intro p hp
    rcases List.mem_cons.1 hp with rfl | hp
    · exact hI2
    rcases List.mem_cons.1 hp with rfl | hp
    · exact hI1
    rcases List.mem_singleton.1 hp with rfl
    exact hI3
end
end Mine
end

section
open PySem PySem.W PySem.Spec PySem.Calls PyProof.Rows
set_option Elab.async false
set_option maxRecDepth 100000
set_option maxHeartbeats 0
set_option pp.deepTerms false
set_option pp.maxSteps 2000
namespace Mine
section
variable {w : World} {mean : ExcName → Option Value} {mg mb : SMap} {dp un : Nat} {gd : Option (List Code)} {cn : PySem.Str} {cs : Scope} {a₀ : Addr} {ccd : Value} {cl : List (PySem.Str × Addr)} {outer outer1 : List Env} {base g : Heap} {L L₀ : Addr} {m : SMap} {news : List (Addr × Obj)} {s : Shared} {Q : Flow → Shared → Prop}
theorem lawC_c {fa : Addr} {cd : Value} {one two : Int} {t1 t2 t3 t4 t5 t6 : Tok} {oi : Obj} {c0 c1 c2 d0 d1 d2 : Nat} {TL : List Nat} {Y : LexA} {ln : Int} {tl : Tok} {lvs : List Value} {lk : Nat} {x dx hl a0 a1 a2 : Addr} {u0 u1 u2 w0 w1 w2 : Tok} {k : Nat} (B : Below callerA g [] g) (X : (hd01.heap_1 w.params).In g) (T : Top VV LL mean mg mb g) (hC : CodeHd g 248 244) (h244 : @LT.lt Nat _ 244 L)
   (N : News g L s.heap ((hl, listOf #[.ref a0, .ref a1, .ref a2] k) :: (x, instObj 238 dx) :: (dx, dictOf [⟨PyData.keyHash w.params (Str.ofString "_headers"), .str (Str.ofString "_headers") t6, .ref hl⟩] 1) :: (a0, { cls := .type "tuple", data := .seq #[.str ⟨#[d0]⟩ u0, .str (Str.ofString "0") w0] }) :: (a1, { cls := .type "tuple", data := .seq #[.str ⟨#[d1]⟩ u1, .str (Str.ofString "1") w1] }) :: (a2, { cls := .type "tuple", data := .seq #[.str ⟨#[d2]⟩ u2, .str (Str.ofString "2") w2] }) :: (lexE w Y ln tl [] 0 lvs lk ++ [(244, lexT Y.crd Y.cfd), (L + 1, oi)]))) (hoi : ∃ vv, oi.data = .cell vv)
   (F : Fr g L s.heap (frm [(Str.ofString "one", .int one t1), (Str.ofString "two", .int two t2), (Str.ofString "first", .str ⟨#[c0, c1, c2]⟩ t3), (Str.ofString "second", .str ⟨#[d0, d1, d2]⟩ t4), (Str.ofString "text", .str (S TL) t5), (Str.ofString "line", .ref Y.x), (Str.ofString "table", .ref x)] m)) (hY : LexOk Y) (hS : StrsAre lvs (chs [101, 110, 100])) (hln : LnOk (1 + nlc TL) ln [101, 110, 100])
   (m0 : c0 ∈ six) (m1 : c1 ∈ six) (m2 : c2 ∈ six) (p0 : d0 ∈ six) (p1 : d1 ∈ six) (p2 : d2 ∈ six) (hLc : @LT.lt Nat _ (L + 1) Y.cell) (hpd : @LT.lt Nat _ Y.pb dx) (h12 : @LT.lt Nat _ dx x) (h23 : @LT.lt Nat _ x hl) (hTL : TL.length ≤ 100)
   (l0 : @LT.lt Nat _ hl a0) (l1 : @LT.lt Nat _ hl a1) (l2 : @LT.lt Nat _ hl a2)
   (hret : ∀ (h' : Heap) (tk' : Nat) (m' : SMap) (a b : Addr), Fr g L h' m' → News g L h' [(244, lexT a b)] → Q (.ret (.bool true)) { s with heap := h', toks := tk' }) :
    wpAny (model PP w) (callerA.deeper (lawEnv w fa cd L)) (execs (lawC w) (lawEnv w fa cd L)) (EndQ Q) (fun _ _ => False) s := by
  obtain ⟨ord1, ord2, ord3, ord4, ord5, ord6, ord7⟩ := hY.ord
  obtain ⟨y1, y2, y3⟩ : (∀ p ∈ [(244, lexT Y.crd Y.cfd), (L + 1, oi)], p.1 ≠ Y.pb) ∧ (∀ p ∈ [(244, lexT Y.crd Y.cfd), (L + 1, oi)], p.1 ≠ Y.dx) ∧ (∀ p ∈ [(244, lexT Y.crd Y.cfd), (L + 1, oi)], p.1 ≠ Y.lf) := by
    refine ⟨?_, ?_, ?_⟩ <;> intro p hp <;> rcases List.mem_cons.1 hp with rfl | hp
    · show @Ne Nat 244 _; omega
    · rcases List.mem_singleton.1 hp with rfl; show @Ne Nat (L + 1) _; omega
    · show @Ne Nat 244 _; omega
    · rcases List.mem_singleton.1 hp with rfl; show @Ne Nat (L + 1) _; omega
    · show @Ne Nat 244 _; omega
    · rcases List.mem_singleton.1 hp with rfl; show @Ne Nat (L + 1) _; omega
  conv => arg 3; arg 1; whnf
  simp only [lawEnv]
  generalize hsc : fnScope (hd01.heap_1 w.params) 278 = sc
  conv at hsc => lhs; whnf
  subst hsc
  (repeat' ((fail_if_success (with_reducible first | show NilAt _ _ _ _ _ _ _ _ _ | show wpAny _ _ (execs (Stmt.For (Expr.Name (Str.ofString "i") _) _ _ _ _ :: _) _) _ _ _ | show wpAny _ _ (call (Value.builtin "sum") _) _ _ _ | show wpAny _ _ (call (Value.ref 273) _) _ _ _ | show wpAny _ _ (call (Value.ref 266) _) _ _ _ | show wpAny _ _ (call (Value.ref 261) _) _ _ _ | show wpAny _ _ (call (Value.ref 254) _) _ _ _ | show wpAny _ _ (call (Value.ref 249) _) _ _ _ | show wpAny _ _ (call (Value.ref 235) _) _ _ _ | show wpAny _ _ (call (Value.ref 238) _) _ _ _ | show wpAny _ _ (call (Value.ref 80) _) _ _ _ | show EndQ _ _ _ | show Exit1 _ _ _ _ _ _ _ _ _ | show Turn1 _ _ _ _ _ _ _ _ _ | show TurnN _ _ _ _ _ _ _ _ _ | show wpAny _ _ (pyIter _) _ _ _ | show wpAny _ _ (exec (Stmt.While _ _ _ _) _) _ _ _)); first | (k_unfold; (try dsimp only)) | (k_end; wrow_close) | walk1 | (dsimp only; walk1) | (leave1; walk_say "STEP leave1"; try dsimp only) | fail "no step"))
  (with_reducible rename Fr _ _ _ _ => kF)
  (with_reducible rename News _ _ _ _ => kN)
  refine' br_c (Y := Y) (xs := chs [101, 110, 100]) ?B kF ?X kN ?T ?hk hC hY y1 y2 y3 rfl ?hd ?hu ⟨show @Ne Nat _ _ by omega, show @Ne Nat _ _ by omega, show @Ne Nat _ _ by omega⟩ ⟨show @Ne Nat _ _ by omega, show @Ne Nat _ _ by omega, show @Ne Nat _ _ by omega⟩ ⟨show @Ne Nat _ _ by omega, show @Ne Nat _ _ by omega, show @Ne Nat _ _ by omega⟩ ⟨show @Ne Nat _ _ by omega, show @Ne Nat _ _ by omega, show @Ne Nat _ _ by omega⟩ ⟨show @Ne Nat _ _ by omega, show @Ne Nat _ _ by omega, show @Ne Nat _ _ by omega⟩ ⟨show @Ne Nat _ _ by omega, show @Ne Nat _ _ by omega, show @Ne Nat _ _ by omega⟩ (w3 (P := fun z => reNo (patCode w 103) (Txt.lower (Txt.upper z)) = true) (reUp w m0) (reUp w m1) (reUp w m2)) (w3 (P := fun z => z.length = 1) rfl rfl rfl) (w3 (P := fun z => (Txt.upper z).length ≤ 1000) (up_len m0) (up_len m1) (up_len m2)) (Nat.le_of_ble_eq_true rfl) (Nat.le_of_ble_eq_true rfl) (Nat.le_of_ble_eq_true rfl) hS ?_
  case B => exact B
  case X => exact X
  case T => exact T
  case hk => exact rfl
  case hd => ktr_room
  case hu => ktr_units
  clear kF kN
  intro le ve ke pk he tke ne1 ne2 ne3 hie Fe Ne
  (repeat' ((fail_if_success (with_reducible first | show NilAt _ _ _ _ _ _ _ _ _ | show wpAny _ _ (execs (Stmt.For (Expr.Name (Str.ofString "i") _) _ _ _ _ :: _) _) _ _ _ | show wpAny _ _ (call (Value.builtin "sum") _) _ _ _ | show wpAny _ _ (call (Value.ref 273) _) _ _ _ | show wpAny _ _ (call (Value.ref 266) _) _ _ _ | show wpAny _ _ (call (Value.ref 261) _) _ _ _ | show wpAny _ _ (call (Value.ref 254) _) _ _ _ | show wpAny _ _ (call (Value.ref 249) _) _ _ _ | show wpAny _ _ (call (Value.ref 235) _) _ _ _ | show wpAny _ _ (call (Value.ref 238) _) _ _ _ | show wpAny _ _ (call (Value.ref 80) _) _ _ _ | show EndQ _ _ _ | show Exit1 _ _ _ _ _ _ _ _ _ | show Turn1 _ _ _ _ _ _ _ _ _ | show TurnN _ _ _ _ _ _ _ _ _ | show wpAny _ _ (pyIter _) _ _ _ | show wpAny _ _ (exec (Stmt.While _ _ _ _) _) _ _ _)); first | (k_unfold; (try dsimp only)) | (k_end; wrow_close) | walk1 | (dsimp only; walk1) | (leave1; walk_say "STEP leave1"; try dsimp only) | fail "no step"))
  (with_reducible rename Fr _ _ _ _ => kF)
  (with_reducible rename News _ _ _ _ => kN)
  refine' gt0_c (Y := Y) (l := [101, 110, 100]) ?B kF ?X (n7_to kN) ?T ?hk hC hY (off7 ne1 (by omega) (by omega) (by omega) (by omega) (by omega) (by omega) y1) (off7 ne2 (by omega) (by omega) (by omega) (by omega) (by omega) (by omega) y2) (off7 ne3 (by omega) (by omega) (by omega) (by omega) (by omega) (by omega) y3) hS (by decide) hln ?hd ?hu ?_
  case B => exact B
  case X => exact X
  case T => exact T
  case hk => exact rfl
  case hd => ktr_room
  case hu => ktr_units
  clear kF kN
  intro ln2 tl2 lvs2 lk2 t9 h9 tk9 hln2 hS2 F9 N9
  rw [lex_end] at hln2 hS2 ⊢
  dsimp only at hln2 hS2 ⊢
  replace N9 := n7_back N9
  (repeat' ((fail_if_success (with_reducible first | show NilAt _ _ _ _ _ _ _ _ _ | show wpAny _ _ (execs (Stmt.For (Expr.Name (Str.ofString "i") _) _ _ _ _ :: _) _) _ _ _ | show wpAny _ _ (call (Value.builtin "sum") _) _ _ _ | show wpAny _ _ (call (Value.ref 273) _) _ _ _ | show wpAny _ _ (call (Value.ref 266) _) _ _ _ | show wpAny _ _ (call (Value.ref 261) _) _ _ _ | show wpAny _ _ (call (Value.ref 254) _) _ _ _ | show wpAny _ _ (call (Value.ref 249) _) _ _ _ | show wpAny _ _ (call (Value.ref 235) _) _ _ _ | show wpAny _ _ (call (Value.ref 238) _) _ _ _ | show wpAny _ _ (call (Value.ref 80) _) _ _ _ | show EndQ _ _ _ | show Exit1 _ _ _ _ _ _ _ _ _ | show Turn1 _ _ _ _ _ _ _ _ _ | show TurnN _ _ _ _ _ _ _ _ _ | show wpAny _ _ (pyIter _) _ _ _ | show wpAny _ _ (exec (Stmt.While _ _ _ _) _) _ _ _)); first | (k_unfold; (try dsimp only)) | (k_end; wrow_close) | walk1 | (dsimp only; walk1) | (leave1; walk_say "STEP leave1"; try dsimp only) | fail "no step"))
  · exfalso
    have q := hln2.eq
    have z : nlc [] = 0 := rfl
    have hno : ¬ ln2 = 1 + Txt.count (S TL) (Str.ofString "\n") := by assumption
    rw [count_nl] at hno
    omega
  · dsimp only
    (with_reducible rename Fr _ _ _ _ => kF)
    (with_reducible rename News _ _ _ _ => kN)
    have kN2 : News _ _ _ [(L + 1, oi), (le, listOf ve.toArray ke), (244, lexT Y.crd Y.cfd)] := news_sub kN (by
      intro p hp
      rcases List.mem_cons.1 hp with rfl | hp
      · exact .tail _ (.tail _ (.tail _ (.tail _ (.tail _ (.tail _ (.tail _ (List.mem_append_right _ (.tail _ (.head _)))))))))
      rcases List.mem_cons.1 hp with rfl | hp
      · exact .head _
      rcases List.mem_singleton.1 hp with rfl
      exact .tail _ (.tail _ (.tail _ (.tail _ (.tail _ (.tail _ (.tail _ (List.mem_append_right _ (.head _)))))))))
    have kG := fr_frm [(Str.ofString "one", .int one _), (Str.ofString "two", .int two _), (Str.ofString "first", .str ⟨#[c0, c1, c2]⟩ _), (Str.ofString "second", .str ⟨#[d0, d1, d2]⟩ _), (Str.ofString "ends", .ref le)] kF ⟨rfl, rfl, rfl, rfl, rfl, trivial⟩
    refine lawD_c (es := endsF ⟨#[d0]⟩ ⟨#[d1]⟩ ⟨#[d2]⟩ ⟨#[c0, c1, c2]⟩) (ea := Y.crd) (eb := Y.cfd) B X T kN2 hoi hie (ends_len _ _ _ _) ?e1 ?e2 (show @Ne Nat 244 (L + 1) by omega) kG (ask_all m0 m1 m2 p0 p1 p2 _) ?_
    case e1 => exact ne_of_obj kN2 (.tail _ (.head _)) (.head _) (by intro e; obtain ⟨vv, hv⟩ := hoi; rw [← e] at hv; cases hv)
    case e2 => exact ne_of_obj kN2 (.tail _ (.tail _ (.head _))) (.tail _ (.head _)) (by intro e; have e2 := congrArg Obj.data e; cases e2)
    intro h9 tk9 m9 a b F9 N9
    exact hret _ _ _ a b F9 N9
end
end Mine
end

section
open PySem PySem.W PySem.Spec PySem.Calls PyProof.Rows
set_option Elab.async false
set_option maxRecDepth 100000
set_option maxHeartbeats 0
set_option pp.deepTerms false
set_option pp.maxSteps 2000
namespace Mine
section
variable {w : World} {mean : ExcName → Option Value} {mg mb : SMap} {dp un : Nat} {gd : Option (List Code)} {cn : PySem.Str} {cs : Scope} {a₀ : Addr} {ccd : Value} {cl : List (PySem.Str × Addr)} {outer outer1 : List Env} {base g : Heap} {L L₀ : Addr} {m : SMap} {news : List (Addr × Obj)} {s : Shared} {Q : Flow → Shared → Prop}
theorem lawB_c {fa : Addr} {cd : Value} {one two : Int} {t1 t2 t3 t4 t5 t6 : Tok} {oi : Obj} {c0 c1 c2 d0 d1 d2 : Nat} {TL : List Nat} {Y : LexA} {ln : Int} {tl : Tok} {lvs : List Value} {lk : Nat} {x dx hl : Addr} (B : Below callerA g [] g) (X : (hd01.heap_1 w.params).In g) (T : Top VV LL mean mg mb g) (hC : CodeHd g 248 244) (h244 : @LT.lt Nat _ 244 L)
   (N : News g L s.heap ((hl, listOf #[] 0) :: (x, instObj 238 dx) :: (dx, dictOf [⟨PyData.keyHash w.params (Str.ofString "_headers"), .str (Str.ofString "_headers") t6, .ref hl⟩] 1) :: (lexE w Y ln tl [] 0 lvs lk ++ [(244, lexT Y.crd Y.cfd), (L + 1, oi)]))) (hoi : ∃ vv, oi.data = .cell vv)
   (F : Fr g L s.heap (frm [(Str.ofString "one", .int one t1), (Str.ofString "two", .int two t2), (Str.ofString "first", .str ⟨#[c0, c1, c2]⟩ t3), (Str.ofString "second", .str ⟨#[d0, d1, d2]⟩ t4), (Str.ofString "text", .str (S TL) t5), (Str.ofString "line", .ref Y.x), (Str.ofString "table", .ref x)] m)) (hY : LexOk Y) (hS : StrsAre lvs (chs [101, 110, 100])) (hln : LnOk (1 + nlc TL) ln [101, 110, 100])
   (m0 : c0 ∈ six) (m1 : c1 ∈ six) (m2 : c2 ∈ six) (p0 : d0 ∈ six) (p1 : d1 ∈ six) (p2 : d2 ∈ six) (hLc : @LT.lt Nat _ (L + 1) Y.cell) (hpd : @LT.lt Nat _ Y.pb dx) (h12 : @LT.lt Nat _ dx x) (h23 : @LT.lt Nat _ x hl) (hTL : TL.length ≤ 100)
   (hret : ∀ (h' : Heap) (tk' : Nat) (m' : SMap) (a b : Addr), Fr g L h' m' → News g L h' [(244, lexT a b)] → Q (.ret (.bool true)) { s with heap := h', toks := tk' }) :
    wpAny (model PP w) (callerA.deeper (lawEnv w fa cd L)) (execs (lawB w) (lawEnv w fa cd L)) (EndQ Q) (fun _ _ => False) s := by
  obtain ⟨ord1, ord2, ord3, ord4, ord5, ord6, ord7⟩ := hY.ord
  obtain ⟨cr1, cr2, cr3, cr4⟩ := hY.cr
  have hoffl : ∀ p ∈ lexE w Y ln tl [] 0 lvs lk ++ [(244, lexT Y.crd Y.cfd), (L + 1, oi)], p.1 ≠ hl := by
    intro p hp; simp only [lexE, List.cons_append, List.nil_append, List.mem_cons, List.not_mem_nil, or_false] at hp; (repeat' (rcases hp with rfl | hp)); all_goals (first | (show @Ne Nat _ _; omega) | (subst hp; show @Ne Nat _ _; omega))
  conv => arg 3; arg 1; whnf
  simp only [lawEnv]
  generalize hsc : fnScope (hd01.heap_1 w.params) 278 = sc
  conv at hsc => lhs; whnf
  subst hsc
  (repeat' ((fail_if_success (with_reducible first | show NilAt _ _ _ _ _ _ _ _ _ | show wpAny _ _ (call (Value.builtin "sum") _) _ _ _ | show wpAny _ _ (call (Value.ref 273) _) _ _ _ | show wpAny _ _ (call (Value.ref 266) _) _ _ _ | show wpAny _ _ (call (Value.ref 261) _) _ _ _ | show wpAny _ _ (call (Value.ref 254) _) _ _ _ | show wpAny _ _ (call (Value.ref 249) _) _ _ _ | show wpAny _ _ (call (Value.ref 235) _) _ _ _ | show wpAny _ _ (call (Value.ref 238) _) _ _ _ | show wpAny _ _ (call (Value.ref 80) _) _ _ _ | show wpAny _ _ (execs (Stmt.Assign [Expr.Name (Str.ofString "ends") _] _ _ :: _) _) _ _ _ | show EndQ _ _ _ | show Exit1 _ _ _ _ _ _ _ _ _ | show Turn1 _ _ _ _ _ _ _ _ _ | show TurnN _ _ _ _ _ _ _ _ _ | show wpAny _ _ (exec (Stmt.While _ _ _ _) _) _ _ _)); first | (k_unfold; (try dsimp only)) | (k_end; wrow_close) | walk1 | (dsimp only; walk1) | (leave1; walk_say "STEP leave1"; try dsimp only) | fail "no step"))
  (with_reducible rename Fr _ _ _ _ => kF)
  (with_reducible rename News _ _ _ _ => kN)
  (try (rename _ ∧ _ => l1q))
  (try have i1q := l1q.1)
  (try change @LT.lt Nat _ _ _ at i1q)
  refine call_str3 (it3 d0 d1 d2).1 st3.1 ?_
  refine' ah_c (t := t6) (vs := []) ?B kF ?X (n3_1 kN) ?T ?hk (reV w).1 (reNm w p0) ?lv ?lvs h12 h23 ?hn ?hd ?hu ?_
  case B => exact B
  case X => exact X
  case T => exact T
  case hk => exact rfl
  case lv => decide +kernel
  case lvs => simp
  case hn => (intro p hp; (repeat' (first | exact hoffl p hp | (rcases List.mem_cons.1 hp with rfl | hp))); all_goals (show @Ne Nat _ _; omega))
  case hd => ktr_room
  case hu => ktr_units
  clear kF kN
  intro a0 u0 w0 k0 h0 tk0 lt0 al0 F0 N0
  (repeat' ((fail_if_success (with_reducible first | show NilAt _ _ _ _ _ _ _ _ _ | show wpAny _ _ (call (Value.builtin "sum") _) _ _ _ | show wpAny _ _ (call (Value.ref 273) _) _ _ _ | show wpAny _ _ (call (Value.ref 266) _) _ _ _ | show wpAny _ _ (call (Value.ref 261) _) _ _ _ | show wpAny _ _ (call (Value.ref 254) _) _ _ _ | show wpAny _ _ (call (Value.ref 249) _) _ _ _ | show wpAny _ _ (call (Value.ref 235) _) _ _ _ | show wpAny _ _ (call (Value.ref 238) _) _ _ _ | show wpAny _ _ (call (Value.ref 80) _) _ _ _ | show wpAny _ _ (execs (Stmt.Assign [Expr.Name (Str.ofString "ends") _] _ _ :: _) _) _ _ _ | show EndQ _ _ _ | show Exit1 _ _ _ _ _ _ _ _ _ | show Turn1 _ _ _ _ _ _ _ _ _ | show TurnN _ _ _ _ _ _ _ _ _ | show wpAny _ _ (exec (Stmt.While _ _ _ _) _) _ _ _)); first | (k_unfold; (try dsimp only)) | (k_end; wrow_close) | walk1 | (dsimp only; walk1) | (leave1; walk_say "STEP leave1"; try dsimp only) | fail "no step"))
  (with_reducible rename Fr _ _ _ _ => kF)
  (with_reducible rename News _ _ _ _ => kN)
  (try (rename _ ∧ _ => l1q))
  (try have i1q := l1q.1)
  (try change @LT.lt Nat _ _ _ at i1q)
  refine call_str3 (it3 d0 d1 d2).2.1 st3.2.1 ?_
  refine' ah_c (t := t6) (vs := [Value.ref a0]) ?B kF ?X (n3_2 kN) ?T ?hk (reV w).2.1 (reNm w p1) ?lv ?lvs h12 h23 ?hn ?hd ?hu ?_
  case B => exact B
  case X => exact X
  case T => exact T
  case hk => exact rfl
  case lv => decide +kernel
  case lvs => simp
  case hn => (intro p hp; (repeat' (first | exact hoffl p hp | (rcases List.mem_cons.1 hp with rfl | hp))); all_goals (show @Ne Nat _ _; omega))
  case hd => ktr_room
  case hu => ktr_units
  clear kF kN
  intro a1 u1 w1 k1 h1 tk1 lt1 al1 F1 N1
  (repeat' ((fail_if_success (with_reducible first | show NilAt _ _ _ _ _ _ _ _ _ | show wpAny _ _ (call (Value.builtin "sum") _) _ _ _ | show wpAny _ _ (call (Value.ref 273) _) _ _ _ | show wpAny _ _ (call (Value.ref 266) _) _ _ _ | show wpAny _ _ (call (Value.ref 261) _) _ _ _ | show wpAny _ _ (call (Value.ref 254) _) _ _ _ | show wpAny _ _ (call (Value.ref 249) _) _ _ _ | show wpAny _ _ (call (Value.ref 235) _) _ _ _ | show wpAny _ _ (call (Value.ref 238) _) _ _ _ | show wpAny _ _ (call (Value.ref 80) _) _ _ _ | show wpAny _ _ (execs (Stmt.Assign [Expr.Name (Str.ofString "ends") _] _ _ :: _) _) _ _ _ | show EndQ _ _ _ | show Exit1 _ _ _ _ _ _ _ _ _ | show Turn1 _ _ _ _ _ _ _ _ _ | show TurnN _ _ _ _ _ _ _ _ _ | show wpAny _ _ (exec (Stmt.While _ _ _ _) _) _ _ _)); first | (k_unfold; (try dsimp only)) | (k_end; wrow_close) | walk1 | (dsimp only; walk1) | (leave1; walk_say "STEP leave1"; try dsimp only) | fail "no step"))
  (with_reducible rename Fr _ _ _ _ => kF)
  (with_reducible rename News _ _ _ _ => kN)
  (try (rename _ ∧ _ => l1q))
  (try have i1q := l1q.1)
  (try change @LT.lt Nat _ _ _ at i1q)
  refine call_str3 (it3 d0 d1 d2).2.2 st3.2.2 ?_
  refine' ah_c (t := t6) (vs := [Value.ref a0, Value.ref a1]) ?B kF ?X (n3_2 kN) ?T ?hk (reV w).2.2 (reNm w p2) ?lv ?lvs h12 h23 ?hn ?hd ?hu ?_
  case B => exact B
  case X => exact X
  case T => exact T
  case hk => exact rfl
  case lv => decide +kernel
  case lvs => simp
  case hn => (intro p hp; (repeat' (first | exact hoffl p hp | (rcases List.mem_cons.1 hp with rfl | hp))); all_goals (show @Ne Nat _ _; omega))
  case hd => ktr_room
  case hu => ktr_units
  clear kF kN
  intro a2 u2 w2 k2 h2 tk2 lt2 al2 F2 N2
  (repeat' ((fail_if_success (with_reducible first | show NilAt _ _ _ _ _ _ _ _ _ | show wpAny _ _ (call (Value.builtin "sum") _) _ _ _ | show wpAny _ _ (call (Value.ref 273) _) _ _ _ | show wpAny _ _ (call (Value.ref 266) _) _ _ _ | show wpAny _ _ (call (Value.ref 261) _) _ _ _ | show wpAny _ _ (call (Value.ref 254) _) _ _ _ | show wpAny _ _ (call (Value.ref 249) _) _ _ _ | show wpAny _ _ (call (Value.ref 235) _) _ _ _ | show wpAny _ _ (call (Value.ref 238) _) _ _ _ | show wpAny _ _ (call (Value.ref 80) _) _ _ _ | show wpAny _ _ (execs (Stmt.Assign [Expr.Name (Str.ofString "ends") _] _ _ :: _) _) _ _ _ | show EndQ _ _ _ | show Exit1 _ _ _ _ _ _ _ _ _ | show Turn1 _ _ _ _ _ _ _ _ _ | show TurnN _ _ _ _ _ _ _ _ _ | show wpAny _ _ (exec (Stmt.While _ _ _ _) _) _ _ _)); first | (k_unfold; (try dsimp only)) | (k_end; wrow_close) | walk1 | (dsimp only; walk1) | (leave1; walk_say "STEP leave1"; try dsimp only) | fail "no step"))
  (try dsimp only)
  (with_reducible rename Fr _ _ _ _ => kF)
  (with_reducible rename News _ _ _ _ => kN)
  refine lawC_c (t6 := t6) (Y := Y) (a0 := a0) (a1 := a1) (a2 := a2) (hl := hl) (x := x) (dx := dx) (TL := TL) B X T hC h244 (n6p kN) hoi (fr_frm [(Str.ofString "one", .int one t1), (Str.ofString "two", .int two t2), (Str.ofString "first", .str ⟨#[c0, c1, c2]⟩ t3), (Str.ofString "second", .str ⟨#[d0, d1, d2]⟩ t4), (Str.ofString "text", .str (S TL) t5), (Str.ofString "line", .ref Y.x), (Str.ofString "table", .ref x)] kF ⟨rfl, rfl, rfl, rfl, rfl, rfl, rfl, trivial⟩) hY hS hln m0 m1 m2 p0 p1 p2 hLc hpd h12 h23 hTL lt0 lt1 lt2 ?_
  intro h9 tk9 m9 a b F9 N9
  exact hret _ _ _ a b F9 N9
end
end Mine
end

section
open PySem PySem.W PySem.Spec PySem.Calls PyProof.Rows
set_option Elab.async false
set_option maxRecDepth 100000
set_option maxHeartbeats 0
set_option pp.deepTerms false
set_option pp.maxSteps 2000
namespace Mine
section
variable {w : World} {mean : ExcName → Option Value} {mg mb : SMap} {dp un : Nat} {gd : Option (List Code)} {cn : PySem.Str} {cs : Scope} {a₀ : Addr} {ccd : Value} {cl : List (PySem.Str × Addr)} {outer outer1 : List Env} {base g : Heap} {L L₀ : Addr} {m : SMap} {news : List (Addr × Obj)} {s : Shared} {Q : Flow → Shared → Prop}
theorem lawA {fa : Addr} {cd : Value} {one two : Int} {t1 t2 : Tok} {oi : Obj} (B : Below callerA g [] g) (X : (hd01.heap_1 w.params).In g) (T : Top VV LL mean mg mb g) (hC : CodeHd g 248 244) (h244 : 244 < L)
   (N : News g L s.heap [(244, tabObj #[]), (L + 1, oi)]) (hoi : ∃ vv, oi.data = .cell vv)
   (F : Fr g L s.heap (frm [(Str.ofString "one", .int one t1), (Str.ofString "two", .int two t2)] m))
   (hret : ∀ (h' : Heap) (tk' : Nat) (m' : SMap) (a b : Addr), Fr g L h' m' → News g L h' [(244, lexT a b)] → Q (.ret (.bool true)) { s with heap := h', toks := tk' }) :
    wpAny (model PP w) (callerA.deeper (lawEnv w fa cd L)) (execs (lawRest w) (lawEnv w fa cd L)) (EndQ Q) (fun _ _ => False) s := by
  have hL4 : @LT.lt Nat _ 244 L := h244
  conv => arg 3; arg 1; whnf
  simp only [lawEnv]
  generalize hsc : fnScope (hd01.heap_1 w.params) 278 = sc
  conv at hsc => lhs; whnf
  subst hsc
  (repeat' ((fail_if_success (with_reducible first | show NilAt _ _ _ _ _ _ _ _ _ | show wpAny _ _ (call (Value.builtin "sum") _) _ _ _ | show wpAny _ _ (call (Value.ref 273) _) _ _ _ | show wpAny _ _ (call (Value.ref 266) _) _ _ _ | show wpAny _ _ (call (Value.ref 261) _) _ _ _ | show wpAny _ _ (call (Value.ref 254) _) _ _ _ | show wpAny _ _ (call (Value.ref 249) _) _ _ _ | show wpAny _ _ (call (Value.ref 235) _) _ _ _ | show wpAny _ _ (call (Value.ref 238) _) _ _ _ | show wpAny _ _ (call (Value.ref 80) _) _ _ _ | show wpAny _ _ (execs (Stmt.For (Expr.Name (Str.ofString "place") _) _ _ _ _ :: _) _) _ _ _ | show EndQ _ _ _ | show Exit1 _ _ _ _ _ _ _ _ _ | show Turn1 _ _ _ _ _ _ _ _ _ | show TurnN _ _ _ _ _ _ _ _ _ | show wpAny _ _ (pyIter _) _ _ _ | show wpAny _ _ (exec (Stmt.While _ _ _ _) _) _ _ _)); first | (k_unfold; (try dsimp only)) | (k_end; wrow_close) | walk1 | (dsimp only; walk1) | (leave1; walk_say "STEP leave1"; try dsimp only) | fail "no step"))
  (with_reducible rename Fr _ _ _ _ => kF)
  (with_reducible rename News _ _ _ _ => kN)
  refine' lw_c ?B kF ?X kN ?T ?hk  ?hd ?hu ?_
  case B => exact B
  case X => exact X
  case T => exact T
  case hk => exact rfl
  case hd => ktr_room
  case hu => ktr_units
  clear kF kN
  intro t3 h3 tk3 F3 N3
  obtain ⟨c0, c1, c2, m0, m1, m2, ew⟩ := lwF_six one
  rw [ew]
  (repeat' ((fail_if_success (with_reducible first | show NilAt _ _ _ _ _ _ _ _ _ | show wpAny _ _ (call (Value.builtin "sum") _) _ _ _ | show wpAny _ _ (call (Value.ref 273) _) _ _ _ | show wpAny _ _ (call (Value.ref 266) _) _ _ _ | show wpAny _ _ (call (Value.ref 261) _) _ _ _ | show wpAny _ _ (call (Value.ref 254) _) _ _ _ | show wpAny _ _ (call (Value.ref 249) _) _ _ _ | show wpAny _ _ (call (Value.ref 235) _) _ _ _ | show wpAny _ _ (call (Value.ref 238) _) _ _ _ | show wpAny _ _ (call (Value.ref 80) _) _ _ _ | show wpAny _ _ (execs (Stmt.For (Expr.Name (Str.ofString "place") _) _ _ _ _ :: _) _) _ _ _ | show EndQ _ _ _ | show Exit1 _ _ _ _ _ _ _ _ _ | show Turn1 _ _ _ _ _ _ _ _ _ | show TurnN _ _ _ _ _ _ _ _ _ | show wpAny _ _ (pyIter _) _ _ _ | show wpAny _ _ (exec (Stmt.While _ _ _ _) _) _ _ _)); first | (k_unfold; (try dsimp only)) | (k_end; wrow_close) | walk1 | (dsimp only; walk1) | (leave1; walk_say "STEP leave1"; try dsimp only) | fail "no step"))
  (with_reducible rename Fr _ _ _ _ => kF)
  (with_reducible rename News _ _ _ _ => kN)
  refine' lw_c ?B kF ?X kN ?T ?hk  ?hd ?hu ?_
  case B => exact B
  case X => exact X
  case T => exact T
  case hk => exact rfl
  case hd => ktr_room
  case hu => ktr_units
  clear kF kN
  intro t4 h4 tk4 F4 N4
  obtain ⟨d0, d1, d2, p0, p1, p2, ew2⟩ := lwF_six two
  rw [ew2]
  (repeat' ((fail_if_success (with_reducible first | show NilAt _ _ _ _ _ _ _ _ _ | show wpAny _ _ (call (Value.builtin "sum") _) _ _ _ | show wpAny _ _ (call (Value.ref 273) _) _ _ _ | show wpAny _ _ (call (Value.ref 266) _) _ _ _ | show wpAny _ _ (call (Value.ref 261) _) _ _ _ | show wpAny _ _ (call (Value.ref 254) _) _ _ _ | show wpAny _ _ (call (Value.ref 249) _) _ _ _ | show wpAny _ _ (call (Value.ref 235) _) _ _ _ | show wpAny _ _ (call (Value.ref 238) _) _ _ _ | show wpAny _ _ (call (Value.ref 80) _) _ _ _ | show wpAny _ _ (execs (Stmt.For (Expr.Name (Str.ofString "place") _) _ _ _ _ :: _) _) _ _ _ | show EndQ _ _ _ | show Exit1 _ _ _ _ _ _ _ _ _ | show Turn1 _ _ _ _ _ _ _ _ _ | show TurnN _ _ _ _ _ _ _ _ _ | show wpAny _ _ (pyIter _) _ _ _ | show wpAny _ _ (exec (Stmt.While _ _ _ _) _) _ _ _)); first | (k_unfold; (try dsimp only)) | (k_end; wrow_close) | walk1 | (dsimp only; walk1) | (leave1; walk_say "STEP leave1"; try dsimp only) | fail "no step"))
  (with_reducible rename Fr _ _ _ _ => kF)
  (with_reducible rename News _ _ _ _ => kN)
  refine' lwt_c ?B kF ?X kN ?T ?hk  ?hd ?hu ?_
  case B => exact B
  case X => exact X
  case T => exact T
  case hk => exact rfl
  case hd => ktr_room
  case hu => ktr_units
  clear kF kN
  intro t5 h5 tk5 F5 N5
  (repeat' ((fail_if_success (with_reducible first | show NilAt _ _ _ _ _ _ _ _ _ | show wpAny _ _ (call (Value.builtin "sum") _) _ _ _ | show wpAny _ _ (call (Value.ref 273) _) _ _ _ | show wpAny _ _ (call (Value.ref 266) _) _ _ _ | show wpAny _ _ (call (Value.ref 261) _) _ _ _ | show wpAny _ _ (call (Value.ref 254) _) _ _ _ | show wpAny _ _ (call (Value.ref 249) _) _ _ _ | show wpAny _ _ (call (Value.ref 235) _) _ _ _ | show wpAny _ _ (call (Value.ref 238) _) _ _ _ | show wpAny _ _ (call (Value.ref 80) _) _ _ _ | show wpAny _ _ (execs (Stmt.For (Expr.Name (Str.ofString "place") _) _ _ _ _ :: _) _) _ _ _ | show EndQ _ _ _ | show Exit1 _ _ _ _ _ _ _ _ _ | show Turn1 _ _ _ _ _ _ _ _ _ | show TurnN _ _ _ _ _ _ _ _ _ | show wpAny _ _ (pyIter _) _ _ _ | show wpAny _ _ (exec (Stmt.While _ _ _ _) _) _ _ _)); first | (k_unfold; (try dsimp only)) | (k_end; wrow_close) | walk1 | (dsimp only; walk1) | (leave1; walk_say "STEP leave1"; try dsimp only) | fail "no step"))
  (with_reducible rename Fr _ _ _ _ => kF)
  (with_reducible rename News _ _ _ _ => kN)
  refine' lwt_c ?B kF ?X kN ?T ?hk  ?hd ?hu ?_
  case B => exact B
  case X => exact X
  case T => exact T
  case hk => exact rfl
  case hd => ktr_room
  case hu => ktr_units
  clear kF kN
  intro t6 h6 tk6 F6 N6
  have z1 : (S (wrtL c0 c1 c2 one)).length ≤ 8 := by rw [S_len]; exact wrt_len m0 m1 m2 one
  have z2 : (S (wrtL d0 d1 d2 two)).length ≤ 8 := by rw [S_len]; exact wrt_len p0 p1 p2 two
  (repeat' ((fail_if_success (with_reducible first | show NilAt _ _ _ _ _ _ _ _ _ | show wpAny _ _ (call (Value.builtin "sum") _) _ _ _ | show wpAny _ _ (call (Value.ref 273) _) _ _ _ | show wpAny _ _ (call (Value.ref 266) _) _ _ _ | show wpAny _ _ (call (Value.ref 261) _) _ _ _ | show wpAny _ _ (call (Value.ref 254) _) _ _ _ | show wpAny _ _ (call (Value.ref 249) _) _ _ _ | show wpAny _ _ (call (Value.ref 235) _) _ _ _ | show wpAny _ _ (call (Value.ref 238) _) _ _ _ | show wpAny _ _ (call (Value.ref 80) _) _ _ _ | show wpAny _ _ (execs (Stmt.For (Expr.Name (Str.ofString "place") _) _ _ _ _ :: _) _) _ _ _ | show EndQ _ _ _ | show Exit1 _ _ _ _ _ _ _ _ _ | show Turn1 _ _ _ _ _ _ _ _ _ | show TurnN _ _ _ _ _ _ _ _ _ | show wpAny _ _ (pyIter _) _ _ _ | show wpAny _ _ (exec (Stmt.While _ _ _ _) _) _ _ _)); first | (k_unfold; (try dsimp only)) | (k_end; wrow_close) | walk1 | (dsimp only; walk1) | (leave1; walk_say "STEP leave1"; try dsimp only) | fail "no step"))
  (with_reducible rename Fr _ _ _ _ => kF)
  refine call_str (text_eq _ _) ?_
  rw [text_eq] at kF
  have hTL : (wrtL c0 c1 c2 one ++ wrtL d0 d1 d2 two ++ [101, 110, 100]).length ≤ 100 := by
    have a1 := wrt_len m0 m1 m2 one
    have a2 := wrt_len p0 p1 p2 two
    simp only [List.length_append, List.length_cons, List.length_nil]; omega
  have hx1 : lexTk (wrtL c0 c1 c2 one ++ wrtL d0 d1 d2 two ++ [101, 110, 100]) = ([c0, c1, c2], wrtL d0 d1 d2 two ++ [101, 110, 100]) := by rw [List.append_assoc]; exact lex_word m0 m1 m2 one _
  have hx2 : lexTk (wrtL d0 d1 d2 two ++ [101, 110, 100]) = ([d0, d1, d2], [101, 110, 100]) := lex_word p0 p1 p2 two _
  have hln0 := lnok0 hTL
  generalize hTE : wrtL c0 c1 c2 one ++ wrtL d0 d1 d2 two ++ [101, 110, 100] = TL at hTL hx1 hln0 kF ⊢
  have hTS : (S TL).length ≤ 100 := by rw [S_len]; exact hTL
  (repeat' ((fail_if_success (with_reducible first | show NilAt _ _ _ _ _ _ _ _ _ | show wpAny _ _ (call (Value.builtin "sum") _) _ _ _ | show wpAny _ _ (call (Value.ref 273) _) _ _ _ | show wpAny _ _ (call (Value.ref 266) _) _ _ _ | show wpAny _ _ (call (Value.ref 261) _) _ _ _ | show wpAny _ _ (call (Value.ref 254) _) _ _ _ | show wpAny _ _ (call (Value.ref 249) _) _ _ _ | show wpAny _ _ (call (Value.ref 235) _) _ _ _ | show wpAny _ _ (call (Value.ref 238) _) _ _ _ | show wpAny _ _ (call (Value.ref 80) _) _ _ _ | show wpAny _ _ (execs (Stmt.For (Expr.Name (Str.ofString "place") _) _ _ _ _ :: _) _) _ _ _ | show EndQ _ _ _ | show Exit1 _ _ _ _ _ _ _ _ _ | show Turn1 _ _ _ _ _ _ _ _ _ | show TurnN _ _ _ _ _ _ _ _ _ | show wpAny _ _ (pyIter _) _ _ _ | show wpAny _ _ (exec (Stmt.While _ _ _ _) _) _ _ _)); first | (k_unfold; (try dsimp only)) | (k_end; wrow_close) | walk1 | (dsimp only; walk1) | (leave1; walk_say "STEP leave1"; try dsimp only) | fail "no step"))
  (with_reducible rename Fr _ _ _ _ => kF)
  (with_reducible rename News _ _ _ _ => kN)
  refine' lexer_c ?B kF ?X kN ?T ?hk hC (news := [(L + 1, oi)]) (by intro p hp; rcases List.mem_singleton.1 hp with rfl; show @Ne Nat (L + 1) 244; omega) h244 ?hx ?hd ?hu ?_
  case B => exact B
  case X => exact X
  case T => exact T
  case hk => exact rfl
  case hd => ktr_room
  case hu => ktr_units
  clear kF kN
  case hx => (exact Nat.le_trans hTS (by decide))
  intro Y t7 lvs lk h7 tk7 hY hS al7 lt7 F7 N7
  replace hS : StrsAre lvs (chs TL) := by simpa using hS
  obtain ⟨y1, y2, y3⟩ : (∀ p ∈ [(244, lexT Y.crd Y.cfd), (L + 1, oi)], p.1 ≠ Y.pb) ∧ (∀ p ∈ [(244, lexT Y.crd Y.cfd), (L + 1, oi)], p.1 ≠ Y.dx) ∧ (∀ p ∈ [(244, lexT Y.crd Y.cfd), (L + 1, oi)], p.1 ≠ Y.lf) := by
    obtain ⟨r1, r2, r3, r4, r5, r6, r7⟩ := hY.ord
    have r0 : @LT.lt Nat _ (L + 1) Y.cell := allLt_mem al7 (L + 1, oi) (List.mem_cons_self ..)
    refine ⟨?_, ?_, ?_⟩ <;> intro p hp <;> rcases List.mem_cons.1 hp with rfl | hp
    · show @Ne Nat 244 _; omega
    · rcases List.mem_singleton.1 hp with rfl; show @Ne Nat (L + 1) _; omega
    · show @Ne Nat 244 _; omega
    · rcases List.mem_singleton.1 hp with rfl; show @Ne Nat (L + 1) _; omega
    · show @Ne Nat 244 _; omega
    · rcases List.mem_singleton.1 hp with rfl; show @Ne Nat (L + 1) _; omega
  (repeat' ((fail_if_success (with_reducible first | show NilAt _ _ _ _ _ _ _ _ _ | show wpAny _ _ (call (Value.builtin "sum") _) _ _ _ | show wpAny _ _ (call (Value.ref 273) _) _ _ _ | show wpAny _ _ (call (Value.ref 266) _) _ _ _ | show wpAny _ _ (call (Value.ref 261) _) _ _ _ | show wpAny _ _ (call (Value.ref 254) _) _ _ _ | show wpAny _ _ (call (Value.ref 249) _) _ _ _ | show wpAny _ _ (call (Value.ref 235) _) _ _ _ | show wpAny _ _ (call (Value.ref 238) _) _ _ _ | show wpAny _ _ (call (Value.ref 80) _) _ _ _ | show wpAny _ _ (execs (Stmt.For (Expr.Name (Str.ofString "place") _) _ _ _ _ :: _) _) _ _ _ | show EndQ _ _ _ | show Exit1 _ _ _ _ _ _ _ _ _ | show Turn1 _ _ _ _ _ _ _ _ _ | show TurnN _ _ _ _ _ _ _ _ _ | show wpAny _ _ (pyIter _) _ _ _ | show wpAny _ _ (exec (Stmt.While _ _ _ _) _) _ _ _)); first | (k_unfold; (try dsimp only)) | (k_end; wrow_close) | walk1 | (dsimp only; walk1) | (leave1; walk_say "STEP leave1"; try dsimp only) | fail "no step"))
  (with_reducible rename Fr _ _ _ _ => kF)
  (with_reducible rename News _ _ _ _ => kN)
  refine' gt0_c ?B kF ?X kN ?T ?hk hC hY y1 y2 y3 hS (by omega) hln0 ?hd ?hu ?_
  case B => exact B
  case X => exact X
  case T => exact T
  case hk => exact rfl
  case hd => ktr_room
  case hu => ktr_units
  clear kF kN
  intro ln1 tl1 lvs1 lk1 t8 h8 tk8 hln1 hS1 F8 N8
  rw [hx1] at hln1 hS1 ⊢
  dsimp only at hln1 hS1 ⊢
  (repeat' ((fail_if_success (with_reducible first | show NilAt _ _ _ _ _ _ _ _ _ | show wpAny _ _ (call (Value.builtin "sum") _) _ _ _ | show wpAny _ _ (call (Value.ref 273) _) _ _ _ | show wpAny _ _ (call (Value.ref 266) _) _ _ _ | show wpAny _ _ (call (Value.ref 261) _) _ _ _ | show wpAny _ _ (call (Value.ref 254) _) _ _ _ | show wpAny _ _ (call (Value.ref 249) _) _ _ _ | show wpAny _ _ (call (Value.ref 235) _) _ _ _ | show wpAny _ _ (call (Value.ref 238) _) _ _ _ | show wpAny _ _ (call (Value.ref 80) _) _ _ _ | show wpAny _ _ (execs (Stmt.For (Expr.Name (Str.ofString "place") _) _ _ _ _ :: _) _) _ _ _ | show EndQ _ _ _ | show Exit1 _ _ _ _ _ _ _ _ _ | show Turn1 _ _ _ _ _ _ _ _ _ | show TurnN _ _ _ _ _ _ _ _ _ | show wpAny _ _ (pyIter _) _ _ _ | show wpAny _ _ (exec (Stmt.While _ _ _ _) _) _ _ _)); first | (k_unfold; (try dsimp only)) | (k_end; wrow_close) | walk1 | (dsimp only; walk1) | (leave1; walk_say "STEP leave1"; try dsimp only) | fail "no step"))
  (with_reducible rename Fr _ _ _ _ => kF)
  (with_reducible rename News _ _ _ _ => kN)
  refine' gt0_c ?B kF ?X kN ?T ?hk hC hY y1 y2 y3 hS1 (by rw [List.length_append]; have := wrt_len p0 p1 p2 two; simp only [List.length_cons, List.length_nil]; omega) hln1 ?hd ?hu ?_
  case B => exact B
  case X => exact X
  case T => exact T
  case hk => exact rfl
  case hd => ktr_room
  case hu => ktr_units
  clear kF kN
  intro ln2 tl2 lvs2 lk2 t9 h9 tk9 hln2 hS2 F9 N9
  rw [hx2] at hln2 hS2 ⊢
  dsimp only at hln2 hS2 ⊢
  (repeat' ((fail_if_success (with_reducible first | show NilAt _ _ _ _ _ _ _ _ _ | show wpAny _ _ (call (Value.builtin "sum") _) _ _ _ | show wpAny _ _ (call (Value.ref 273) _) _ _ _ | show wpAny _ _ (call (Value.ref 266) _) _ _ _ | show wpAny _ _ (call (Value.ref 261) _) _ _ _ | show wpAny _ _ (call (Value.ref 254) _) _ _ _ | show wpAny _ _ (call (Value.ref 249) _) _ _ _ | show wpAny _ _ (call (Value.ref 235) _) _ _ _ | show wpAny _ _ (call (Value.ref 238) _) _ _ _ | show wpAny _ _ (call (Value.ref 80) _) _ _ _ | show wpAny _ _ (execs (Stmt.For (Expr.Name (Str.ofString "place") _) _ _ _ _ :: _) _) _ _ _ | show EndQ _ _ _ | show Exit1 _ _ _ _ _ _ _ _ _ | show Turn1 _ _ _ _ _ _ _ _ _ | show TurnN _ _ _ _ _ _ _ _ _ | show wpAny _ _ (pyIter _) _ _ _ | show wpAny _ _ (exec (Stmt.While _ _ _ _) _) _ _ _)); first | (k_unfold; (try dsimp only)) | (k_end; wrow_close) | walk1 | (dsimp only; walk1) | (leave1; walk_say "STEP leave1"; try dsimp only) | fail "no step"))
  (with_reducible rename News _ _ _ _ => kN)
  refine ne_same2 (x := ⟨#[c0, c1, c2]⟩) (y := ⟨#[d0, d1, d2]⟩) kN (.tail _ (.head _)) (.head _) (six_strOk m0 m1 m2) (six_strOk p0 p1 p2) (by first | ktr_units | units_room) ?_
  (repeat' ((fail_if_success (with_reducible first | show NilAt _ _ _ _ _ _ _ _ _ | show wpAny _ _ (call (Value.builtin "sum") _) _ _ _ | show wpAny _ _ (call (Value.ref 273) _) _ _ _ | show wpAny _ _ (call (Value.ref 266) _) _ _ _ | show wpAny _ _ (call (Value.ref 261) _) _ _ _ | show wpAny _ _ (call (Value.ref 254) _) _ _ _ | show wpAny _ _ (call (Value.ref 249) _) _ _ _ | show wpAny _ _ (call (Value.ref 235) _) _ _ _ | show wpAny _ _ (call (Value.ref 238) _) _ _ _ | show wpAny _ _ (call (Value.ref 80) _) _ _ _ | show wpAny _ _ (execs (Stmt.For (Expr.Name (Str.ofString "place") _) _ _ _ _ :: _) _) _ _ _ | show EndQ _ _ _ | show Exit1 _ _ _ _ _ _ _ _ _ | show Turn1 _ _ _ _ _ _ _ _ _ | show TurnN _ _ _ _ _ _ _ _ _ | show wpAny _ _ (pyIter _) _ _ _ | show wpAny _ _ (exec (Stmt.While _ _ _ _) _) _ _ _)); first | (k_unfold; (try dsimp only)) | (k_end; wrow_close) | walk1 | (dsimp only; walk1) | (leave1; walk_say "STEP leave1"; try dsimp only) | fail "no step"))
  (with_reducible rename Fr _ _ _ _ => kF)
  (with_reducible rename News _ _ _ _ => kN)
  refine' hd_c ?B kF ?X kN ?T ?hk  ?hd ?hu ?_
  case B => exact B
  case X => exact X
  case T => exact T
  case hk => exact rfl
  case hd => ktr_room
  case hu => ktr_units
  clear kF kN
  intro x dx hl t10 h10 tk10 al10 lt1 lt2 F10 N10
  (repeat' ((fail_if_success (with_reducible first | show NilAt _ _ _ _ _ _ _ _ _ | show wpAny _ _ (call (Value.builtin "sum") _) _ _ _ | show wpAny _ _ (call (Value.ref 273) _) _ _ _ | show wpAny _ _ (call (Value.ref 266) _) _ _ _ | show wpAny _ _ (call (Value.ref 261) _) _ _ _ | show wpAny _ _ (call (Value.ref 254) _) _ _ _ | show wpAny _ _ (call (Value.ref 249) _) _ _ _ | show wpAny _ _ (call (Value.ref 235) _) _ _ _ | show wpAny _ _ (call (Value.ref 238) _) _ _ _ | show wpAny _ _ (call (Value.ref 80) _) _ _ _ | show wpAny _ _ (execs (Stmt.For (Expr.Name (Str.ofString "place") _) _ _ _ _ :: _) _) _ _ _ | show EndQ _ _ _ | show Exit1 _ _ _ _ _ _ _ _ _ | show Turn1 _ _ _ _ _ _ _ _ _ | show TurnN _ _ _ _ _ _ _ _ _ | show wpAny _ _ (pyIter _) _ _ _ | show wpAny _ _ (exec (Stmt.While _ _ _ _) _) _ _ _)); first | (k_unfold; (try dsimp only)) | (k_end; wrow_close) | walk1 | (dsimp only; walk1) | (leave1; walk_say "STEP leave1"; try dsimp only) | fail "no step"))
  (try dsimp only)
  (with_reducible rename Fr _ _ _ _ => kF)
  (with_reducible rename News _ _ _ _ => kN)
  have r0 : @LT.lt Nat _ (L + 1) Y.cell := allLt_mem al7 (L + 1, oi) (List.mem_cons_self ..)
  have rp : @LT.lt Nat _ Y.pb dx := allLt_mem al10 (Y.pb, _) (.tail _ (.tail _ (List.mem_append_left _ (.head _))))
  refine lawB_c (t6 := t10) (Y := Y) (hl := hl) (x := x) (dx := dx) (TL := TL) (ln := ln2) (tl := tl2) (lvs := lvs2) (lk := lk2) (oi := oi) B X T hC hL4 ?nn hoi (fr_frm [(Str.ofString "one", .int one t1), (Str.ofString "two", .int two t2), (Str.ofString "first", .str ⟨#[c0, c1, c2]⟩ t3), (Str.ofString "second", .str ⟨#[d0, d1, d2]⟩ t4), (Str.ofString "text", .str (S TL) _), (Str.ofString "line", .ref Y.x), (Str.ofString "table", .ref x)] kF ⟨rfl, rfl, rfl, rfl, rfl, rfl, rfl, trivial⟩) hY hS2 hln2 m0 m1 m2 p0 p1 p2 r0 rp lt1 lt2 hTL hret
  case nn => exact news_sub kN (fun p hp => by
    rcases List.mem_cons.1 hp with rfl | hp
    · exact .head _
    rcases List.mem_cons.1 hp with rfl | hp
    · exact .tail _ (.head _)
    rcases List.mem_cons.1 hp with rfl | hp
    · exact .tail _ (.tail _ (.head _))
    · exact .tail _ (.tail _ (.tail _ (.tail _ (.tail _ hp)))))
end
end Mine
end

section
open PySem PySem.W PySem.Spec PySem.Calls PyProof.Rows
set_option Elab.async false
set_option maxRecDepth 100000
set_option maxHeartbeats 0
set_option pp.deepTerms false
set_option pp.maxSteps 2000
namespace Mine
theorem toptop {mean : ExcName → Option Value} {mg mb : SMap} {h : Heap} (T : Top topProg (looseW vw01 [Str.ofString "tspecials", Str.ofString "_name_disallowed_re", Str.ofString "_value_disallowed_re", Str.ofString "_formatparam"] ++ List.map (fun x => x.name) (recsOf vw01) ++ List.map (fun x => x.fst) (litsOf vw01) ++ List.map (fun x => x.name) (clssOf vw01 (looseW vw01 [Str.ofString "tspecials", Str.ofString "_name_disallowed_re", Str.ofString "_value_disallowed_re", Str.ofString "_formatparam"]))) mean mg mb h) : Top VV LL mean mg mb h := by
  have e : (looseW vw01 [Str.ofString "tspecials", Str.ofString "_name_disallowed_re", Str.ofString "_value_disallowed_re", Str.ofString "_formatparam"] ++ List.map (fun x => x.name) (recsOf vw01) ++ List.map (fun x => x.fst) (litsOf vw01) ++ List.map (fun x => x.name) (clssOf vw01 (looseW vw01 [Str.ofString "tspecials", Str.ofString "_name_disallowed_re", Str.ofString "_value_disallowed_re", Str.ofString "_formatparam"]))) = LL := by rfl
  rw [e] at T
  exact T
theorem nTop {h₀ h : Heap} {L : Addr} {e1 e2 c t : Addr × Obj} (N : News h₀ L h [e1, e2, c, t]) : News h₀ L h [t, c] := news_sub N (fun p hp => by
  simp only [List.mem_cons, List.not_mem_nil, or_false] at hp ⊢
  rcases hp with h | h <;> simp [h])
theorem top01 : PySem.Challenge.rw_pm0064_01.Holds := hd01 (by
  w_strict (
    k_go0
    (all_goals try k_fold)
    (rename Top topProg _ _ _ _ _ => hTT)
    replace hTT := toptop hTT
    (rename IntsAre _ _ => hI)
    refine wpAny_noRaise ?_
    (repeat' ((fail_if_success (with_reducible first | show NilAt _ _ _ _ _ _ _ _ _ | show wpAny _ _ (call (Value.builtin "sum") _) _ _ _ | show wpAny _ _ (call (Value.ref 273) _) _ _ _ | show wpAny _ _ (call (Value.ref 266) _) _ _ _ | show wpAny _ _ (call (Value.ref 261) _) _ _ _ | show wpAny _ _ (call (Value.ref 254) _) _ _ _ | show wpAny _ _ (call (Value.ref 249) _) _ _ _ | show wpAny _ _ (call (Value.ref 235) _) _ _ _ | show wpAny _ _ (call (Value.ref 238) _) _ _ _ | show wpAny _ _ (call (Value.ref 80) _) _ _ _ | show wpAny _ _ (execs (Stmt.Assign [Expr.Name (Str.ofString "first") _] _ _ :: _) _) _ _ _ | show EndQ _ _ _ | show Exit1 _ _ _ _ _ _ _ _ _ | show Turn1 _ _ _ _ _ _ _ _ _ | show TurnN _ _ _ _ _ _ _ _ _ | show wpAny _ _ (pyIter _) _ _ _ | show wpAny _ _ (exec (Stmt.While _ _ _ _) _) _ _ _)); first | (k_unfold; (try dsimp only)) | (k_end; wrow_close) | walk1 | (dsimp only; walk1) | (leave1; walk_say "STEP leave1"; try dsimp only) | fail "no step"))
    (with_reducible rename Fr _ _ _ _ => kF)
    (with_reducible rename News _ _ _ _ => kN)
    (rename IntsAre _ _ => hI)
    obtain ⟨ms0, hm0⟩ := pick_ints hI (some 0) none (some 2)
    refine' sumK (by rfl) kF kN ?hl hm0 ?_
    case hl => exact ⟨_, (kN _ (List.mem_cons_self ..)).1, rfl, _, rfl⟩
    clear hm0 kF kN
    intro h9 tk9 t9 F9 N9
    generalize ms0.sum = n1
    (repeat' ((fail_if_success (with_reducible first | show NilAt _ _ _ _ _ _ _ _ _ | show wpAny _ _ (call (Value.builtin "sum") _) _ _ _ | show wpAny _ _ (call (Value.ref 273) _) _ _ _ | show wpAny _ _ (call (Value.ref 266) _) _ _ _ | show wpAny _ _ (call (Value.ref 261) _) _ _ _ | show wpAny _ _ (call (Value.ref 254) _) _ _ _ | show wpAny _ _ (call (Value.ref 249) _) _ _ _ | show wpAny _ _ (call (Value.ref 235) _) _ _ _ | show wpAny _ _ (call (Value.ref 238) _) _ _ _ | show wpAny _ _ (call (Value.ref 80) _) _ _ _ | show wpAny _ _ (execs (Stmt.Assign [Expr.Name (Str.ofString "first") _] _ _ :: _) _) _ _ _ | show EndQ _ _ _ | show Exit1 _ _ _ _ _ _ _ _ _ | show Turn1 _ _ _ _ _ _ _ _ _ | show TurnN _ _ _ _ _ _ _ _ _ | show wpAny _ _ (pyIter _) _ _ _ | show wpAny _ _ (exec (Stmt.While _ _ _ _) _) _ _ _)); first | (k_unfold; (try dsimp only)) | (k_end; wrow_close) | walk1 | (dsimp only; walk1) | (leave1; walk_say "STEP leave1"; try dsimp only) | fail "no step"))
    (with_reducible rename Fr _ _ _ _ => kF)
    (with_reducible rename News _ _ _ _ => kN)
    (rename IntsAre _ _ => hI)
    obtain ⟨ms0, hm0⟩ := pick_ints hI (some 1) none (some 2)
    refine' sumK (by rfl) kF kN ?hl hm0 ?_
    case hl => exact ⟨_, (kN _ (List.mem_cons_self ..)).1, rfl, _, rfl⟩
    clear hm0 kF kN
    intro h9 tk9 t9 F9 N9
    generalize ms0.sum = n2
    (repeat' ((fail_if_success (with_reducible first | show NilAt _ _ _ _ _ _ _ _ _ | show wpAny _ _ (call (Value.builtin "sum") _) _ _ _ | show wpAny _ _ (call (Value.ref 273) _) _ _ _ | show wpAny _ _ (call (Value.ref 266) _) _ _ _ | show wpAny _ _ (call (Value.ref 261) _) _ _ _ | show wpAny _ _ (call (Value.ref 254) _) _ _ _ | show wpAny _ _ (call (Value.ref 249) _) _ _ _ | show wpAny _ _ (call (Value.ref 235) _) _ _ _ | show wpAny _ _ (call (Value.ref 238) _) _ _ _ | show wpAny _ _ (call (Value.ref 80) _) _ _ _ | show wpAny _ _ (execs (Stmt.Assign [Expr.Name (Str.ofString "first") _] _ _ :: _) _) _ _ _ | show EndQ _ _ _ | show Exit1 _ _ _ _ _ _ _ _ _ | show Turn1 _ _ _ _ _ _ _ _ _ | show TurnN _ _ _ _ _ _ _ _ _ | show wpAny _ _ (pyIter _) _ _ _ | show wpAny _ _ (exec (Stmt.While _ _ _ _) _) _ _ _)); first | (k_unfold; (try dsimp only)) | (k_end; wrow_close) | walk1 | (dsimp only; walk1) | (leave1; walk_say "STEP leave1"; try dsimp only) | fail "no step"))
    (try dsimp only)
    (with_reducible rename Fr _ _ _ _ => kF)
    (with_reducible rename News _ _ _ _ => kN)
    (with_reducible rename Below _ _ _ _ => kB)
    (with_reducible rename CodeHd _ _ _ => kC)
    (rename @LT.lt Nat _ 244 _ => h44)
    refine lawA (one := 378 + n1) (two := 97 + n2) kB (by assumption) hTT kC h44 (nTop kN) ⟨_, by assumption⟩ (fr_frm [(Str.ofString "one", .int (378 + n1) _), (Str.ofString "two", .int (97 + n2) _)] kF ⟨rfl, rfl, trivial⟩) ?_
    intro h' tk' m' a b FF NN
    refine ⟨?_, GrownAt.of NN (List.mem_cons_self ..), trivial⟩
    dsimp only
    k_end
    wrow_close))
end Mine
end

end
end
end

set_option maxRecDepth 100000 in
set_option maxHeartbeats 0 in
theorem PySem.Challenge.cw_pm0064_01_holds : PySem.Challenge.rw_pm0064_01.Holds :=
  Mine.top01
