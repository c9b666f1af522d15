import PyProof.Rows.All
import Wide.All
import OpenK.AllK
import Wide.FinOn
import PySem.Challenge.RW_ph0114_01

open PySem PySem.W PyProof.Rows
set_option Elab.async false

namespace Mine
set_option maxRecDepth 100000 in
set_option maxHeartbeats 8000000 in
open_top hd for PySem.Challenge.rw_ph0114_01
end Mine

namespace Mine
/-- the frame's map, some names first -/
def bnd (m₀ : Str → Option Value) : List (Str × Value) → Str → Option Value
  | [] => m₀
  | p :: r => fun y => if y = p.1 then some p.2 else bnd m₀ r y
theorem bnd_eq {m : Str → Option Value} : ∀ {ps : List (Str × Value)}, (∀ p ∈ ps, m p.1 = some p.2) → bnd m ps = m
  | [], _ => rfl
  | p :: r, h => by
    funext y
    show (if y = p.1 then some p.2 else bnd m r y) = m y
    by_cases e : y = p.1
    · rw [if_pos e, e]; exact (h p (.head _)).symm
    · rw [if_neg e, bnd_eq fun q hq => h q (.tail _ hq)]
section
variable {M : Model} {A : Around} {α : Type} {t : Sem α} {Q : α → Shared → Prop} {E : Value → Shared → Prop} {s : Shared} {h₀ : Heap} {L : Addr} {m : Str → Option Value} {news : List (Addr × Obj)}
/-- go on from a state of which only what is named is known -/
theorem reframe (ps : List (Str × Value)) (nw : List (Addr × Obj)) (F : Fr h₀ L s.heap m) (N : News h₀ L s.heap news) (hm : ∀ p ∈ ps, m p.1 = some p.2) (hn : ∀ p ∈ nw, p ∈ news)
    (h : ∀ (h' : Heap) (tk : Nat) (m₀ : Str → Option Value), Fr h₀ L h' (bnd m₀ ps) → News h₀ L h' nw → wpAny M A t Q E { s with heap := h', toks := tk }) : wpAny M A t Q E s :=
  h s.heap s.toks m ((bnd_eq hm).symm ▸ F) fun p hp => N p (hn p hp)
theorem toFalse (h : wpAny M A t Q (fun _ _ => False) s) : wpAny M A t Q E s := wpAny_mono h (fun _ _ x => x) fun _ _ e => e.elim
end
section
variable {prog : Program} {w : World} {A : Around} {E : Value → Shared → Prop} {s : Shared} {h₀ : Heap} {L : Addr} {news : List (Addr × Obj)}
/-- an item of a written list of five, at a place that is not written: no five ways -/
theorem pick5 {value slice : PySem.Expr} {l a0 a1 a2 a3 a4 : Addr} {c : Nat} {k : Int} {u : Tok} {Q : Value → Shared → Prop} (N : News h₀ L s.heap news) (hl : (l, W.listOf #[.ref a0, .ref a1, .ref a2, .ref a3, .ref a4] c) ∈ news)
    (h0 : 0 ≤ k) (h1 : k < 5) (h : ∀ j : Nat, j < 5 → (j : Int) = k → Q (.ref ([a0, a1, a2, a3, a4].getD j 0)) s)
    (hs : subscripted slice false (.ref l) (.int k u) = operate [.ref l, .int k u] (getItem (.ref l) (.int k u)) := by with_unfolding_all rfl) :
    wpAny (model prog w) A (subscriptTail value slice (.ref l) (.int k u)) Q E s := by
  have hL : s.heap.IsList l #[.ref a0, .ref a1, .ref a2, .ref a3, .ref a4] := ⟨_, (N _ hl).1, rfl, c, rfl⟩
  refine tail_any hL.typeIs slot_list_getitem.lookup (wpAny_getItem_list hL h0 (by omega) (x := .ref ([a0, a1, a2, a3, a4].getD k.toNat 0)) ?_ (h k.toNat (by omega) (by omega))) hs
  have : k.toNat = 0 ∨ k.toNat = 1 ∨ k.toNat = 2 ∨ k.toNat = 3 ∨ k.toNat = 4 := by omega
  rcases this with e | e | e | e | e <;> rw [e] <;> rfl
end
end Mine

namespace Mine
/-- what «if c in text: text = text.replace(c, r)» makes of the text -/
def stp (c r x : Str) : Str := if (Builtin.Str.occurrences x c 0 x.length 1).isEmpty = true then x else Txt.replace x c r
section
variable {prog : Program} {w : World} {A : Around} {E : Value → Shared → Prop} {s : Shared} {h₀ : Heap} {L a : Addr} {m : Str → Option Value} {news : List (Addr × Obj)} {name : Str} {scope : Scope} {cd : Value}
set_option maxRecDepth 100000 in
theorem esc_if {c r x : Str} {t : Tok} {k1 k2 k3 : Nat} {p1 p2 p3 p4 p5 p6 p7 p8 p9 p10 p11 : Pos} {Q : Flow → Shared → Prop}
    (F : Fr h₀ L s.heap m) (N : News h₀ L s.heap news) (hm : m (Str.ofString "text") = some (.str x t)) (hcr : (c == r) = false) (hr : r.length ≤ 14) (hx : x.length ≤ 1048576)
    (hk : scope.kind = .function) (hl : (envOf name scope L a cd).kindOf (Str.ofString "text") = some .local)
    {pl : Sem Bool} (he : eval (.Call (.Attribute (.Name (Str.ofString "text") p5) (Str.ofString "replace") p6) [.Constant (.str c) k2 p7, .Constant (.str r) k3 p8] [] p9) (envOf name scope L a cd) = (do
      let ov ← eval (.Name (Str.ofString "text") p5) (envOf name scope L a cd)
      standAt p6.atName
      let (f, first) ← holding [ov] (getMethod ov (Str.ofString "replace") pl)
      callWith p9 f first (backTo p9 (starEach [.Constant (.str c) k2 p7, .Constant (.str r) k3 p8] (envOf name scope L a cd))) []))
    (h : ∀ (h' : Heap) (tk : Nat) (tok : Tok), Fr h₀ L h' (fun y => if y = Str.ofString "text" then some (.str (stp c r x) tok) else m y) → News h₀ L h' news → Q .next { s with heap := h', toks := tk }) :
    wpAny (model prog w) A (exec (.If (.Compare (.Constant (.str c) k1 p1) [.In] [.Name (Str.ofString "text") p2] p3)
      [.Assign [.Name (Str.ofString "text") p4] (.Call (.Attribute (.Name (Str.ofString "text") p5) (Str.ofString "replace") p6) [.Constant (.str c) k2 p7, .Constant (.str r) k3 p8] [] p9) p10] [] p11) (envOf name scope L a cd)) Q E s := by
  refine wpAny_If (wpAny_isTrue_Compare1 (Calls.Constant_str (ld F hm (in_str (wpAny_truthy_bool ?_)) hk hl)))
  cases e : (Builtin.Str.occurrences x c 0 x.length 1).isEmpty with
  | true =>
    simp only [Bool.not_true, Bool.false_eq_true, if_false]
    refine wpAny_execs_nil ?_
    have em : (fun y => if y = Str.ofString "text" then some (.str (stp c r x) t) else m y) = m := by
      funext y
      by_cases q : y = Str.ofString "text"
      · subst q; rw [if_pos rfl, hm]; unfold stp; rw [if_pos e]
      · rw [if_neg q]
    exact h s.heap (s.toks + 1) t (em.symm ▸ F) N
  | false =>
    simp only [Bool.not_false, if_true]
    refine wpAny_execs_cons (wpAny_Assign_Name (MethodCall_ (ld F hm (GM.replace (callWith_method1 (args_cons (Calls.Constant_str (args_cons (Calls.Constant_str (args_nil ?_))))))) hk hl) he))
    refine SC.replaceW (Nat.succ_ne_zero _) (Nat.succ_ne_zero _) (Nat.ne_of_lt (Nat.lt_succ_self _)) hcr hx hr fun t' k => ?_
    refine stN F N (fun h' F' N' => ?_) hk hl
    refine wpAny_execs_nil ?_
    have es : stp c r x = Txt.replace x c r := by unfold stp; rw [e]; rfl
    have := h h' (k + 1) t' (by rw [es]; exact F') N'
    exact this
end
end Mine

namespace Mine
open Builtin Builtin.Str in
theorem len_replace (x y z : Str) : (Txt.replace x y z).length ≤ x.length + (x.length + 1) * z.length := by
  unfold Txt.replace
  split
  · exact Nat.le_add_right _ _
  · have h1 := StrLaws.occ_length_le x y 0 x.length (x.length + 1)
    have hy : (glued y (partsBetween x (occurrences x y 0 x.length (x.length + 1)) y.length)).length = x.length := by rw [StrLaws.glued_between_self]
    rw [size_glued, length_partsBetween, Nat.add_sub_cancel] at hy
    rw [size_glued, length_partsBetween, Nat.add_sub_cancel]
    have h2 : (occurrences x y 0 x.length (x.length + 1)).length * z.length ≤ (x.length + 1) * z.length := Nat.mul_le_mul_right _ h1
    omega
theorem len_stp {c r x : Str} {b : Nat} (h : x.length ≤ b) (hr : r.length ≤ 6 := by decide +kernel) : (stp c r x).length ≤ 7 * b + 6 := by
  unfold stp
  split
  · omega
  · have h1 := len_replace x c r
    have h2 : (x.length + 1) * r.length ≤ (b + 1) * 6 := Nat.mul_le_mul (by omega) hr
    omega
/-- what each escape makes of a text -/
def esc : Nat → Str → Str
  | 0, x => stp ">" "&gt;" (stp "<" "&lt;" (stp "&" "&amp;" x))
  | 1, x => stp "\t" "&#09;" (stp "\n" "&#10;" (stp "\r" "&#13;" (stp "\"" "&quot;" (stp ">" "&gt;" (stp "<" "&lt;" (stp "&" "&amp;" x))))))
  | 2, x => stp "\"" "&quot;" (stp ">" "&gt;" (stp "&" "&amp;" x))
  | 3, x => stp "\r" "&#xD;" (stp ">" "&gt;" (stp "<" "&lt;" (stp "&" "&amp;" x)))
  | _, x => stp "\r" "&#xD;" (stp "\n" "&#xA;" (stp "\t" "&#x9;" (stp "\"" "&quot;" (stp "<" "&lt;" (stp "&" "&amp;" x)))))
abbrev Cl (w : World) (mean : ExcName → Option Value) (mg mb : Str → Option Value) (f : Addr) (news : List (Addr × Obj)) (vs : List Value) (R : Tok → Value) : Prop :=
  CbClaim PySem.Challenge.rw_ph0114_01.row.prog w (Mine.hd.heap_39 w.params) Mine.hd.view_39 (looseW Mine.hd.view_39 [Str.ofString "length_hint"]) mean mg mb f news [] True vs R
local macro_rules | `(tactic| walk_at "exec If") => `(tactic| (refine esc_if (by assumption) (by assumption) rfl (by decide +kernel) (by decide +kernel) ?hx rfl rfl rfl ?_; (case hx => (rename Str.length _ ≤ 2 => hx9; first
  | exact Nat.le_trans hx9 (by decide) | exact Nat.le_trans (len_stp hx9) (by decide) | exact Nat.le_trans (len_stp (len_stp hx9)) (by decide) | exact Nat.le_trans (len_stp (len_stp (len_stp hx9))) (by decide)
  | exact Nat.le_trans (len_stp (len_stp (len_stp (len_stp hx9)))) (by decide) | exact Nat.le_trans (len_stp (len_stp (len_stp (len_stp (len_stp hx9))))) (by decide) | exact Nat.le_trans (len_stp (len_stp (len_stp (len_stp (len_stp (len_stp hx9)))))) (by decide))); intro h' tk' tok' F' N'; (try k_sweep)))
section
variable (w : World) (mean : ExcName → Option Value) (mg mb : Str → Option Value) (news : List (Addr × Obj)) (x : Str) (t : Tok) (hx : x.length ≤ 2)
include hx
set_option maxRecDepth 100000 in
set_option maxHeartbeats 8000000 in
theorem esc0 : Cl w mean mg mb 57 news [.str x t] (fun t => .str (esc 0 x) t) := by
  w_on; dsimp only [Cl, CbClaim]; k_fill
  dsimp only [CbLists, CbRet, esc]; intros; rename_i hret
  w_strict (refine wpAny_call ?_; k_dflt cell_enter; k_steps; all_goals exact hret _ _ _ (by assumption) (by assumption))
set_option maxRecDepth 100000 in
set_option maxHeartbeats 8000000 in
theorem esc1 : Cl w mean mg mb 64 news [.str x t] (fun t => .str (esc 1 x) t) := by
  w_on; dsimp only [Cl, CbClaim]; k_fill
  dsimp only [CbLists, CbRet, esc]; intros; rename_i hret
  w_strict (refine wpAny_call ?_; k_dflt cell_enter; k_steps; all_goals exact hret _ _ _ (by assumption) (by assumption))
set_option maxRecDepth 100000 in
set_option maxHeartbeats 8000000 in
theorem esc2 : Cl w mean mg mb 71 news [.str x t] (fun t => .str (esc 2 x) t) := by
  w_on; dsimp only [Cl, CbClaim]; k_fill
  dsimp only [CbLists, CbRet, esc]; intros; rename_i hret
  w_strict (refine wpAny_call ?_; k_dflt cell_enter; k_steps; all_goals exact hret _ _ _ (by assumption) (by assumption))
set_option maxRecDepth 100000 in
set_option maxHeartbeats 8000000 in
theorem esc3 : Cl w mean mg mb 78 news [.str x t] (fun t => .str (esc 3 x) t) := by
  w_on; dsimp only [Cl, CbClaim]; k_fill
  dsimp only [CbLists, CbRet, esc]; intros; rename_i hret
  w_strict (refine wpAny_call ?_; k_dflt cell_enter; k_steps; all_goals exact hret _ _ _ (by assumption) (by assumption))
set_option maxRecDepth 100000 in
set_option maxHeartbeats 8000000 in
theorem esc4 : Cl w mean mg mb 85 news [.str x t] (fun t => .str (esc 4 x) t) := by
  w_on; dsimp only [Cl, CbClaim]; k_fill
  dsimp only [CbLists, CbRet, esc]; intros; rename_i hret
  w_strict (refine wpAny_call ?_; k_dflt cell_enter; k_steps; all_goals exact hret _ _ _ (by assumption) (by assumption))
end
end Mine

namespace Mine
/-- a turn's end: it goes on, with the frame and the ledger told -/
def TEnd (h₀ : Heap) (L : Addr) (s : Shared) (nw : List (Addr × Obj)) (J : (Str → Option Value) → Prop) (f : Flow) (s₂ : Shared) : Prop :=
  f = .next ∧ ∃ h' tk' m', s₂ = { s with heap := h', toks := tk' } ∧ Fr h₀ L h' m' ∧ News h₀ L h' nw ∧ J m'
theorem TEnd.mk {h₀ : Heap} {L : Addr} {s : Shared} {nw news : List (Addr × Obj)} {J : (Str → Option Value) → Prop} {h' : Heap} {tk' : Nat} {m' : Str → Option Value} (F : Fr h₀ L h' m') (N : News h₀ L h' news) (hn : ∀ p ∈ nw, p ∈ news) (hj : J m') :
    TEnd h₀ L s nw J .next { s with heap := h', toks := tk' } := ⟨rfl, h', tk', m', rfl, F, fun p hp => N p (hn p hp), hj⟩
section
variable {prog : Program} {w : World} {A : Around} {E : Value → Shared → Prop} {s : Shared} {h₀ : Heap} {L a : Addr} {m₀ : Str → Option Value} {news : List (Addr × Obj)} {name : Str} {scope : Scope} {cd : Value}
/-- a loop over the signs of a text: the signs' tokens are not nought -/
theorem for_text {x : Str} {t : Tok} {xv itn : Str} {px p2 pos : Pos} {body : List Stmt} {Q : Flow → Shared → Prop} (J : Nat → (Str → Option Value) → Prop)
    (hasc : x.cps.all (· < 128) = true) (hh : A.handled = none) (F : Fr h₀ L s.heap m₀) (N : News h₀ L s.heap news) {n : Nat} (h0 : n ≤ s.toks) (hit : m₀ itn = some (.str x t))
    (hk : scope.kind = .function) (hl1 : (envOf name scope L a cd).kindOf itn = some .local) (hl2 : (envOf name scope L a cd).kindOf xv = some .local) (hdb : (itn == ("__debug__" : Str)) = false)
    (hs : ∀ v, foldedSetIterable (.Name itn p2) (envOf name scope L a cd) v = pure v)
    (hj : J 0 m₀)
    (turn : ∀ i c u m₁ h tk o, x.cps[i]? = some c → n ≤ u → n ≤ tk → J i m₁ → Fr h₀ L h (fun y => if y = xv then some (.str ⟨#[c]⟩ u) else m₁ y) → News h₀ L h ((s.heap.objs.size, o) :: news) →
      wpAny (model prog w) A (execs body (envOf name scope L a cd)) (TEnd h₀ L s ((s.heap.objs.size, o) :: news) (J (i + 1))) (fun _ _ => False) { s with heap := h, toks := tk })
    (done : ∀ h' tk' m', n ≤ tk' → J x.cps.size m' → Fr h₀ L h' m' → News h₀ L h' news → Q .next { s with heap := h', toks := tk' }) :
    wpAny (model prog w) A (exec (.For (.Name xv px) (.Name itn p2) body [] pos) (envOf name scope L a cd)) Q E s := by
  refine wpAny_For (ld F hit (wpAny_pyIter_ascii hasc ?_) hk hl1 hdb) hs
  have hlt : L < s.heap.objs.size := F.ns.lt
  have hLI : s.heap.objs.size ≠ L := Nat.ne_of_gt hlt
  have hnI : h₀.get? s.heap.objs.size = none := next_is_new F
  have hp : ((envOf name scope L a cd).scope.kind == .class || ((envOf name scope L a cd).scope.kind == .module && (envOf name scope L a cd).locals != (envOf name scope L a cd).globals)) = false := by
    show (scope.kind == .class || (scope.kind == .module && L != mainGlobals)) = false
    rw [hk]; rfl
  refine codeAny_forLoop (fun k s' => ∃ h' tk m' i, s' = { s with heap := h', toks := tk } ∧ n ≤ tk ∧ h'.IsStrIter s.heap.objs.size "str_ascii_iterator" x t i ∧ Fr h₀ L h' m' ∧ News h₀ L h' news ∧ J i m' ∧ i ≤ x.cps.size ∧ k = x.cps.size + 1 - i) ?_ (x.cps.size + 1)
    ⟨_, s.toks, m₀, 0, rfl, h0, ⟨_, Heap.get?_push_size _ rfl, rfl, rfl⟩, F.push _, (fun p hp => ⟨Heap.get?_push_of_some _ (N p hp).1, (N p hp).2⟩), hj, Nat.zero_le _, rfl⟩
  rintro k s' ⟨h', tk, m', i, rfl, htk, hst, F', N', hJ, hi, rfl⟩
  have nne : ∀ p ∈ news, p.1 ≠ s.heap.objs.size := fun p hp => Nat.ne_of_lt (Heap.lt_size (N p hp).1)
  have next : ∀ h₁ : Heap, Heap.ExtBut s.heap.objs.size h' h₁ → Fr h₀ L h₁ m' ∧ News h₀ L h₁ news := fun h₁ hk₁ =>
    ⟨⟨F'.ns.at' fun o e => hk₁ _ o (Ne.symm hLI) e, fun b o e => hk₁ b o (fun q => by subst q; rw [hnI] at e; cases e) (F'.keep b o e), F'.above⟩, fun p hp => ⟨hk₁ _ _ (nne p hp) (N' p hp).1, (N' p hp).2⟩⟩
  cases hc : x.cps[i]? with
  | none =>
    have hn : i = x.cps.size := by have := Array.getElem?_eq_none_iff.mp hc; omega
    subst hn
    refine wpAny_pyNext_ascii_end hh hst hc fun h₁ he => wpAny_execs_nil ?_
    obtain ⟨F₁, N₁⟩ := next h₁ he
    exact done h₁ tk m' htk hJ F₁ N₁
  | some c =>
    have hlt' : i < x.cps.size := (Array.getElem?_eq_some_iff.mp hc).1
    refine wpAny_pyNext_ascii_item hst hc fun h₁ hst₁ hs₁ => ?_
    obtain ⟨F₁, N₁⟩ := next h₁ hs₁.extBut
    refine wpAny_assign_Name (wpAny_storeName_local hl2 F₁.ns (fun h₂ hn₂ hs₂ => ?_) hp)
    have F₂ := F₁.set hn₂ hs₂
    obtain ⟨o, ho, hcls, hdat⟩ := hst₁
    have ho₂ : h₂.get? s.heap.objs.size = some o := (hs₂.2 _ hLI).trans ho
    have N₂ : News h₀ L h₂ ((s.heap.objs.size, o) :: news) := by
      intro p hp
      rcases List.mem_cons.mp hp with rfl | hp
      · exact ⟨ho₂, hLI, hnI⟩
      · exact N₁.set hs₂ p hp
    refine wpAny_mono (wpAny_toks (turn i c tk m' h₂ (tk + 1 + 1) o hc htk (by omega) hJ F₂ N₂)) (fun f s₃ h₃ => ?_) fun _ _ e => e.2.elim
    obtain ⟨htk₃, rfl, h₃', tk₃, m₃, rfl, F₃, N₃, hJ₃⟩ := h₃
    have htk₃' : tk + 1 + 1 ≤ tk₃ := htk₃
    exact ⟨x.cps.size + 1 - (i + 1), by omega, h₃', tk₃, m₃, i + 1, rfl, (by omega), ⟨o, (N₃ _ (.head _)).1, hcls, hdat⟩, F₃, fun p hp => N₃ p (.tail _ hp), hJ₃, hlt', rfl⟩
end
end Mine

namespace Mine
section
variable {M : Model} {A : Around} {E : Value → Shared → Prop} {s : Shared}
theorem is_str {x y : Str} {t u : Nat} {Q : Value → Shared → Prop} (ht : t ≠ 0) (hu : u ≠ 0) (htu : t ≠ u) (hb : NoneBooked s.heap) (hq : ∀ b : Bool, (b = true → x = y) → Q (.bool b) s) :
    wpAny M A (compareOp .Is (.str x t) (.str y u)) Q E s := by
  show wpAny M A (isSame (.str x t) (.str y u) >>= fun b => pure (.bool b)) Q E s
  refine wpAny_bind ?_
  show wpAny M A (isSame.created (x == y) t u) _ E s
  have h0 : (t == 0 || u == 0) = false := by simp [ht, hu]
  have h1 : (t == u) = false := by simp [htu]
  unfold isSame.created
  rw [h0, h1]
  simp only [Bool.false_eq_true, if_false]
  cases e : (x == y) with
  | false => exact wpAny_pure (wpAny_pure (hq false (fun h => nomatch h)))
  | true =>
    have exy : x = y := eq_of_beq e
    simp only [Bool.not_true, Bool.false_eq_true, if_false]
    refine wpAny_bind (wpAny_sharingNotTold_none hb ?_)
    first | rw [if_neg Bool.false_ne_true] | simp only [Bool.false_eq_true, if_false]
    refine wpAny_bind (wpAny_sharingNotTold_none hb ?_)
    first | rw [if_neg Bool.false_ne_true] | simp only [Bool.false_eq_true, if_false]
    exact wpAny_bind (wpAny_rule (wpAny_bind (wpAny_askSetting (wpAny_pure (wpAny_pure (hq _ fun _ => exy))))))
end
theorem none_booked_of {P : Params} {p : Program} {loose : List Str} {mean : ExcName → Option Value} {mg mb : Str → Option Value} {h : Heap} (X : (Mine.hd.heap_39 P).In h) (T : Top p loose mean mg mb h) : NoneBooked h :=
  let ⟨mc, hns, _⟩ := T.nodigits
  ⟨mc, hns, ns_none_of X hns rfl⟩
theorem NoneBooked.keeps {h h' : Heap} (b : NoneBooked h) (hk : ∀ b o, h.get? b = some o → h'.get? b = some o) : NoneBooked h' := let ⟨mc, h1, h2⟩ := b; ⟨mc, h1.keeps hk, h2⟩
abbrev ClT (w : World) (mean : ExcName → Option Value) (mg mb : Str → Option Value) (f : Addr) (news : List (Addr × Obj)) (pre : Shared → Prop) (vs : List Value) (R : Tok → Value) : Prop :=
  ∀ (dp un : Nat) (gd : Option (List Code)) (cn : Str) (cs : Scope) (a : Addr) (ccd : Value) (cl : List (Str × Addr)) (outer : List Env) (A₀ : Around) (base h₀ : Heap) (L : Addr) (m : Str → Option Value) (s : Shared) (Q E : Value → Shared → Prop),
    Below A₀ base outer h₀ → Fr h₀ L s.heap m → (Mine.hd.heap_39 w.params).In h₀ → News h₀ L s.heap news → Top Mine.hd.view_39 (looseW Mine.hd.view_39 [Str.ofString "length_hint"]) mean mg mb h₀ → cs.kind = .function → pre s →
    dp + 1 < recursionLimit → un + 8 < cLine → (∀ (t : Tok) (h' : Heap) (tk' : Nat), 0 < tk' → Fr h₀ L h' m → News h₀ L h' news → Q (R t) { s with heap := h', toks := tk' }) →
      wpAny (model PySem.Challenge.rw_ph0114_01.row.prog w) (ktrTop dp un gd cn cs L a ccd cl outer) (call (.ref f) vs) Q E s
section
variable (w : World) (mean : ExcName → Option Value) (mg mb : Str → Option Value) (news : List (Addr × Obj)) (x : Str) (t : Tok) (hx : x.length ≤ 1000)
include hx
set_option maxRecDepth 100000 in
set_option maxHeartbeats 8000000 in
theorem lenHint : ClT w mean mg mb 43 news (fun _ => True) [.str x t] (fun t => .int x.length t) := by
  w_on; dsimp only [ClT]; k_fill
  intros; rename_i hret
  w_strict (refine wpAny_call ?_; k_dflt (refine' code_def ?k1 ?k2 ?k3 ?k4 ?k5 ?kA ?kF ?kK ?k6 ?k7 ?k8 ?k9 ?kB ?_ ?c2 ?c3 ?c4 ?c5; (case kA => exact rfl); (case kF => exact rfl); (case kK => assumption); (case k1 => k_asm); (case k2 => k_asm); (case k3 => k_asm); (case k4 => k_asm); (case k5 => k_asm); (case k6 => k_is); (case k7 => k_is); (case k8 => ktr_room); (case k9 => exact binds_K (by k_in) rfl (by k_is) rfl rfl rfl); (case c5 => decide); (case kB => exact locs rfl); (case c2 => exact rfl); (case c3 => exact rfl); (case c4 => exact rfl); k_whole; intro g' L' h' FG' F' N' B' X' T'; (try dsimp only); (try k_lift B'); (try k_fold)); k_steps; all_goals exact hret _ _ _ (Nat.succ_pos _) (by assumption) (by assumption))
end
/-- how many references stand among the first i signs -/
def cntAt (x : Str) (i : Nat) : Int := ((x.cps.toList.take i).countP (· == 38) : Nat)
theorem cntAt_succ {x : Str} {i c : Nat} (h : x.cps[i]? = some c) : cntAt x (i + 1) = cntAt x i + (if c = 38 then 1 else 0) := by
  have h' : x.cps.toList[i]? = some c := by simpa using h
  unfold cntAt
  rw [List.take_add_one, h', Option.toList_some, List.countP_append]
  by_cases e : c = 38
  · subst e; simp
  · simp [e]
theorem sign_eq {c : Nat} (h : (⟨#[c]⟩ : Str) = Str.ofString "&") : c = 38 := by
  have e : Str.ofString "&" = ⟨#[38]⟩ := by decide +kernel
  rw [e] at h
  have := congrArg (fun z : Str => z.cps.toList) h
  simpa using this
theorem sign_ne {c : Nat} (h : ((⟨#[c]⟩ : Str) == Str.ofString "&") = false) : c ≠ 38 := by
  rintro rfl
  have e : ((⟨#[38]⟩ : Str) == Str.ofString "&") = true := by decide +kernel
  rw [e] at h; cases h
section
variable (w : World) (mean : ExcName → Option Value) (mg mb : Str → Option Value) (news : List (Addr × Obj)) (x : Str) (t : Tok) (ub : Nat) (hx : x.cps.all (· < 128) = true)
local macro_rules | `(tactic| walk_at "execs cons") => `(tactic| ((with_reducible refine wpAny_execs_cons ?_); try dsimp only))
include hx
set_option maxRecDepth 100000 in
set_option maxHeartbeats 8000000 in
theorem countOf : ClT w mean mg mb 35 news (fun s => 0 < ub ∧ ub < s.toks) [.str x t, .str (Str.ofString "&") ub] (fun t => .int (cntAt x x.cps.size) t) := by
  w_on; dsimp only [ClT]; k_fill
  intros; rename_i hret
  rename 0 < ub ∧ _ => hub
  w_strict (
    refine wpAny_call ?_; k_dflt cell_enter; walk1; walk1; walk1; walk1; walk1
    rename Fr _ _ _ _ => kF
    rename News _ _ _ _ => kN
    refine for_text (n := ub + 1) (fun i m₁ => ∃ k tk, m₁ (Str.ofString "count") = some (.int k tk) ∧ k = cntAt x i ∧ m₁ (Str.ofString "b") = some (.str (Str.ofString "&") ub)) hx rfl kF kN ?h0 rfl rfl rfl rfl (by decide) (by intro _; rfl) ⟨0, _, rfl, rfl, rfl⟩ ?turn ?done
    case h0 => (dsimp only; omega)
    case turn =>
      clear kF kN
      rintro i c u m₁ h tk o hc hu htk ⟨k, tk2, e1, e2, e3⟩ F' N'
      rw [← bnd_eq (m := m₁) (ps := [(Str.ofString "count", .int k tk2), (Str.ofString "b", .str (Str.ofString "&") ub)]) (by intro p hp; simp only [List.mem_cons, List.not_mem_nil, or_false] at hp; rcases hp with rfl | rfl <;> assumption)] at F'
      dsimp only [bnd] at F'
      k_steps
      refine is_str (by omega) (by omega) (by omega) (NoneBooked.keeps (none_booked_of (by assumption) (by assumption)) F'.keep) ?_
      intro b hb
      k_steps
      · refine TEnd.mk (by assumption) (by assumption) (fun _ h => h) ⟨_, _, rfl, ?_, rfl⟩
        rw [cntAt_succ hc, if_pos (sign_eq (hb (by assumption))), e2]
      · refine TEnd.mk (by assumption) (by assumption) (fun _ h => h) ⟨_, _, rfl, ?_, rfl⟩
        rw [cntAt_succ hc, if_pos (sign_eq (eq_of_beq (by assumption))), e2]
      · refine TEnd.mk (by assumption) (by assumption) (fun _ h => h) ⟨_, _, rfl, ?_, rfl⟩
        rw [cntAt_succ hc, if_neg (sign_ne (by assumption)), e2, Int.add_zero]
    case done =>
      clear kF kN
      rintro h tk m' htk ⟨k, tk2, e1, e2, e3⟩ F' N'
      rw [← bnd_eq (m := m') (ps := [(Str.ofString "count", .int k tk2)]) (by intro p hp; simp only [List.mem_cons, List.not_mem_nil, or_false] at hp; subst hp; assumption)] at F'
      dsimp only [bnd] at F'
      k_steps
      subst e2
      exact hret _ _ _ (by omega) (by assumption) (by assumption))
end
end Mine

namespace Mine
/-- a turn's end where the ledger may have grown: the iterator stands, the rest is told -/
def LEnd (h₀ : Heap) (L : Addr) (s : Shared) (I : Addr) (o : Obj) (J : (Str → Option Value) → List (Addr × Obj) → Prop) (f : Flow) (s₂ : Shared) : Prop :=
  f = .next ∧ ∃ h' tk' m' nw, s₂ = { s with heap := h', toks := tk' } ∧ Fr h₀ L h' m' ∧ News h₀ L h' ((I, o) :: nw) ∧ (∀ p ∈ nw, p.1 ≠ I) ∧ J m' nw
theorem LEnd.mk {h₀ : Heap} {L I : Addr} {o : Obj} {s : Shared} {news : List (Addr × Obj)} {J : (Str → Option Value) → List (Addr × Obj) → Prop} {h' : Heap} {tk' : Nat} {m' : Str → Option Value} (nw : List (Addr × Obj)) (F : Fr h₀ L h' m') (N : News h₀ L h' news)
    (hi : (I, o) ∈ news) (hn : ∀ p ∈ nw, p ∈ news) (ha : ∀ p ∈ nw, p.1 ≠ I) (hj : J m' nw) : LEnd h₀ L s I o J .next { s with heap := h', toks := tk' } := by
  refine ⟨rfl, h', tk', m', nw, rfl, F, fun p hp => ?_, ha, hj⟩
  rcases List.mem_cons.mp hp with rfl | hp
  · exact N _ hi
  · exact N p (hn p hp)
section
variable {prog : Program} {w : World} {A : Around} {E : Value → Shared → Prop} {s : Shared} {h₀ : Heap} {env : Env} {m₀ : Str → Option Value} {news : List (Addr × Obj)} {R : Result → Shared → Prop}
theorem keep_but {L I : Addr} {h' h₁ : Heap} {m' : Str → Option Value} {nw : List (Addr × Obj)} (hLI : I ≠ L) (hnI : h₀.get? I = none) (F' : Fr h₀ L h' m') (N' : News h₀ L h' nw) (ha : ∀ p ∈ nw, p.1 ≠ I) (hk : Heap.ExtBut I h' h₁) : Fr h₀ L h₁ m' ∧ News h₀ L h₁ nw :=
  ⟨⟨F'.ns.at' fun o e => hk _ o (Ne.symm hLI) e, fun b o e => hk b o (fun q => by subst q; rw [hnI] at e; cases e) (F'.keep b o e), F'.above⟩, fun p hp => ⟨hk _ _ (ha p hp) (N' p hp).1, (N' p hp).2⟩⟩
theorem news_store {L : Addr} {h₂ : Heap} {I : Addr} {o : Obj} {nw : List (Addr × Obj)} (ho : h₂.get? I = some o) (hLI : I ≠ L) (hnI : h₀.get? I = none) (N : News h₀ L h₂ nw) : News h₀ L h₂ ((I, o) :: nw) := by
  intro p hp
  rcases List.mem_cons.mp hp with rfl | hp
  · exact ⟨ho, hLI, hnI⟩
  · exact N p hp
/-- a loop over a range from nought by ones -/
theorem iter_range {r : Addr} {b : Int} {t u v : Tok} {n : Nat} {x : Str} {px : Pos} {body : List Stmt} (J : Nat → (Str → Option Value) → List (Addr × Obj) → Prop)
    (hh : A.handled = none) (hr : IsRange s.heap r 0 b 1 t u v) (hb : b = (n : Int)) (hn : n < 1000) (hx : env.kindOf x = some .local)
    (hp : (env.scope.kind == .class || (env.scope.kind == .module && env.locals != env.globals)) = false)
    (F : Fr h₀ env.locals s.heap m₀) (N : News h₀ env.locals s.heap news) (hj : J 0 m₀ news)
    (turn : ∀ i tok m₁ nw h tk o, i < n → J i m₁ nw → (∀ p ∈ nw, p.1 ≠ s.heap.objs.size) → Fr h₀ env.locals h (fun y => if y = x then some (.int (i : Nat) tok) else m₁ y) → News h₀ env.locals h ((s.heap.objs.size, o) :: nw) →
      wpAny (model prog w) A (execs body env) (LEnd h₀ env.locals s s.heap.objs.size o (J (i + 1))) (fun _ _ => False) { s with heap := h, toks := tk })
    (done : ∀ h' tk' m' nw, J n m' nw → Fr h₀ env.locals h' m' → News h₀ env.locals h' nw → R (.ok .next) { s with heap := h', toks := tk' }) :
    wpAny (model prog w) A (pyIter (.ref r)) (fun it s₂ => codeAny (model prog w) A (.forLoop (.Name x px) it body [] env) R s₂) E s := by
  subst hb
  have hsz : Builtin.Range.rangeSize 0 (n : Int) 1 = (n : Int) := by
    have := rangeSize_nat 0 (n : Int)
    simpa using this
  refine wpAny_pyIter_range hr (small_one (by omega) (by omega) (by omega) (by omega)) ?_
  have hLI : s.heap.objs.size ≠ env.locals := Nat.ne_of_gt F.ns.lt
  have hnI : h₀.get? s.heap.objs.size = none := next_is_new F
  refine codeAny_forLoop (fun k s' => ∃ h' tk m' nw i, s' = { s with heap := h', toks := tk } ∧ IsRangeIter h' s.heap.objs.size ((i : Nat) : Int) ((n : Int) - (i : Nat)) 1 ∧ Fr h₀ env.locals h' m' ∧ News h₀ env.locals h' nw ∧ (∀ p ∈ nw, p.1 ≠ s.heap.objs.size) ∧ J i m' nw ∧ i ≤ n ∧ k = n + 1 - i) ?_ (n + 1)
    ⟨_, s.toks, m₀, news, 0, rfl, (by show IsRangeIter _ _ _ _ _; rw [hsz]; simpa using Heap.get?_push_size _ rfl), F.push _, (fun p hp => ⟨Heap.get?_push_of_some _ (N p hp).1, (N p hp).2⟩), (fun p hp => Nat.ne_of_lt (Heap.lt_size (N p hp).1)), hj, Nat.zero_le _, rfl⟩
  rintro k s' ⟨h', tk, m', nw, i, rfl, hst, F', N', ha, hJ, hi, rfl⟩
  by_cases hlt : i < n
  · refine wpAny_pyNext_range_item hst (by omega) fun h₁ hst₁ hs₁ => ?_
    obtain ⟨F₁, N₁⟩ := keep_but hLI hnI F' N' ha hs₁.extBut
    refine wpAny_assign_Name (wpAny_storeName_local hx F₁.ns (fun h₂ hn₂ hs₂ => ?_) hp)
    have F₂ := F₁.set hn₂ hs₂
    have ho₂ := (hs₂.2 _ hLI).trans hst₁
    refine wpAny_mono (turn i tk m' nw h₂ (tk + 1 + 1) _ hlt hJ ha F₂ (news_store ho₂ hLI hnI (N₁.set hs₂))) (fun f s₃ h₃ => ?_) fun _ _ e => e.elim
    obtain ⟨rfl, h₃', tk₃, m₃, nw₃, rfl, F₃, N₃, ha₃, hJ₃⟩ := h₃
    refine ⟨n + 1 - (i + 1), by omega, h₃', tk₃, m₃, nw₃, i + 1, rfl, ?_, F₃, fun p hp => N₃ p (.tail _ hp), ha₃, hJ₃, hlt, rfl⟩
    have e1 : ((i + 1 : Nat) : Int) = (i : Int) + 1 := by omega
    have e2 : (n : Int) - ((i + 1 : Nat) : Int) = (n : Int) - (i : Int) - 1 := by omega
    rw [e2, e1]
    exact (N₃ _ (.head _)).1
  · have hin : i = n := by omega
    subst hin
    refine wpAny_pyNext_range_end hh hst (by omega) fun h₁ he => wpAny_execs_nil ?_
    obtain ⟨F₁, N₁⟩ := keep_but hLI hnI F' N' ha he
    exact done h₁ tk m' nw hJ F₁ N₁
/-- a loop over a list of ints of the ledger's -/
theorem iter_ints {l : Addr} {ol : Obj} {vs : List Value} {ns : List Int} {x : Str} {px : Pos} {body : List Stmt} (J : Nat → (Str → Option Value) → List (Addr × Obj) → Prop)
    (hh : A.handled = none) (hc : ol.cls = .type "list") (hd : ∃ c, ol.data = .seq vs.toArray c) (hi : IntsAre vs ns) (hx : env.kindOf x = some .local)
    (hp : (env.scope.kind == .class || (env.scope.kind == .module && env.locals != env.globals)) = false)
    (F : Fr h₀ env.locals s.heap m₀) (N : News h₀ env.locals s.heap news) (hj : J 0 m₀ news) (hl : ∀ i m nw, J i m nw → (l, ol) ∈ nw)
    (turn : ∀ i n tok m₁ nw h tk o, ns[i]? = some n → J i m₁ nw → (∀ p ∈ nw, p.1 ≠ s.heap.objs.size) → Fr h₀ env.locals h (fun y => if y = x then some (.int n tok) else m₁ y) → News h₀ env.locals h ((s.heap.objs.size, o) :: nw) →
      wpAny (model prog w) A (execs body env) (LEnd h₀ env.locals s s.heap.objs.size o (J (i + 1))) (fun _ _ => False) { s with heap := h, toks := tk })
    (done : ∀ h' tk' m' nw, J ns.length m' nw → Fr h₀ env.locals h' m' → News h₀ env.locals h' nw → R (.ok .next) { s with heap := h', toks := tk' }) :
    wpAny (model prog w) A (pyIter (.ref l)) (fun it s₂ => codeAny (model prog w) A (.forLoop (.Name x px) it body [] env) R s₂) E s := by
  have isl : ∀ {h : Heap} {nw : List (Addr × Obj)}, (l, ol) ∈ nw → News h₀ env.locals h nw → h.IsList l vs.toArray := fun hm N => ⟨ol, (N _ hm).1, hc, hd⟩
  refine wpAny_pyIter_list (isl (hl _ _ _ hj) N) ?_
  have hLI : s.heap.objs.size ≠ env.locals := Nat.ne_of_gt F.ns.lt
  have hnI : h₀.get? s.heap.objs.size = none := next_is_new F
  refine codeAny_forLoop (fun k s' => ∃ h' tk m' nw i, s' = { s with heap := h', toks := tk } ∧ h'.IsListIter s.heap.objs.size l i ∧ Fr h₀ env.locals h' m' ∧ News h₀ env.locals h' nw ∧ (∀ p ∈ nw, p.1 ≠ s.heap.objs.size) ∧ J i m' nw ∧ i ≤ ns.length ∧ k = ns.length + 1 - i) ?_ (ns.length + 1)
    ⟨_, s.toks, m₀, news, 0, rfl, ⟨_, Heap.get?_push_size _ rfl, rfl, rfl⟩, F.push _, (fun p hp => ⟨Heap.get?_push_of_some _ (N p hp).1, (N p hp).2⟩), (fun p hp => Nat.ne_of_lt (Heap.lt_size (N p hp).1)), hj, Nat.zero_le _, rfl⟩
  rintro k s' ⟨h', tk, m', nw, i, rfl, hst, F', N', ha, hJ, hi', rfl⟩
  by_cases hlt : i < ns.length
  · obtain ⟨tok, hv⟩ := hi.get i ns[i] (by simp [hlt])
    refine wpAny_pyNext_list_item hst (isl (hl _ _ _ hJ) N') (x := .int ns[i] tok) (by simpa using hv) fun h₁ hst₁ hs₁ => ?_
    obtain ⟨F₁, N₁⟩ := keep_but hLI hnI F' N' ha hs₁.extBut
    refine wpAny_assign_Name (wpAny_storeName_local hx F₁.ns (fun h₂ hn₂ hs₂ => ?_) hp)
    have F₂ := F₁.set hn₂ hs₂
    obtain ⟨o, ho, hcl, hda⟩ := hst₁
    have ho₂ := (hs₂.2 _ hLI).trans ho
    refine wpAny_mono (turn i ns[i] tok m' nw h₂ (tk + 1) _ (by simp [hlt]) hJ ha F₂ (news_store ho₂ hLI hnI (N₁.set hs₂))) (fun f s₃ h₃ => ?_) fun _ _ e => e.elim
    obtain ⟨rfl, h₃', tk₃, m₃, nw₃, rfl, F₃, N₃, ha₃, hJ₃⟩ := h₃
    exact ⟨ns.length + 1 - (i + 1), by omega, h₃', tk₃, m₃, nw₃, i + 1, rfl, ⟨o, (N₃ _ (.head _)).1, hcl, hda⟩, F₃, fun p hp => N₃ p (.tail _ hp), ha₃, hJ₃, hlt, rfl⟩
  · have hin : i = ns.length := by omega
    subst hin
    refine wpAny_pyNext_list_end hh hst (isl (hl _ _ _ hJ) N') (by simp [hi.length]) fun h₁ he => wpAny_execs_nil ?_
    obtain ⟨F₁, N₁⟩ := keep_but hLI hnI F' N' ha he
    exact done h₁ tk m' nw hJ F₁ N₁
/-- the ledger bears a list of pairs of ints -/
def Pairs (l : Addr) (ps : List (Int × Int)) (nw : List (Addr × Obj)) : Prop :=
  ∃ (vs : List Value) (c : Nat), (l, W.listOf vs.toArray c) ∈ nw ∧ vs.length = ps.length ∧ ∀ (k : Nat) (p : Int × Int), ps[k]? = some p → ∃ (T : Addr) (c' : Nat) (x y : Tok), vs[k]? = some (.ref T) ∧ (T, ({ cls := .type "tuple", data := .seq #[.int p.1 x, .int p.2 y] c' } : Obj)) ∈ nw
theorem Pairs.mono {l : Addr} {ps : List (Int × Int)} {nw nw' : List (Addr × Obj)} (h : Pairs l ps nw) (hs : ∀ p ∈ nw, p ∈ nw') : Pairs l ps nw' := by
  obtain ⟨vs, c, h1, h2, h3⟩ := h
  refine ⟨vs, c, hs _ h1, h2, fun k p hk => ?_⟩
  obtain ⟨T, c', x, y, e, hm⟩ := h3 k p hk
  exact ⟨T, c', x, y, e, hs _ hm⟩
theorem iter_pairs {l : Addr} {ps : List (Int × Int)} {a b : Str} {pa pb pt : Pos} {kk : Nat} {body : List Stmt} (J : Nat → (Str → Option Value) → List (Addr × Obj) → Prop)
    {keep : List (Addr × Obj)} (hh : A.handled = none) (hP : Pairs l ps keep) (hxa : env.kindOf a = some .local) (hxb : env.kindOf b = some .local)
    (hp : (env.scope.kind == .class || (env.scope.kind == .module && env.locals != env.globals)) = false)
    (F : Fr h₀ env.locals s.heap m₀) (N : News h₀ env.locals s.heap news) (hj : J 0 m₀ news) (hl : ∀ i m nw, J i m nw → ∀ p ∈ keep, p ∈ nw)
    (turn : ∀ i p x y m₁ nw h tk o, ps[i]? = some p → J i m₁ nw → (∀ p ∈ nw, p.1 ≠ s.heap.objs.size) → Fr h₀ env.locals h (fun z => if z = b then some (.int p.2 y) else if z = a then some (.int p.1 x) else m₁ z) → News h₀ env.locals h ((s.heap.objs.size, o) :: nw) →
      wpAny (model prog w) A (execs body env) (LEnd h₀ env.locals s s.heap.objs.size o (J (i + 1))) (fun _ _ => False) { s with heap := h, toks := tk })
    (done : ∀ h' tk' m' nw, J ps.length m' nw → Fr h₀ env.locals h' m' → News h₀ env.locals h' nw → R (.ok .next) { s with heap := h', toks := tk' }) :
    wpAny (model prog w) A (pyIter (.ref l)) (fun it s₂ => codeAny (model prog w) A (.forLoop (.Tuple [.Name a pa, .Name b pb] kk pt) it body [] env) R s₂) E s := by
  obtain ⟨vs, c, hm, hlen, hT⟩ := hP
  have isl : ∀ {h : Heap} {nw : List (Addr × Obj)}, (l, W.listOf vs.toArray c) ∈ nw → News h₀ env.locals h nw → h.IsList l vs.toArray := fun hm N => ⟨_, (N _ hm).1, rfl, c, rfl⟩
  refine wpAny_pyIter_list (isl (hl _ _ _ hj _ hm) N) ?_
  have hLI : s.heap.objs.size ≠ env.locals := Nat.ne_of_gt F.ns.lt
  have hnI : h₀.get? s.heap.objs.size = none := next_is_new F
  refine codeAny_forLoop_any (fun k s' => ∃ h' tk m' nw i, s' = { s with heap := h', toks := tk } ∧ h'.IsListIter s.heap.objs.size l i ∧ Fr h₀ env.locals h' m' ∧ News h₀ env.locals h' nw ∧ (∀ p ∈ nw, p.1 ≠ s.heap.objs.size) ∧ J i m' nw ∧ i ≤ ps.length ∧ k = ps.length + 1 - i) ?_ (ps.length + 1)
    ⟨_, s.toks, m₀, news, 0, rfl, ⟨_, Heap.get?_push_size _ rfl, rfl, rfl⟩, F.push _, (fun p hp => ⟨Heap.get?_push_of_some _ (N p hp).1, (N p hp).2⟩), (fun p hp => Nat.ne_of_lt (Heap.lt_size (N p hp).1)), hj, Nat.zero_le _, rfl⟩
  rintro k s' ⟨h', tk, m', nw, i, rfl, hst, F', N', ha, hJ, hi', rfl⟩
  by_cases hlt : i < ps.length
  · obtain ⟨T, c', x, y, hv, hTm⟩ := hT i ps[i] (by simp [hlt])
    refine wpAny_pyNext_list_item hst (isl (hl _ _ _ hJ _ hm) N') (x := .ref T) (by simpa using hv) fun h₁ hst₁ hs₁ => ?_
    obtain ⟨F₁, N₁⟩ := keep_but hLI hnI F' N' ha hs₁.extBut
    refine wpAny_letOwnedTupleGo_listiter hst₁ ?_
    have hTn := hl _ _ _ hJ _ hTm
    refine kcp_assign hh ⟨_, (N₁ _ hTn).1, rfl, c', rfl⟩ hxa hxb hp F₁.ns fun h₂ tk₂ hn₂ hk₂ => ?_
    obtain ⟨o, ho, hcl, hda⟩ := hst₁
    have ho₂ := hk₂ _ _ hLI ho
    have F₂ : Fr h₀ env.locals h₂ (fun z => if z = b then some (.int ps[i].2 y) else if z = a then some (.int ps[i].1 x) else m' z) :=
      ⟨hn₂, fun b o e => hk₂ b o (Nat.ne_of_lt (Nat.lt_of_lt_of_le (Heap.lt_size e) F.above)) (F₁.keep b o e), F.above⟩
    have N₂ : News h₀ env.locals h₂ nw := fun p hp => ⟨hk₂ _ _ (N₁ p hp).2.1 (N₁ p hp).1, (N₁ p hp).2⟩
    refine wpAny_mono (turn i ps[i] x y m' nw h₂ tk₂ _ (by simp [hlt]) hJ ha F₂ (news_store ho₂ hLI hnI N₂)) (fun f s₃ h₃ => ?_) fun _ _ e => e.elim
    obtain ⟨rfl, h₃', tk₃, m₃, nw₃, rfl, F₃, N₃, ha₃, hJ₃⟩ := h₃
    exact ⟨ps.length + 1 - (i + 1), by omega, h₃', tk₃, m₃, nw₃, i + 1, rfl, ⟨o, (N₃ _ (.head _)).1, hcl, hda⟩, F₃, fun p hp => N₃ p (.tail _ hp), ha₃, hJ₃, hlt, rfl⟩
  · have hin : i = ps.length := by omega
    subst hin
    refine wpAny_pyNext_list_end hh hst (isl (hl _ _ _ hJ _ hm) N') (by simp [hlen]) fun h₁ he => wpAny_execs_nil ?_
    obtain ⟨F₁, N₁⟩ := keep_but hLI hnI F' N' ha he
    exact done h₁ tk m' nw hJ F₁ N₁
end
end Mine

namespace Mine
section
variable {w : World} {mean : ExcName → Option Value} {mg mb : Str → Option Value} {news : List (Addr × Obj)} {dp un : Nat} {gd : Option (List Code)} {cn : Str} {cs : Scope} {a : Addr} {ccd : Value} {cl : List (Str × Addr)} {outer : List Env} {A₀ : Around} {base h₀ : Heap} {L : Addr} {m : Str → Option Value} {s : Shared} {Q E : Value → Shared → Prop}
set_option maxRecDepth 100000 in
set_option maxHeartbeats 8000000 in
theorem add_use {x y : Int} {t u : Tok} (B : Below A₀ base outer h₀) (F : Fr h₀ L s.heap m) (X : (Mine.hd.heap_39 w.params).In h₀) (N : News h₀ L s.heap news) (T : Top Mine.hd.view_39 (looseW Mine.hd.view_39 [Str.ofString "length_hint"]) mean mg mb h₀) (hk : cs.kind = .function)
    (hd : dp + 1 < recursionLimit) (hret : ∀ (t : Tok) (h' : Heap) (tk' : Nat), Fr h₀ L h' m → News h₀ L h' news → Q (.int (x + y) t) { s with heap := h', toks := tk' }) :
    wpAny (model PySem.Challenge.rw_ph0114_01.row.prog w) (ktrTop dp un gd cn cs L a ccd cl outer) (call (.ref 21) [.int x t, .int y u]) Q E s := by
  w_on; revert X; k_fill; intro X
  w_strict (refine wpAny_call ?_; k_dflt cell_enter; k_steps; all_goals exact hret _ _ _ (by assumption) (by assumption))
set_option maxRecDepth 100000 in
set_option maxHeartbeats 8000000 in
theorem mod_use {x : Int} {t u : Tok} (B : Below A₀ base outer h₀) (F : Fr h₀ L s.heap m) (X : (Mine.hd.heap_39 w.params).In h₀) (N : News h₀ L s.heap news) (T : Top Mine.hd.view_39 (looseW Mine.hd.view_39 [Str.ofString "length_hint"]) mean mg mb h₀) (hk : cs.kind = .function)
    (hd : dp + 1 < recursionLimit) (hret : ∀ (t : Tok) (h' : Heap) (tk' : Nat), Fr h₀ L h' m → News h₀ L h' news → Q (.int (x.fmod 3) t) { s with heap := h', toks := tk' }) :
    wpAny (model PySem.Challenge.rw_ph0114_01.row.prog w) (ktrTop dp un gd cn cs L a ccd cl outer) (call (.ref 28) [.int x t, .int 3 u]) Q E s := by
  w_on; revert X; k_fill; intro X
  w_strict (refine wpAny_call ?_; k_dflt cell_enter; k_steps; all_goals exact hret _ _ _ (by assumption) (by assumption))
end
end Mine

namespace Mine
def sumA (ps : List (Int × Int)) : Int := (ps.map (·.1)).sum
def sumB (ps : List (Int × Int)) : Int := (ps.map (·.2)).sum
theorem sumA_take {ps : List (Int × Int)} {i : Nat} {p : Int × Int} (h : ps[i]? = some p) : sumA (ps.take (i + 1)) = sumA (ps.take i) + p.1 := by
  unfold sumA; rw [List.take_add_one, h]; simp
theorem sumB_take {ps : List (Int × Int)} {i : Nat} {p : Int × Int} (h : ps[i]? = some p) : sumB (ps.take (i + 1)) = sumB (ps.take i) + p.2 := by
  unfold sumB; rw [List.take_add_one, h]; simp
local macro_rules | `(tactic| walk_at "call ref") => `(tactic| ((first | k_dflt (refine' add_use ?k1 ?k2 ?k3 ?k4 ?k5 ?kK ?kd ?_) | k_dflt (refine' mod_use ?k1 ?k2 ?k3 ?k4 ?k5 ?kK ?kd ?_)); (case k1 => k_asm); (case k2 => k_asm); (case k3 => k_asm); (case k4 => k_asm); (case k5 => k_asm); (case kK => first | exact rfl | assumption); (case kd => ktr_room); k_whole; intro t9 h9 tk9 F9 N9; (try k_sweep)))
section
variable (w : World) (mean : ExcName → Option Value) (mg mb : Str → Option Value) (news : List (Addr × Obj)) (l : Addr) (ps : List (Int × Int)) (hP : Pairs l ps news)
include hP
set_option maxRecDepth 100000 in
set_option maxHeartbeats 8000000 in
theorem lawLeft :   ∀ (dp un : Nat) (gd : Option (List Code)) (cn : Str) (cs : Scope) (a : Addr) (ccd : Value) (cl : List (Str × Addr)) (outer : List Env) (A₀ : Around) (base h₀ : Heap) (L : Addr) (m : Str → Option Value) (s : Shared) (Q E : Value → Shared → Prop),
    Below A₀ base outer h₀ → Fr h₀ L s.heap m → (Mine.hd.heap_39 w.params).In h₀ → News h₀ L s.heap news → Top Mine.hd.view_39 (looseW Mine.hd.view_39 [Str.ofString "length_hint"]) mean mg mb h₀ → cs.kind = .function →
    dp + 2 < recursionLimit → (∀ (r : Addr) (t1 t2 : Tok) (h' : Heap) (tk' : Nat), (∀ p ∈ news, p.1 < r) → Fr h₀ L h' m → News h₀ L h' ((r, W.listOf #[.int ((sumA ps).fmod 3) t1, .int ((sumB ps).fmod 3) t2] 0) :: news) → Q (.ref r) { s with heap := h', toks := tk' }) →
      wpAny (model PySem.Challenge.rw_ph0114_01.row.prog w) (ktrTop dp un gd cn cs L a ccd cl outer) (call (.ref 92) [.ref l]) Q E s := by
  w_on; k_fill
  intros; rename_i hret
  w_strict (
    refine wpAny_call ?_; k_dflt cell_enter; k_steps
    rename Fr _ _ _ _ => kF
    rename News _ _ _ _ => kN
    refine wpAny_For (ld kF rfl (iter_pairs (ps := ps) (fun i m₁ nw => ∃ B t1 t2, m₁ (Str.ofString "both") = some (.ref B) ∧ nw = (B, W.listOf #[.int (sumA (ps.take i)) t1, .int (sumB (ps.take i)) t2] 0) :: news) rfl hP rfl rfl rfl kF (fun p hp => kN p hp) ⟨_, _, _, rfl, rfl⟩ ?hl ?turn ?done) rfl rfl) (by intro _; rfl)
    case hl =>
      clear kF kN
      rintro i m₁ nw ⟨B, t1, t2, e1, rfl⟩ p hp
      exact .tail _ hp
    case turn =>
      clear kF kN
      rintro i p x y m₁ nw h tk o hp ⟨B, t1, t2, e1, rfl⟩ ha F' N'
      rw [← bnd_eq (m := m₁) (ps := [(Str.ofString "both", .ref B)]) (by intro p hp; simp only [List.mem_cons, List.not_mem_nil, or_false] at hp; subst hp; assumption)] at F'
      dsimp only [bnd] at F'
      k_steps
      rename Fr _ _ _ _ => kF
      rename News _ _ _ _ => kN
      rename (_ ∧ _ ∧ AllLt _ _) => kl
      have eA : ([sumA (ps.take i), sumB (ps.take i)].getD (Int.toNat 0) 0 + p.1) = sumA (ps.take (i + 1)) := (sumA_take hp).symm
      have eB : ([sumA (ps.take i), sumB (ps.take i)].getD (Int.toNat 1) 0 + p.2) = sumB (ps.take (i + 1)) := (sumB_take hp).symm
      rw [eA, eB] at kN
      refine LEnd.mk (_ :: news) kF kN (.tail _ (.head _)) (List.forall_mem_cons.mpr ⟨.head _, fun q hq => .tail _ (.tail _ (.tail _ hq))⟩) ?_ ⟨_, _, _, rfl, rfl⟩
      · intro q hq
        rcases List.mem_cons.mp hq with rfl | hq
        · exact Nat.ne_of_gt kl.1
        · exact ha q (.tail _ hq)
    case done =>
      clear kF kN
      rintro h tk m' nw ⟨B, t1, t2, e1, rfl⟩ F' N'
      rw [← bnd_eq (m := m') (ps := [(Str.ofString "both", .ref B)]) (by intro p hp; simp only [List.mem_cons, List.not_mem_nil, or_false] at hp; subst hp; assumption)] at F'
      dsimp only [bnd] at F'
      k_steps
      rename Fr _ _ _ _ => kF
      rename News _ _ _ _ => kN
      rename (_ ∧ AllLt _ _) => kl
      have eA : ([sumA (ps.take ps.length), sumB (ps.take ps.length)].getD (Int.toNat 0) 0) = sumA ps := by rw [List.take_length]; rfl
      have eB : ([sumA (ps.take ps.length), sumB (ps.take ps.length)].getD (Int.toNat 1) 0) = sumB ps := by rw [List.take_length]; rfl
      rw [eA, eB] at kN
      exact hret _ _ _ _ _ (kst_ltOf kl.2) kF (kst_newsOf kN (List.forall_mem_cons.mpr ⟨.head _, fun q hq => .tail _ (.tail _ hq)⟩)))
end
theorem left_use {w : World} {mean : ExcName → Option Value} {mg mb : Str → Option Value} {news : List (Addr × Obj)} {l : Addr} {ps : List (Int × Int)} {dp un : Nat} {gd : Option (List Code)} {cn : Str} {cs : Scope} {a : Addr} {ccd : Value} {cl : List (Str × Addr)} {outer : List Env} {A₀ : Around} {base h₀ : Heap} {L : Addr} {m : Str → Option Value} {s : Shared} {Q E : Value → Shared → Prop}
    (B : Below A₀ base outer h₀) (F : Fr h₀ L s.heap m) (X : (Mine.hd.heap_39 w.params).In h₀) (N : News h₀ L s.heap news) (T : Top Mine.hd.view_39 (looseW Mine.hd.view_39 [Str.ofString "length_hint"]) mean mg mb h₀) (hk : cs.kind = .function)
    (hd : dp + 2 < recursionLimit) (hP : Pairs l ps news)
    (hret : ∀ (r : Addr) (t1 t2 : Tok) (h' : Heap) (tk' : Nat), (∀ p ∈ news, p.1 < r) → Fr h₀ L h' m → News h₀ L h' ((r, W.listOf #[.int ((sumA ps).fmod 3) t1, .int ((sumB ps).fmod 3) t2] 0) :: news) → Q (.ref r) { s with heap := h', toks := tk' }) :
    wpAny (model PySem.Challenge.rw_ph0114_01.row.prog w) (ktrTop dp un gd cn cs L a ccd cl outer) (call (.ref 92) [.ref l]) Q E s :=
  lawLeft w mean mg mb news l ps hP dp un gd cn cs a ccd cl outer A₀ base h₀ L m s Q E B F X N T hk hd hret
end Mine

namespace Mine
theorem ints_snoc {n : Int} {t : Tok} : ∀ {ys : List Value} {ns : List Int}, IntsAre ys ns → IntsAre (ys ++ [.int n t]) (ns ++ [n])
  | _, _, .nil => .cons _ _ .nil
  | _, _, .cons a b h => .cons a b (ints_snoc h)
section
variable {prog : Program} {w : World} {A : Around} {E : Value → Shared → Prop} {s : Shared} {h₀ : Heap} {L : Addr} {m : Str → Option Value} {env : Env} {news : List (Addr × Obj)}
theorem pair_rest {z x x₂ : Str} {pz : Pos} {scope : Scope} {cl : List (Str × Addr)} {s₂ : Shared} {ps : List (Int × Int)} {vs : List Value} {l : Addr} {c : Nat} {sel : Int × Int → Int} {Fin : List Value → List (Addr × Obj) → Prop}
    (hz : scope.names.lookup z = some .local) (hkind : scope.kind = .function) (hdb : (z == ("__debug__" : Str)) = false) (hsel : (z = x ∧ sel = Prod.fst) ∨ (z = x₂ ∧ sel = Prod.snd))
    (hl : (l, W.listOf vs.toArray c) ∈ news) (hT : ∀ (k : Nat) (p : Int × Int), ps[k]? = some p → ∃ (T : Addr) (c' : Nat) (x y : Tok), vs[k]? = some (.ref T) ∧ (T, ({ cls := .type "tuple", data := .seq #[.int p.1 x, .int p.2 y] c' } : Obj)) ∈ news)
    (hFin : ∀ ys, IntsAre ys (ps.map sel) → Fin ys news) :
    ∀ k i ys, k + i = ps.length → IntsAre ys ((ps.take i).map sel) → LCp.CompRestP prog w A h₀ L m env (.Name z pz) x x₂ scope cl s₂ (LCg.SrcAt h₀ l vs.toArray) (fun i v => vs.toArray[i]? = some v) Fin k i ys news := by
  intro k
  induction k with
  | zero =>
    intro i ys e hy
    refine LCp.CompRestP.zero (hFin ys ?_)
    have : ps.take i = ps := List.take_of_length_le (by omega)
    rw [this] at hy
    exact hy
  | succ k ih =>
    intro i ys e hy
    refine LCp.CompRestP.succ fun v hv => ?_
    have hlt : i < ps.length := by omega
    have hpi : ps[i]? = some ps[i] := by simp [hlt]
    obtain ⟨T, c', t1, t2, hv', hm⟩ := hT i ps[i] hpi
    have ev : v = .ref T := by
      have h1 : vs[i]? = some v := by simpa using hv
      rw [hv'] at h1
      exact (Option.some.inj h1).symm
    refine ⟨T, _, .int ps[i].1 t1, .int ps[i].2 t2, c', ev, hm, rfl, rfl, ?_⟩
    intro I oI C oC D m₂ h tk E' hC hx hx₂ F N off ne
    have hns : h.Ns C m₂ := hC.ns (N _ (.tail _ (.head _))).1
    have step : ∀ t, LCg.CompEnd h₀ L m { s₂ with heap := h, toks := tk } I oI C oC D (LCg.lst ys) (LCg.SrcAt h₀ l vs.toArray) (fun y news' => LCp.CompRestP prog w A h₀ L m env (.Name z pz) x x₂ scope cl s₂ (LCg.SrcAt h₀ l vs.toArray) (fun i v => vs.toArray[i]? = some v) Fin k (i + 1) (ys ++ [y]) news') (.int (sel ps[i]) t) { s₂ with heap := h, toks := tk } := by
      intro t
      refine LCg.CompEnd.intro F N news (fun p hp => hp) off (.inr ⟨_, hl, rfl, c, rfl⟩) (ih (i + 1) _ (by omega) ?_)
      rw [List.take_add_one, hpi, Option.toList_some, List.map_append]
      exact ints_snoc hy
    rcases hsel with ⟨rfl, rfl⟩ | ⟨rfl, rfl⟩
    · exact wpAny_Name (wpAny_loadName_local hkind (lookup_relabel_local hz) hns hx (step t1)) hdb
    · exact wpAny_Name (wpAny_loadName_local hkind (lookup_relabel_local hz) hns hx₂ (step t2)) hdb
/-- a list of the first, or of the second, of each pair -/
theorem pair_comp {itn z x x₂ : Str} {pz px px₂ tp pi : Pos} {tk : Nat} {scope : Scope} {cl : List (Str × Addr)} {pos : Pos} {Q : Value → Shared → Prop} {ps : List (Int × Int)} {l : Addr} {sel : Int × Int → Int}
    (F : Fr h₀ L s.heap m) (N : News h₀ L s.heap news) (hP : Pairs l ps news) (hps : ps.length ≤ 1000) (hh : A.handled = none)
    (hload : ∀ Q' : Value → Shared → Prop, Q' (.ref l) s → wpAny (model prog w) A (eval (.Name itn pi) env) Q' E s)
    (hclos : closureFor scope env = pure cl) (hcell : ∀ y ∈ scope.names, y.2 ≠ .cell) (hkind : scope.kind = .function)
    (hnames : ∀ y ∈ scope.names, y.2 = .local → scope.names.lookup y.1 = some .local) (hx : scope.names.lookup x = some .local) (hx₂ : scope.names.lookup x₂ = some .local) (hxx : x ≠ x₂)
    (hz : scope.names.lookup z = some .local) (hdb : (z == ("__debug__" : Str)) = false) (hsel : (z = x ∧ sel = Prod.fst) ∨ (z = x₂ ∧ sel = Prod.snd))
    (hs : ∀ v, foldedSetIterable (.Name itn pi) env v = pure v)
    (h : ∀ D ys h' tk', IntsAre ys (ps.map sel) → Fr h₀ L h' m → News h₀ L h' ((D, LCg.lst ys) :: news) → LCg.Off1 D news → Q (.ref D) { s with heap := h', toks := tk' }) :
    wpAny (model prog w) A (eval (.ListComp (.Name z pz) [⟨.Tuple [.Name x px, .Name x₂ px₂] tk tp, .Name itn pi, [], 0⟩] scope pos) env) Q E s := by
  refine LCp.ListComp_P F hclos hcell hkind hnames hx hx₂ hxx (hload _ ?_) hs
  obtain ⟨vs, c, hl, hlen, hT⟩ := hP
  refine LCp.SrcLP.ledger (k := c) hh F N hl (by rw [List.size_toArray, hlen, sizeLine_eq]; omega) fun g => ?_
  rw [List.size_toArray, hlen]
  exact pair_rest hz hkind hdb hsel hl hT (fun ys hy D h' tk' F' N' o1 => h D ys h' tk' hy F' N' o1) ps.length 0 [] rfl .nil
end
end Mine

namespace Mine
def sumTo (g : Nat → Int) : Nat → Int
  | 0 => 0
  | n + 1 => sumTo g n + g n
def pAt (ps : List (Int × Int)) (i : Nat) : Int × Int := ps.getD i (0, 0)
/-- what three things leave by 3 -/
def left3 (ps : List (Int × Int)) (i j k : Nat) : List Int := [(sumA [pAt ps i, pAt ps j, pAt ps k]).fmod 3, (sumB [pAt ps i, pAt ps j, pAt ps k]).fmod 3]
def isL (ps : List (Int × Int)) (t : List Int) (i j k : Nat) : Int := if left3 ps i j k = t then 1 else 0
def c1 (ps : List (Int × Int)) (t : List Int) (i j k : Nat) : Int := sumTo (isL ps t i j) k
def c2 (ps : List (Int × Int)) (t : List Int) (i j : Nat) : Int := sumTo (fun j' => c1 ps t i j' j') j
def c3 (ps : List (Int × Int)) (t : List Int) (i : Nat) : Int := sumTo (fun i' => c2 ps t i' i') i
/-- what the three loops keep -/
def LJ (fix : List (Addr × Obj)) (lT r : Addr) (a b : Int) (extra : List (Str × Int)) (m : Str → Option Value) (nw : List (Addr × Obj)) : Prop :=
  nw = fix ∧ (∃ t, m (Str.ofString "threes") = some (.int a t)) ∧ (∃ t, m (Str.ofString "sixes") = some (.int b t)) ∧ m (Str.ofString "left") = some (.ref r) ∧ m (Str.ofString "things") = some (.ref lT) ∧ ∀ e ∈ extra, ∃ t, m e.1 = some (.int e.2 t)
section
variable {prog : Program} {w : World} {A : Around} {E : Value → Shared → Prop} {s : Shared} {h₀ : Heap} {L : Addr} {news : List (Addr × Obj)}
theorem item_pairs {value slice : PySem.Expr} {l : Addr} {ps : List (Int × Int)} {i : Nat} {u : Tok} {Q : Value → Shared → Prop} (N : News h₀ L s.heap news) (hP : Pairs l ps news) (hi : i < ps.length) (hb : ps.length ≤ 1000)
    (h : ∀ (T : Addr) (c : Nat) (x y : Tok), (T, ({ cls := .type "tuple", data := .seq #[.int (pAt ps i).1 x, .int (pAt ps i).2 y] c } : Obj)) ∈ news → Q (.ref T) s)
    (hs : subscripted slice false (.ref l) (.int (i : Nat) u) = operate [.ref l, .int (i : Nat) u] (getItem (.ref l) (.int (i : Nat) u)) := by with_unfolding_all rfl) :
    wpAny (model prog w) A (subscriptTail value slice (.ref l) (.int (i : Nat) u)) Q E s := by
  obtain ⟨vs, c, hl, hlen, hT⟩ := hP
  have hL : s.heap.IsList l vs.toArray := ⟨_, (N _ hl).1, rfl, c, rfl⟩
  have hpi : ps[i]? = some (pAt ps i) := by
    unfold pAt
    rw [List.getD_eq_getElem?_getD, List.getElem?_eq_getElem hi]
    rfl
  obtain ⟨T, c', x, y, hv, hm⟩ := hT i _ hpi
  exact tail_any hL.typeIs slot_list_getitem.lookup (wpAny_getItem_list hL (by omega) (by omega) (x := .ref T) (by simpa using hv) (h T c' x y hm)) hs
theorem pairs3 {l T1 T2 T3 : Addr} {c a1 a2 a3 : Nat} {p1 p2 p3 : Int × Int} {x1 y1 x2 y2 x3 y3 : Tok} (hl : (l, W.listOf #[.ref T1, .ref T2, .ref T3] c) ∈ news)
    (h1 : (T1, ({ cls := .type "tuple", data := .seq #[.int p1.1 x1, .int p1.2 y1] a1 } : Obj)) ∈ news) (h2 : (T2, ({ cls := .type "tuple", data := .seq #[.int p2.1 x2, .int p2.2 y2] a2 } : Obj)) ∈ news)
    (h3 : (T3, ({ cls := .type "tuple", data := .seq #[.int p3.1 x3, .int p3.2 y3] a3 } : Obj)) ∈ news) : Pairs l [p1, p2, p3] news := by
  refine ⟨[.ref T1, .ref T2, .ref T3], c, hl, rfl, fun k p hk => ?_⟩
  match k, hk with
  | 0, hk => cases hk; exact ⟨T1, a1, x1, y1, rfl, h1⟩
  | 1, hk => cases hk; exact ⟨T2, a2, x2, y2, rfl, h2⟩
  | 2, hk => cases hk; exact ⟨T3, a3, x3, y3, rfl, h3⟩
end
theorem LJ.mk' {fix : List (Addr × Obj)} {lT r : Addr} {a b a' b' : Int} {t u : Tok} {extra : List (Str × Int)} {m : Str → Option Value} (h3 : m (Str.ofString "threes") = some (.int a' t)) (ea : a' = a) (h6 : m (Str.ofString "sixes") = some (.int b' u)) (eb : b' = b)
    (hl : m (Str.ofString "left") = some (.ref r)) (ht : m (Str.ofString "things") = some (.ref lT)) (he : ∀ e ∈ extra, ∃ t, m e.1 = some (.int e.2 t)) : LJ fix lT r a b extra m fix := by
  subst ea eb
  exact ⟨rfl, ⟨t, h3⟩, ⟨u, h6⟩, hl, ht, he⟩
theorem c1_pos {ps : List (Int × Int)} {t : List Int} {i j k : Nat} {a : Int} (h : left3 ps i j k = t) : a + c1 ps t i j k + 1 = a + c1 ps t i j (k + 1) := by
  have : c1 ps t i j (k + 1) = c1 ps t i j k + isL ps t i j k := rfl
  rw [this, isL, if_pos h, Int.add_assoc]
theorem c1_neg {ps : List (Int × Int)} {t : List Int} {i j k : Nat} {a : Int} (h : ¬ left3 ps i j k = t) : a + c1 ps t i j k = a + c1 ps t i j (k + 1) := by
  have : c1 ps t i j (k + 1) = c1 ps t i j k + isL ps t i j k := rfl
  rw [this, isL, if_neg h, Int.add_zero]
end Mine

namespace Mine
/-- the five tables -/
def tabD : Nat → List (PyData × PyData)
  | 0 => [(.str "&", .str "&amp;"), (.str "<", .str "&lt;"), (.str ">", .str "&gt;")]
  | 1 => [(.str "&", .str "&amp;"), (.str "<", .str "&lt;"), (.str ">", .str "&gt;"), (.str "\"", .str "&quot;"), (.str "\r", .str "&#13;"), (.str "\n", .str "&#10;"), (.str "\t", .str "&#09;")]
  | 2 => [(.str "&", .str "&amp;"), (.str ">", .str "&gt;"), (.str "\"", .str "&quot;")]
  | 3 => [(.str "&", .str "&amp;"), (.str "<", .str "&lt;"), (.str ">", .str "&gt;"), (.str "\r", .str "&#xD;")]
  | _ => [(.str "&", .str "&amp;"), (.str "<", .str "&lt;"), (.str "\"", .str "&quot;"), (.str "\r", .str "&#xD;"), (.str "\n", .str "&#xA;"), (.str "\t", .str "&#x9;")]
/-- the five hands -/
def handA (j : Nat) : Addr := [57, 64, 71, 78, 85].getD j 0
/-- the object is the j-th table -/
def IsTab (w : World) (j : Nat) (o : Obj) : Prop := ∃ kvs, o.IsDictOf (PySem.strKind PySem.Challenge.rw_ph0114_01.row.prog w) kvs ∧ PyProof.V.FlatPairs PyData.str kvs (tabD j)
end Mine

namespace Mine
def code (a : Nat) : Nat := [38, 60, 62, 34, 13, 10, 9, 97, 98].getD a 0
def sgn (a : Nat) : Str := ⟨#[code a]⟩
abbrev signsS : Str := Str.ofString "&<>\"\x0d\n\tab"
def textOf (n : Int) : Str := Txt.item signsS (n.fmod 9) ++ Txt.item signsS ((n.fdiv 9).fmod 9)
theorem item_sgn {k : Int} (h0 : 0 ≤ k) (h1 : k < 9) : Txt.item signsS k = sgn k.toNat := by
  have : k = 0 ∨ k = 1 ∨ k = 2 ∨ k = 3 ∨ k = 4 ∨ k = 5 ∨ k = 6 ∨ k = 7 ∨ k = 8 := by omega
  rcases this with rfl | rfl | rfl | rfl | rfl | rfl | rfl | rfl | rfl <;> decide +kernel
theorem text_signs (n : Int) : ∃ a b : Nat, a < 9 ∧ b < 9 ∧ textOf n = sgn a ++ sgn b := by
  have h1 := Int.fmod_nonneg_of_pos n (b := 9) (by decide)
  have h2 := Int.fmod_lt_of_pos n (b := 9) (by decide)
  have h3 := Int.fmod_nonneg_of_pos (n.fdiv 9) (b := 9) (by decide)
  have h4 := Int.fmod_lt_of_pos (n.fdiv 9) (b := 9) (by decide)
  exact ⟨(n.fmod 9).toNat, ((n.fdiv 9).fmod 9).toNat, by omega, by omega, by rw [textOf, item_sgn h1 h2, item_sgn h3 h4]⟩
theorem sgn2_cps (a b : Nat) : (sgn a ++ sgn b).cps = #[code a, code b] := rfl
theorem text_len (n : Int) : (textOf n).length ≤ 2 := by
  obtain ⟨a, b, _, _, e⟩ := text_signs n
  rw [e]
  exact Nat.le_refl 2
theorem keep_hand (P : Params) {j : Nat} (hj : j < 5) : keepIn (Mine.hd.heap_39 P) (.ref (handA j)) = true := by
  have : j = 0 ∨ j = 1 ∨ j = 2 ∨ j = 3 ∨ j = 4 := by omega
  rcases this with rfl | rfl | rfl | rfl | rfl <;> rfl
section
variable {w : World} {mean : ExcName → Option Value} {mg mb : Str → Option Value} {news : List (Addr × Obj)} {dp un : Nat} {gd : Option (List Code)} {cn : Str} {cs : Scope} {a : Addr} {ccd : Value} {cl : List (Str × Addr)} {outer : List Env} {A₀ : Around} {base h₀ : Heap} {L : Addr} {m : Str → Option Value} {s : Shared} {Q E : Value → Shared → Prop}
theorem esc_use {j : Nat} {x : Str} {t : Tok} (hj : j < 5) (hx : x.length ≤ 2) (B : Below A₀ base outer h₀) (F : Fr h₀ L s.heap m) (X : (Mine.hd.heap_39 w.params).In h₀) (N : News h₀ L s.heap news) (T : Top Mine.hd.view_39 (looseW Mine.hd.view_39 [Str.ofString "length_hint"]) mean mg mb h₀) (hk : cs.kind = .function)
    (hd : dp + 1 < recursionLimit) (hu : un + 8 < cLine) (hret : ∀ (t : Tok) (h' : Heap) (tk' : Nat), Fr h₀ L h' m → News h₀ L h' news → Q (.str (esc j x) t) { s with heap := h', toks := tk' }) :
    wpAny (model PySem.Challenge.rw_ph0114_01.row.prog w) (ktrTop dp un gd cn cs L a ccd cl outer) (call (.ref (handA j)) [.str x t]) Q E s := by
  have : j = 0 ∨ j = 1 ∨ j = 2 ∨ j = 3 ∨ j = 4 := by omega
  rcases this with rfl | rfl | rfl | rfl | rfl
  · exact esc0 w mean mg mb news x t hx dp un gd cn cs a ccd cl outer A₀ base h₀ L m s Q E B F X N T hk trivial hd hu hret
  · exact esc1 w mean mg mb news x t hx dp un gd cn cs a ccd cl outer A₀ base h₀ L m s Q E B F X N T hk trivial hd hu hret
  · exact esc2 w mean mg mb news x t hx dp un gd cn cs a ccd cl outer A₀ base h₀ L m s Q E B F X N T hk trivial hd hu hret
  · exact esc3 w mean mg mb news x t hx dp un gd cn cs a ccd cl outer A₀ base h₀ L m s Q E B F X N T hk trivial hd hu hret
  · exact esc4 w mean mg mb news x t hx dp un gd cn cs a ccd cl outer A₀ base h₀ L m s Q E B F X N T hk trivial hd hu hret
theorem len_use {x : Str} {t : Tok} (hx : x.length ≤ 1000) (B : Below A₀ base outer h₀) (F : Fr h₀ L s.heap m) (X : (Mine.hd.heap_39 w.params).In h₀) (N : News h₀ L s.heap news) (T : Top Mine.hd.view_39 (looseW Mine.hd.view_39 [Str.ofString "length_hint"]) mean mg mb h₀) (hk : cs.kind = .function)
    (hd : dp + 1 < recursionLimit) (hu : un + 8 < cLine) (hret : ∀ (t : Tok) (h' : Heap) (tk' : Nat), 0 < tk' → Fr h₀ L h' m → News h₀ L h' news → Q (.int x.length t) { s with heap := h', toks := tk' }) :
    wpAny (model PySem.Challenge.rw_ph0114_01.row.prog w) (ktrTop dp un gd cn cs L a ccd cl outer) (call (.ref 43) [.str x t]) Q E s :=
  lenHint w mean mg mb news x t hx dp un gd cn cs a ccd cl outer A₀ base h₀ L m s Q E B F X N T hk trivial hd hu hret
theorem cnt_use {x : Str} {t : Tok} {ub : Nat} (hx : x.cps.all (· < 128) = true) (h0 : 0 < ub) (h1 : ub < s.toks) (B : Below A₀ base outer h₀) (F : Fr h₀ L s.heap m) (X : (Mine.hd.heap_39 w.params).In h₀) (N : News h₀ L s.heap news) (T : Top Mine.hd.view_39 (looseW Mine.hd.view_39 [Str.ofString "length_hint"]) mean mg mb h₀) (hk : cs.kind = .function)
    (hd : dp + 1 < recursionLimit) (hu : un + 8 < cLine) (hret : ∀ (t : Tok) (h' : Heap) (tk' : Nat), 0 < tk' → Fr h₀ L h' m → News h₀ L h' news → Q (.int (cntAt x x.cps.size) t) { s with heap := h', toks := tk' }) :
    wpAny (model PySem.Challenge.rw_ph0114_01.row.prog w) (ktrTop dp un gd cn cs L a ccd cl outer) (call (.ref 35) [.str x t, .str (Str.ofString "&") ub]) Q E s :=
  countOf w mean mg mb news x t ub hx dp un gd cn cs a ccd cl outer A₀ base h₀ L m s Q E B F X N T hk ⟨h0, h1⟩ hd hu hret
end
def pairOf (j : Nat) (n : Int) : Int × Int := (((esc j (textOf n)).length : Int), cntAt (esc j (textOf n)) (esc j (textOf n)).cps.size)
/-- what the loop keeps: the list of the things, as long as the turns -/
def LoopJ (w : World) (lT D1 cA tA : Addr) (ws : List Value) (oC oT : Obj) (j : Nat) (tk : Tok) (ns : List Int) (i : Nat) (m : Str → Option Value) (nw : List (Addr × Obj)) : Prop :=
  ∃ (vs : List Value) (c : Nat) (tl : List (Addr × Obj)), nw = (lT, W.listOf vs.toArray c) :: (D1, W.listOf ws.toArray 0) :: (cA, oC) :: (tA, oT) :: tl ∧ (∀ p ∈ tl, lT < p.1) ∧ vs.length = i ∧
    (∀ (k : Nat) (p : Int × Int), ((ns.take i).map (pairOf j))[k]? = some p → ∃ (T : Addr) (c' : Nat) (x y : Tok), vs[k]? = some (.ref T) ∧ (T, ({ cls := .type "tuple", data := .seq #[.int p.1 x, .int p.2 y] c' } : Obj)) ∈ tl) ∧
    m (Str.ofString "things") = some (.ref lT) ∧ m (Str.ofString "hand") = some (.ref (handA j)) ∧ m (Str.ofString "signs") = some (.str (Str.ofString "&<>\"\x0d\n\tab") tk)
/-- what the j-th table makes of the a-th sign -/
def spell (j a : Nat) : Str := match (PySem.Spec.lookup (.str (sgn a)) (tabD j)).getD (.str (sgn a)) with
  | .str s => s
  | _ => Str.empty
def isRef (j a : Nat) : Bool := (PySem.Spec.lookup (.str (sgn a)) (tabD j)).isSome
def lookAll (j a : Nat) : Bool := match (PySem.Spec.lookup (.str (sgn a)) (tabD j)).getD (.str (sgn a)) with
  | .str _ => true
  | _ => false
theorem look_str {j a : Nat} (hj : j < 5) (ha : a < 9) : (PySem.Spec.lookup (.str (sgn a)) (tabD j)).getD (.str (sgn a)) = .str (spell j a) := by
  have h : ((List.range 5).all fun j => (List.range 9).all fun a => lookAll j a) = true := by decide +kernel
  have h1 := List.all_eq_true.mp (List.all_eq_true.mp h j (List.mem_range.mpr hj)) a (List.mem_range.mpr ha)
  unfold lookAll at h1
  unfold spell
  split at h1
  · rename_i s e; rw [e]
  · cases h1
/-- each text is written sign by sign -/
def pageOk (j a b : Nat) : Bool := (esc j (sgn a ++ sgn b)).cps.toList == (spell j a).cps.toList ++ (spell j b).cps.toList && (esc j (sgn a ++ sgn b)).cps.all (· < 128) && decide ((esc j (sgn a ++ sgn b)).length ≤ 1000) && decide (cntAt (esc j (sgn a ++ sgn b)) (esc j (sgn a ++ sgn b)).cps.size = (if isRef j a then 1 else 0) + (if isRef j b then 1 else 0))
theorem page0 : ((List.range 9).all fun a => (List.range 9).all fun b => pageOk 0 a b) = true := by decide +kernel
theorem page1 : ((List.range 9).all fun a => (List.range 9).all fun b => pageOk 1 a b) = true := by decide +kernel
theorem page2 : ((List.range 9).all fun a => (List.range 9).all fun b => pageOk 2 a b) = true := by decide +kernel
theorem page3 : ((List.range 9).all fun a => (List.range 9).all fun b => pageOk 3 a b) = true := by decide +kernel
theorem page4 : ((List.range 9).all fun a => (List.range 9).all fun b => pageOk 4 a b) = true := by decide +kernel
theorem page_ok {j a b : Nat} (hj : j < 5) (ha : a < 9) (hb : b < 9) : pageOk j a b = true := by
  have : j = 0 ∨ j = 1 ∨ j = 2 ∨ j = 3 ∨ j = 4 := by omega
  rcases this with rfl | rfl | rfl | rfl | rfl
  · exact List.all_eq_true.mp (List.all_eq_true.mp page0 a (List.mem_range.mpr ha)) b (List.mem_range.mpr hb)
  · exact List.all_eq_true.mp (List.all_eq_true.mp page1 a (List.mem_range.mpr ha)) b (List.mem_range.mpr hb)
  · exact List.all_eq_true.mp (List.all_eq_true.mp page2 a (List.mem_range.mpr ha)) b (List.mem_range.mpr hb)
  · exact List.all_eq_true.mp (List.all_eq_true.mp page3 a (List.mem_range.mpr ha)) b (List.mem_range.mpr hb)
  · exact List.all_eq_true.mp (List.all_eq_true.mp page4 a (List.mem_range.mpr ha)) b (List.mem_range.mpr hb)
theorem flat_str {v : Value} {x : Str} (h : PyProof.V.Flat v (.str x)) : ∃ t, v = .str x t := by
  have := h default
  cases this
  exact ⟨_, rfl⟩
theorem sgn_ascii {a b : Nat} (ha : a < 9) (hb : b < 9) : (sgn a ++ sgn b).cps.all (· < 128) = true := by
  have h : ((List.range 9).all fun a => (List.range 9).all fun b => (sgn a ++ sgn b).cps.all (· < 128)) = true := by decide +kernel
  exact List.all_eq_true.mp (List.all_eq_true.mp h a (List.mem_range.mpr ha)) b (List.mem_range.mpr hb)
theorem page_facts {j a b : Nat} (hj : j < 5) (ha : a < 9) (hb : b < 9) : esc j (sgn a ++ sgn b) = spell j a ++ spell j b ∧ (esc j (sgn a ++ sgn b)).cps.all (· < 128) = true ∧ (esc j (sgn a ++ sgn b)).length ≤ 1000 ∧
    cntAt (esc j (sgn a ++ sgn b)) (esc j (sgn a ++ sgn b)).cps.size = (if isRef j a then 1 else 0) + (if isRef j b then 1 else 0) := by
  have h := page_ok hj ha hb
  unfold pageOk at h
  simp only [Bool.and_eq_true, decide_eq_true_eq] at h
  obtain ⟨⟨⟨h1, h2⟩, h3⟩, h4⟩ := h
  refine ⟨?_, h2, h3, h4⟩
  have e := eq_of_beq h1
  refine PySem.Str.ext' (Array.toList_inj.mp ?_)
  rw [PySem.Str.cps_append, Array.toList_append]
  exact e
theorem pair_is {j a b : Nat} {n : Int} (e : textOf n = sgn a ++ sgn b) : pairOf j n = (((esc j (sgn a ++ sgn b)).length : Int), cntAt (esc j (sgn a ++ sgn b)) (esc j (sgn a ++ sgn b)).cps.size) := by
  unfold pairOf; rw [e]
end Mine

namespace Mine
section
variable {prog : Program} {w : World} {A : Around} {E : Value → Shared → Prop} {s : Shared} {h₀ : Heap} {L : Addr} {m : Str → Option Value} {env : Env} {news : List (Addr × Obj)}
theorem text_st {I : Addr} {x : Str} {t : Tok} : ∀ i (h h' : Heap) (o : Obj) (nw : List (Addr × Obj)), h.IsStrIter I "str_ascii_iterator" x t i → h.get? I = some o → h'.get? I = some o → (∀ b o, h₀.get? b = some o → h'.get? b = some o) → News h₀ L h' nw → True → h'.IsStrIter I "str_ascii_iterator" x t i :=
  fun _ _ _ o _ st e e' _ _ _ => by obtain ⟨o', q, r⟩ := st; rw [e] at q; cases q; exact ⟨o, e', r⟩
/-- y = [elt for x in a text], the text's signs below 128 -/
theorem assign_comp_text {elt : PySem.Expr} {itn x y : Str} {px py pi : Pos} {scope : Scope} {cl : List (Str × Addr)} {pos spos : Pos} {Q : Flow → Shared → Prop} {xt : Str} {t : Tok} {n : Nat} (hasc : xt.cps.all (· < 128) = true) (hlen : xt.cps.size = n) (hsz : n ≤ 1000) (hh : A.handled = none)
    (F : Fr h₀ L s.heap m) (N : News h₀ L s.heap news) (hLe : env.locals = L)
    (hload : ∀ Q' : Value → Shared → Prop, Q' (.str xt t) s → wpAny (model prog w) A (eval (.Name itn pi) env) Q' E s)
    (hsw : swapsWith (.ListComp elt [⟨.Name x px, .Name itn pi, [], 0⟩] scope pos) (some (.Name y py)) spos.line env = pure true)
    (hclos : closureFor scope env = pure cl) (hcell : ∀ z ∈ scope.names, z.2 ≠ .cell) (hkind : scope.kind = .function)
    (hnames : ∀ z ∈ scope.names, z.2 = .local → scope.names.lookup z.1 = some .local) (hx : scope.names.lookup x = some .local)
    (hy : env.kindOf y = some .local) (hp : (env.scope.kind == .class || (env.scope.kind == .module && env.locals != env.globals)) = false)
    (hs : ∀ v, foldedSetIterable (.Name itn pi) env v = pure v)
    (R : ∀ g, LCg.CompRest prog w A h₀ L m env elt x scope cl { s with heap := g } (fun _ => True) (SignAt xt) (LCg.FinA h₀ L m { s with heap := g } y Q) n 0 [] news) :
    wpAny (model prog w) A (exec (.Assign [.Name y py] (.ListComp elt [⟨.Name x px, .Name itn pi, [], 0⟩] scope pos) spos) env) Q E s := by
  subst hLe
  subst hlen
  rw [exec_Assign_Name_used _ _ _ _ hsw]
  refine wpAny_bind (wpAny_standAt (wpAny_bind ?_))
  show wpAny _ A (do let _ ← comprehension (.ListComp elt [⟨.Name x px, .Name itn pi, [], 0⟩] scope pos) scope env _ (newList []) false (eval (.Name itn pi) env) (some (assign (.Name y py) env))) _ _ s
  refine wpAny_bind (wpAny_mono (wpAny_comprehension_free (use := some (assign (.Name y py) env)) (Q := fun _ s' => Q .next s') rfl hs hclos hkind hnames
    (hload _ ?_)) (fun _ s' hq => wpAny_pure (wpAny_pure hq)) fun _ _ e => e)
  refine wpAny_pyIter_ascii hasc ?_
  refine LCg.block_U (Walks.strAscii hh s.heap.objs.size xt t) (by rw [sizeLine_eq]; omega) (fun i h st => by obtain ⟨o, e, _⟩ := st; exact ⟨o, e⟩) text_st hcell hkind hx ⟨_, Heap.get?_push_size _ rfl, rfl, rfl⟩ (fun b hb => ?_)
    (F.push _) (fun p hp => ⟨Heap.get?_push_of_some _ (N p hp).1, (N p hp).2⟩) (Nat.ne_of_lt F.ns.lt) (next_is_new F) (fun p hp => Nat.ne_of_lt (Heap.lt_size (N p hp).1)) trivial (R _) ?_
  · rw [List.mem_singleton.mp hb]
    show s.heap.objs.size < (s.heap.push _).objs.size
    rw [Heap.size_push]; exact Nat.lt_succ_self _
  · intro D C h' tk m' ys news' F' N' o1 hn hC₀ hD₀ hCL hDL hCD offC fin
    show wpAny _ A (assign (.Name y py) env (.ref D)) _ _ _
    refine wpAny_assign_Name (wpAny_storeName_local hy F'.ns (fun h₂ hn₂ hs₂ => ?_) hp)
    have hL₀ : h₀.get? env.locals = none := Heap.get?_none_of_le F'.above
    have F₂ : Fr h₀ env.locals h₂ (fun z => if z = y then some (.ref D) else m z) := ⟨hn₂, fun b o e => hs₂.extBut b o (fun q => by rw [q, hL₀] at e; cases e) (F'.keep b o e), F'.above⟩
    refine ⟨m', hn.sameBut hs₂ hCL, fun h'' hs'' => fin D h'' _ (F₂.change hs'' hCL hC₀) (fun p hp => ?_) o1⟩
    have z : h₂.get? p.1 = some p.2 := hs₂.extBut _ _ (N' p hp).2.1 (N' p hp).1
    refine ⟨hs''.extBut _ _ ?_ z, (N' p hp).2⟩
    rcases List.mem_cons.mp hp with rfl | hp
    · exact Ne.symm hCD
    · exact offC p hp
/-- [elt for x in a text if ct] -/
theorem comp_text_if {ct elt : PySem.Expr} {itn x : Str} {px pi : Pos} {scope : Scope} {cl : List (Str × Addr)} {pos : Pos} {Q : Value → Shared → Prop} {xt : Str} {t : Tok} {n : Nat} (hasc : xt.cps.all (· < 128) = true) (hlen : xt.cps.size = n) (hsz : n ≤ 1000) (hh : A.handled = none)
    (F : Fr h₀ L s.heap m) (N : News h₀ L s.heap news)
    (hload : ∀ Q' : Value → Shared → Prop, Q' (.str xt t) s → wpAny (model prog w) A (eval (.Name itn pi) env) Q' E s)
    (hclos : closureFor scope env = pure cl) (hcell : ∀ z ∈ scope.names, z.2 ≠ .cell) (hkind : scope.kind = .function)
    (hnames : ∀ z ∈ scope.names, z.2 = .local → scope.names.lookup z.1 = some .local) (hx : scope.names.lookup x = some .local)
    (hs : ∀ v, foldedSetIterable (.Name itn pi) env v = pure v)
    (R : ∀ g, LCt.CompRestT prog w A h₀ L m env ct elt x scope cl { s with heap := g } (fun _ => True) (SignAt xt) (LCg.FinE h₀ L m { s with heap := g } Q) n 0 [] news) :
    wpAny (model prog w) A (eval (.ListComp elt [⟨.Name x px, .Name itn pi, [ct], 0⟩] scope pos) env) Q E s := by
  subst hlen
  rw [eval_ListComp]
  refine wpAny_comprehension_free (use := none) rfl hs hclos hkind hnames (hload _ ?_)
  refine wpAny_pyIter_ascii hasc ?_
  refine LCt.block_T (Walks.strAscii hh s.heap.objs.size xt t) (by rw [sizeLine_eq]; omega) (fun i h st => by obtain ⟨o, e, _⟩ := st; exact ⟨o, e⟩) text_st hcell hkind hx ⟨_, Heap.get?_push_size _ rfl, rfl, rfl⟩ (fun b hb => ?_)
    (F.push _) (fun p hp => ⟨Heap.get?_push_of_some _ (N p hp).1, (N p hp).2⟩) (Nat.ne_of_lt F.ns.lt) (next_is_new F) (fun p hp => Nat.ne_of_lt (Heap.lt_size (N p hp).1)) trivial (R _) ?_
  · rw [List.mem_singleton.mp hb]
    show s.heap.objs.size < (s.heap.push _).objs.size
    rw [Heap.size_push]; exact Nat.lt_succ_self _
  · intro D C h tk m' ys news' F' N' o1 hn hC₀ hD₀ hCL hDL hCD offC fin
    refine ⟨m', hn, fun h'' hs'' => fin D h'' tk (F'.change hs'' hCL hC₀) (fun p hp => ?_) o1⟩
    refine ⟨hs''.extBut _ _ ?_ (N' p hp).1, (N' p hp).2⟩
    rcases List.mem_cons.mp hp with rfl | hp
    · exact Ne.symm hCD
    · exact offC p hp
theorem comp_text_if2 {ct elt : PySem.Expr} {itn x : Str} {px pi : Pos} {scope : Scope} {cl : List (Str × Addr)} {pos : Pos} {Q : Value → Shared → Prop} {xt : Str} {t : Tok} {n : Nat} (P : List Value → Prop) (hasc : xt.cps.all (· < 128) = true) (hlen : xt.cps.size = n) (hsz : n ≤ 1000) (hh : A.handled = none)
    (F : Fr h₀ L s.heap m) (N : News h₀ L s.heap news)
    (hload : ∀ Q' : Value → Shared → Prop, Q' (.str xt t) s → wpAny (model prog w) A (eval (.Name itn pi) env) Q' E s)
    (hclos : closureFor scope env = pure cl) (hcell : ∀ z ∈ scope.names, z.2 ≠ .cell) (hkind : scope.kind = .function)
    (hnames : ∀ z ∈ scope.names, z.2 = .local → scope.names.lookup z.1 = some .local) (hx : scope.names.lookup x = some .local)
    (hs : ∀ v, foldedSetIterable (.Name itn pi) env v = pure v)
    (R : ∀ g (Fin : List Value → List (Addr × Obj) → Prop), (∀ ys, P ys → Fin ys news) → LCt.CompRestT prog w A h₀ L m env ct elt x scope cl { s with heap := g } (fun _ => True) (SignAt xt) Fin n 0 [] news)
    (fin : ∀ ys D h tk, P ys → Fr h₀ L h m → News h₀ L h ((D, LCg.lst ys) :: news) → LCg.Off1 D news → Q (.ref D) { s with heap := h, toks := tk }) :
    wpAny (model prog w) A (eval (.ListComp elt [⟨.Name x px, .Name itn pi, [ct], 0⟩] scope pos) env) Q E s :=
  comp_text_if hasc hlen hsz hh F N hload hclos hcell hkind hnames hx hs fun g => R g _ fun ys hy D h tk F' N' o1 => fin ys D h tk hy F' N' o1
end
end Mine

namespace Mine
section
variable {prog : Program} {w : World} {A : Around} {E : Value → Shared → Prop} {s : Shared} {h₀ : Heap} {L : Addr} {news : List (Addr × Obj)}
/-- an item of a list of two, at a written place -/
theorem item_fst {value slice : PySem.Expr} {l : Addr} {x y : Value} {u : Tok} {Q : Value → Shared → Prop} (N : News h₀ L s.heap news) (hl : (l, LCg.lst [x, y]) ∈ news) (h : Q x s)
    (hs : subscripted slice false (.ref l) (.int 0 u) = operate [.ref l, .int 0 u] (getItem (.ref l) (.int 0 u)) := by with_unfolding_all rfl) :
    wpAny (model prog w) A (subscriptTail value slice (.ref l) (.int 0 u)) Q E s := by
  have hL : s.heap.IsList l [x, y].toArray := ⟨_, (N _ hl).1, rfl, _, rfl⟩
  exact tail_any hL.typeIs slot_list_getitem.lookup (wpAny_getItem_list hL (by decide) (by decide) (x := x) rfl h) hs
theorem item_snd {value slice : PySem.Expr} {l : Addr} {x y : Value} {u : Tok} {Q : Value → Shared → Prop} (N : News h₀ L s.heap news) (hl : (l, LCg.lst [x, y]) ∈ news) (h : Q y s)
    (hs : subscripted slice false (.ref l) (.int 1 u) = operate [.ref l, .int 1 u] (getItem (.ref l) (.int 1 u)) := by with_unfolding_all rfl) :
    wpAny (model prog w) A (subscriptTail value slice (.ref l) (.int 1 u)) Q E s := by
  have hL : s.heap.IsList l [x, y].toArray := ⟨_, (N _ hl).1, rfl, _, rfl⟩
  exact tail_any hL.typeIs slot_list_getitem.lookup (wpAny_getItem_list hL (by decide) (by decide) (x := y) rfl h) hs
end
end Mine

namespace Mine
theorem sumTo_nonneg {g : Nat → Int} (h : ∀ i, 0 ≤ g i) : ∀ n, 0 ≤ sumTo g n
  | 0 => Int.le_refl 0
  | n + 1 => Int.add_nonneg (sumTo_nonneg h n) (h n)
theorem sumTo_pos {g : Nat → Int} (h : ∀ i, 0 ≤ g i) {i : Nat} (hi : 0 < g i) : ∀ n, i < n → 0 < sumTo g n
  | n + 1, hn => by
    show 0 < sumTo g n + g n
    have h1 := sumTo_nonneg h n
    have h2 := h n
    rcases Nat.lt_or_ge i n with hlt | hge
    · have := sumTo_pos h hi n hlt
      omega
    · have : i = n := by omega
      subst this
      omega
theorem isL_nonneg (ps : List (Int × Int)) (t : List Int) (i j k : Nat) : 0 ≤ isL ps t i j k := by
  unfold isL; split <;> decide
theorem c1_nonneg (ps : List (Int × Int)) (t : List Int) (i j k : Nat) : 0 ≤ c1 ps t i j k := sumTo_nonneg (fun _ => isL_nonneg ps t i j _) k
theorem c2_nonneg (ps : List (Int × Int)) (t : List Int) (i j : Nat) : 0 ≤ c2 ps t i j := sumTo_nonneg (fun _ => c1_nonneg ps t i _ _) j
theorem c3_pos {ps : List (Int × Int)} {t : List Int} {i j k n : Nat} (hi : i < n) (hj : j < i) (hk : k < j) (h : left3 ps i j k = t) : 0 < c3 ps t n := by
  refine sumTo_pos (fun i' => c2_nonneg ps t i' i') (i := i) ?_ n hi
  refine sumTo_pos (fun j' => c1_nonneg ps t i j' j') (i := j) ?_ i hj
  refine sumTo_pos (fun k' => isL_nonneg ps t i j k') (i := k) ?_ j hk
  show 0 < isL ps t i j k
  unfold isL
  rw [if_pos h]
  decide
/-- the class of a pair by 3 -/
def cl (p : Int × Int) : Int := 3 * (p.1 % 3) + p.2 % 3
def cnt (ps : List (Int × Int)) (c : Int) (n : Nat) : Int := sumTo (fun i => if cl (pAt ps i) = c then 1 else 0) n
theorem cnt_succ (ps : List (Int × Int)) (c : Int) (n : Nat) : cnt ps c (n + 1) = cnt ps c n + if cl (pAt ps n) = c then 1 else 0 := rfl
theorem cnt_nonneg (ps : List (Int × Int)) (c : Int) (n : Nat) : 0 ≤ cnt ps c n := sumTo_nonneg (fun i => by split <;> decide) n
theorem cnt_all (ps : List (Int × Int)) : ∀ n : Nat, cnt ps 0 n + cnt ps 1 n + cnt ps 2 n + cnt ps 3 n + cnt ps 4 n + cnt ps 5 n + cnt ps 6 n + cnt ps 7 n + cnt ps 8 n = n
  | 0 => rfl
  | n + 1 => by
    have ih := cnt_all ps n
    simp only [cnt_succ]
    have : cl (pAt ps n) = 0 ∨ cl (pAt ps n) = 1 ∨ cl (pAt ps n) = 2 ∨ cl (pAt ps n) = 3 ∨ cl (pAt ps n) = 4 ∨ cl (pAt ps n) = 5 ∨ cl (pAt ps n) = 6 ∨ cl (pAt ps n) = 7 ∨ cl (pAt ps n) = 8 := by unfold cl; omega
    rcases this with h | h | h | h | h | h | h | h | h <;> rw [h] <;> simp <;> omega
theorem cnt_last {ps : List (Int × Int)} {c s : Int} (hs : 0 ≤ s) : ∀ n : Nat, s + 1 ≤ cnt ps c n → ∃ i, i < n ∧ cl (pAt ps i) = c ∧ s ≤ cnt ps c i
  | 0, h => by have : cnt ps c 0 = 0 := rfl; omega
  | n + 1, h => by
    rw [cnt_succ] at h
    by_cases e : cl (pAt ps n) = c
    · rw [if_pos e] at h
      exact ⟨n, by omega, e, by omega⟩
    · rw [if_neg e] at h
      obtain ⟨i, h1, h2, h3⟩ := cnt_last (ps := ps) (c := c) hs n (by omega)
      exact ⟨i, by omega, h2, h3⟩
def Zero3 (ps : List (Int × Int)) (i j k : Nat) : Prop := ((pAt ps i).1 + (pAt ps j).1 + (pAt ps k).1) % 3 = 0 ∧ ((pAt ps i).2 + (pAt ps j).2 + (pAt ps k).2) % 3 = 0
theorem left_zero {ps : List (Int × Int)} {i j k : Nat} (h : Zero3 ps i j k) : left3 ps i j k = [0, 0] := by
  obtain ⟨h1, h2⟩ := h
  unfold left3 sumA sumB
  simp only [List.map_cons, List.map_nil, List.sum_cons, List.sum_nil]
  rw [Int.fmod_eq_emod_of_nonneg _ (by decide), Int.fmod_eq_emod_of_nonneg _ (by decide)]
  congr 1
  · omega
  · congr 1
    omega
theorem three_pos {ps : List (Int × Int)} {i j k n : Nat} (hi : i < n) (hj : j < n) (hk : k < n) (hij : i ≠ j) (hik : i ≠ k) (hjk : j ≠ k) (h : Zero3 ps i j k) : 0 < c3 ps [0, 0] n := by
  obtain ⟨h1, h2⟩ := h
  rcases Nat.lt_or_ge i j with a | a <;> rcases Nat.lt_or_ge i k with b | b <;> rcases Nat.lt_or_ge j k with c | c
  · exact c3_pos (i := k) (j := j) (k := i) (by omega) (by omega) (by omega) (left_zero ⟨by omega, by omega⟩)
  · exact c3_pos (i := j) (j := k) (k := i) (by omega) (by omega) (by omega) (left_zero ⟨by omega, by omega⟩)
  · omega
  · exact c3_pos (i := j) (j := i) (k := k) (by omega) (by omega) (by omega) (left_zero ⟨by omega, by omega⟩)
  · exact c3_pos (i := k) (j := i) (k := j) (by omega) (by omega) (by omega) (left_zero ⟨by omega, by omega⟩)
  · omega
  · exact c3_pos (i := i) (j := k) (k := j) (by omega) (by omega) (by omega) (left_zero ⟨by omega, by omega⟩)
  · exact c3_pos (i := i) (j := j) (k := k) (by omega) (by omega) (by omega) (left_zero ⟨by omega, by omega⟩)
theorem cnt_two {ps : List (Int × Int)} {n : Nat} (hz : ¬ 0 < c3 ps [0, 0] n) (c : Int) : cnt ps c n ≤ 2 := by
  rcases Int.lt_or_le 2 (cnt ps c n) with h | h
  · exfalso
    obtain ⟨i, i1, i2, i3⟩ := cnt_last (ps := ps) (c := c) (s := 2) (by decide) n (by omega)
    obtain ⟨j, j1, j2, j3⟩ := cnt_last (ps := ps) (c := c) (s := 1) (by decide) i (by omega)
    obtain ⟨k, k1, k2, k3⟩ := cnt_last (ps := ps) (c := c) (s := 0) (by decide) j (by omega)
    refine hz (three_pos (i := i) (j := j) (k := k) i1 (by omega) (by omega) (by omega) (by omega) (by omega) ?_)
    unfold cl at i2 j2 k2
    exact ⟨by omega, by omega⟩
  · exact h
def line3 (u v w : Int) : Bool := u != v && u != w && v != w && (u / 3 + v / 3 + w / 3) % 3 == 0 && (u % 3 + v % 3 + w % 3) % 3 == 0
theorem line_no {ps : List (Int × Int)} {n : Nat} (hz : ¬ 0 < c3 ps [0, 0] n) {u v w : Int} (hl : line3 u v w = true) : (decide (1 ≤ cnt ps u n) && decide (1 ≤ cnt ps v n) && decide (1 ≤ cnt ps w n)) = false := by
  rcases hb : (decide (1 ≤ cnt ps u n) && decide (1 ≤ cnt ps v n) && decide (1 ≤ cnt ps w n)) with _ | _
  · rfl
  · exfalso
    simp only [Bool.and_eq_true, decide_eq_true_eq] at hb
    obtain ⟨⟨hu, hv⟩, hw⟩ := hb
    unfold line3 at hl
    simp only [Bool.and_eq_true, bne_iff_ne, ne_eq, beq_iff_eq] at hl
    obtain ⟨⟨⟨⟨n1, n2⟩, n3⟩, e1⟩, e2⟩ := hl
    obtain ⟨i, i1, i2, _⟩ := cnt_last (ps := ps) (c := u) (s := 0) (by decide) n hu
    obtain ⟨j, j1, j2, _⟩ := cnt_last (ps := ps) (c := v) (s := 0) (by decide) n hv
    obtain ⟨k, k1, k2, _⟩ := cnt_last (ps := ps) (c := w) (s := 0) (by decide) n hw
    refine hz (three_pos (i := i) (j := j) (k := k) i1 j1 k1 ?_ ?_ ?_ ?_)
    · rintro rfl; exact n1 (i2.symm.trans j2)
    · rintro rfl; exact n2 (i2.symm.trans k2)
    · rintro rfl; exact n3 (j2.symm.trans k2)
    · unfold cl at i2 j2 k2
      exact ⟨by omega, by omega⟩
theorem five_line : ∀ e0 e1 e2 e3 e4 e5 e6 e7 e8 : Bool, (e0 && e1 && e2) = false → (e3 && e4 && e5) = false → (e6 && e7 && e8) = false → (e0 && e3 && e6) = false → (e1 && e4 && e7) = false → (e2 && e5 && e8) = false → (e0 && e4 && e8) = false → (e1 && e5 && e6) = false → (e2 && e3 && e7) = false → (e0 && e5 && e7) = false → (e1 && e3 && e8) = false → (e2 && e4 && e6) = false →
  e0.toNat + e1.toNat + e2.toNat + e3.toNat + e4.toNat + e5.toNat + e6.toNat + e7.toNat + e8.toNat ≤ 4 := by decide +kernel
theorem two_bit {z : Int} (h0 : 0 ≤ z) (h : z ≤ 2) : z ≤ 2 * ((decide (1 ≤ z)).toNat : Int) := by
  by_cases e : 1 ≤ z
  · rw [decide_eq_true e]; exact h
  · rw [decide_eq_false e]; show z ≤ 2 * 0; omega
theorem many_threes (ps : List (Int × Int)) (_ : ps.length = 9) : 0 < c3 ps [0, 0] 9 := by
  rcases Decidable.em (0 < c3 ps [0, 0] 9) with h | hz
  · exact h
  · exfalso
    have f := five_line _ _ _ _ _ _ _ _ _ (line_no hz (u := 0) (v := 1) (w := 2) (by decide)) (line_no hz (u := 3) (v := 4) (w := 5) (by decide)) (line_no hz (u := 6) (v := 7) (w := 8) (by decide)) (line_no hz (u := 0) (v := 3) (w := 6) (by decide)) (line_no hz (u := 1) (v := 4) (w := 7) (by decide)) (line_no hz (u := 2) (v := 5) (w := 8) (by decide))
      (line_no hz (u := 0) (v := 4) (w := 8) (by decide)) (line_no hz (u := 1) (v := 5) (w := 6) (by decide)) (line_no hz (u := 2) (v := 3) (w := 7) (by decide)) (line_no hz (u := 0) (v := 5) (w := 7) (by decide)) (line_no hz (u := 1) (v := 3) (w := 8) (by decide)) (line_no hz (u := 2) (v := 4) (w := 6) (by decide))
    have a := cnt_all ps 9
    have b : ∀ c, cnt ps c 9 ≤ 2 * ((decide (1 ≤ cnt ps c 9)).toNat : Int) := fun c => two_bit (cnt_nonneg ps c 9) (cnt_two hz c)
    have b0 := b 0
    have b1 := b 1
    have b2 := b 2
    have b3 := b 3
    have b4 := b 4
    have b5 := b 5
    have b6 := b 6
    have b7 := b 7
    have b8 := b 8
    omega
end Mine

namespace Mine
/-- of degree below n: n differences leave nought -/
def Deg : Nat → (Int → Int → Int → Int) → Prop
  | 0, f => ∀ t x y, f t x y = 0
  | n + 1, f => ∀ u a b, Deg n (fun t x y => f t x y - f (t + u) (x + a) (y + b))
theorem Deg.zero : ∀ n, Deg n (fun _ _ _ => 0)
  | 0 => fun _ _ _ => rfl
  | n + 1 => fun _ _ _ => Deg.zero n
theorem Deg.congr {n : Nat} {f g : Int → Int → Int → Int} (h : Deg n f) (e : ∀ t x y, f t x y = g t x y) : Deg n g := by
  have : f = g := funext fun t => funext fun x => funext fun y => e t x y
  rw [← this]; exact h
theorem Deg.add : ∀ {n : Nat} {f g : Int → Int → Int → Int}, Deg n f → Deg n g → Deg n (fun t x y => f t x y + g t x y)
  | 0, f, g, hf, hg => fun t x y => by show f t x y + g t x y = 0; rw [hf t x y, hg t x y]; rfl
  | n + 1, f, g, hf, hg => fun u a b => Deg.congr (Deg.add (hf u a b) (hg u a b)) fun t x y => by dsimp only; omega
theorem Deg.neg : ∀ {n : Nat} {f : Int → Int → Int → Int}, Deg n f → Deg n (fun t x y => - f t x y)
  | 0, f, hf => fun t x y => by show - f t x y = 0; rw [hf t x y]; rfl
  | n + 1, f, hf => fun u a b => Deg.congr (Deg.neg (hf u a b)) fun t x y => by dsimp only; omega
theorem Deg.up : ∀ {n : Nat} {f : Int → Int → Int → Int}, Deg n f → Deg (n + 1) f
  | 0, f, hf => fun u a b t x y => by show f t x y - f (t + u) (x + a) (y + b) = 0; rw [hf, hf]; rfl
  | n + 1, f, hf => fun u a b => Deg.up (hf u a b)
theorem Deg.mul : ∀ (N m n : Nat) {f g : Int → Int → Int → Int}, m + n ≤ N → Deg m f → Deg n g → Deg (m + n - 1) (fun t x y => f t x y * g t x y)
  | _, 0, n, f, g, _, hf, _ => Deg.congr (Deg.zero _) fun t x y => by rw [hf t x y, Int.zero_mul]
  | _, m + 1, 0, f, g, _, _, hg => Deg.congr (Deg.zero _) fun t x y => by rw [hg t x y, Int.mul_zero]
  | 0, m + 1, n + 1, _, _, h, _, _ => by omega
  | N + 1, m + 1, n + 1, f, g, h, hf, hg => by
    have e : m + 1 + (n + 1) - 1 = (m + n) + 1 := by omega
    rw [e]
    intro u a b
    have h1 := Deg.mul N (m + 1) n (by omega) hf (hg u a b)
    have h2 := Deg.mul N m (n + 1) (by omega) (hf u a b) hg
    have h3 := Deg.mul N m n (by omega) (hf u a b) (hg u a b)
    have e1 : m + 1 + n - 1 = m + n := by omega
    have e2 : m + (n + 1) - 1 = m + n := by omega
    rw [e1] at h1
    rw [e2] at h2
    have h3' : Deg (m + n) (fun t x y => (f t x y - f (t + u) (x + a) (y + b)) * (g t x y - g (t + u) (x + a) (y + b))) := by
      rcases Nat.eq_zero_or_pos (m + n) with z | z
      · rw [z] at h3 ⊢
        exact h3
      · have e3 : m + n = (m + n - 1) + 1 := by omega
        rw [e3]; exact h3.up
    refine Deg.congr (Deg.add (Deg.add h1 h2) (Deg.neg h3')) fun t x y => ?_
    dsimp only
    grind
theorem Deg.const (c : Int) : Deg 1 (fun _ _ _ => c) := fun _ _ _ _ _ _ => Int.sub_self c
theorem Deg.lin (p q r c : Int) : Deg 2 (fun t x y => p * t + q * x + r * y + c) := fun u a b => Deg.congr (Deg.const (-(p * u + q * a + r * b))) fun t x y => by grind
/-- alternating sum over the sets of the first n -/
def Alt (p : Nat → Int × Int) (f : Int → Int → Int → Int) : Nat → Int → Int → Int → Int
  | 0, t, x, y => f t x y
  | n + 1, t, x, y => Alt p f n t x y - Alt p f n (t + 1) (x + (p n).1) (y + (p n).2)
theorem alt_sub {p : Nat → Int × Int} {f g : Int → Int → Int → Int} : ∀ n t x y, Alt p (fun t x y => f t x y - g t x y) n t x y = Alt p f n t x y - Alt p g n t x y
  | 0, t, x, y => rfl
  | n + 1, t, x, y => by simp only [Alt, alt_sub n]; omega
theorem alt_shift {p : Nat → Int × Int} {f : Int → Int → Int → Int} {u a b : Int} : ∀ n t x y, Alt p (fun t x y => f (t + u) (x + a) (y + b)) n t x y = Alt p f n (t + u) (x + a) (y + b)
  | 0, t, x, y => rfl
  | n + 1, t, x, y => by
    simp only [Alt, alt_shift n]
    rw [Int.add_right_comm t, Int.add_right_comm x, Int.add_right_comm y]
theorem alt_deg {p : Nat → Int × Int} : ∀ (n : Nat) {f : Int → Int → Int → Int}, Deg n f → ∀ t x y, Alt p f n t x y = 0
  | 0, f, h, t, x, y => h t x y
  | n + 1, f, h, t, x, y => by
    have := alt_deg (p := p) n (h 1 (p n).1 (p n).2) t x y
    rw [alt_sub, alt_shift] at this
    exact this
def qq (x : Int) : Int := (1 + x) * (1 - x)
def ind (x y : Int) : Int := qq x * qq y
def hh3 (t x y : Int) : Int := qq t * ind x y
theorem deg_hh3 : Deg 9 hh3 := by
  have l : ∀ p q r : Int, Deg 3 (fun t x y => qq (p * t + q * x + r * y)) := fun p q r =>
    Deg.congr (Deg.mul 4 2 2 (by decide) (Deg.lin p q r 1) (Deg.lin (-p) (-q) (-r) 1)) fun t x y => by unfold qq; grind
  have h := Deg.mul 8 3 5 (by decide) (l 1 0 0) (Deg.mul 6 3 3 (by decide) (l 0 1 0) (l 0 0 1))
  refine Deg.up (Deg.up (Deg.congr h fun t x y => ?_))
  unfold hh3 ind
  simp only [Int.one_mul, Int.zero_mul, Int.add_zero, Int.zero_add]
/-- sum over the sets of the first n, weighed by size -/
def US (p : Nat → Int × Int) : Nat → (Nat → Int) → Int → Int → Int
  | 0, w, x, y => w 0 * ind x y
  | n + 1, w, x, y => US p n w x y + US p n (fun s => w (s + 1)) (x + (p n).1) (y + (p n).2)
theorem us_neg {p : Nat → Int × Int} : ∀ n (w : Nat → Int) x y, US p n (fun s => - w s) x y = - US p n w x y
  | 0, w, x, y => Int.neg_mul _ _
  | n + 1, w, x, y => by simp only [US, us_neg n]; omega
theorem us_add {p : Nat → Int × Int} : ∀ n (w v : Nat → Int) x y, US p n (fun s => w s + v s) x y = US p n w x y + US p n v x y
  | 0, w, v, x, y => Int.add_mul _ _ _
  | n + 1, w, v, x, y => by simp only [US, us_add n]; omega
theorem us_zero {p : Nat → Int × Int} : ∀ n x y, US p n (fun _ => 0) x y = 0
  | 0, x, y => Int.zero_mul _
  | n + 1, x, y => by simp only [US, us_zero n]; rfl
def sg : Nat → Int
  | 0 => 1
  | n + 1 => - sg n
theorem alt_us {p : Nat → Int × Int} : ∀ n t x y, Alt p hh3 n t x y = US p n (fun s => sg s * qq (t + s)) x y
  | 0, t, x, y => by simp [Alt, US, hh3, sg]
  | n + 1, t, x, y => by
    have e : (fun s : Nat => sg (s + 1) * qq (t + ((s + 1 : Nat) : Int))) = fun s : Nat => - (sg s * qq (t + 1 + (s : Int))) := by
      funext s
      have : t + ((s + 1 : Nat) : Int) = t + 1 + (s : Int) := by omega
      rw [this, sg, Int.neg_mul]
    simp only [Alt, US, alt_us n]
    rw [e, us_neg]
    omega
theorem us_mod {p : Nat → Int × Int} : ∀ n (w v : Nat → Int) x y, (∀ s, s ≤ n → (3 : Int) ∣ w s - v s) → (3 : Int) ∣ US p n w x y - US p n v x y
  | 0, w, v, x, y, h => by
    show (3 : Int) ∣ w 0 * ind x y - v 0 * ind x y
    rw [← Int.sub_mul]
    exact Int.dvd_mul_of_dvd_left (h 0 (Nat.le_refl 0))
  | n + 1, w, v, x, y, h => by
    have h1 := us_mod (p := p) n w v x y fun s hs => h s (by omega)
    have h2 := us_mod (p := p) n (fun s => w (s + 1)) (fun s => v (s + 1)) (x + (p n).1) (y + (p n).2) fun s hs => h (s + 1) (by omega)
    show (3 : Int) ∣ (US p n w x y + _) - (US p n v x y + _)
    omega
/-- over the sets of size s -/
def WS (p : Nat → Int × Int) : Nat → Nat → Int → Int → Int
  | _, 0, x, y => ind x y
  | 0, _ + 1, _, _ => 0
  | n + 1, s + 1, x, y => WS p n (s + 1) x y + WS p n s (x + (p n).1) (y + (p n).2)
def dl (s r : Nat) : Int := if r = s then 1 else 0
theorem us_ws {p : Nat → Int × Int} : ∀ n s x y, US p n (dl s) x y = WS p n s x y
  | 0, 0, x, y => by simp [US, WS, dl]
  | 0, s + 1, x, y => by simp [US, WS, dl]
  | n + 1, 0, x, y => by
    have e : (fun s => dl 0 (s + 1)) = fun _ => 0 := by funext s; simp [dl]
    simp only [US, e, us_zero, us_ws n 0]
    cases n <;> simp [WS]
  | n + 1, s + 1, x, y => by
    have e : (fun r => dl (s + 1) (r + 1)) = dl s := by funext r; simp [dl]
    simp only [US, e, us_ws n]
    rfl
theorem ws_zero {p : Nat → Int × Int} (n : Nat) (x y : Int) : WS p n 0 x y = ind x y := by cases n <;> rfl
theorem ws_over {p : Nat → Int × Int} : ∀ n s x y, n < s → WS p n s x y = 0
  | 0, s + 1, x, y, _ => rfl
  | n + 1, s + 1, x, y, h => by simp only [WS, ws_over n (s + 1) _ _ (by omega), ws_over n s _ _ (by omega)]; rfl
theorem qq_neg (x : Int) : qq (-x) = qq x := by unfold qq; grind
theorem ind_neg (x y : Int) : ind (-x) (-y) = ind x y := by unfold ind; rw [qq_neg, qq_neg]
/-- a set and what it leaves -/
theorem ws_compl {p : Nat → Int × Int} : ∀ n s r x y, s + r = n → WS p n s x y = WS p n r (-x - sumTo (fun i => (p i).1) n) (-y - sumTo (fun i => (p i).2) n)
  | 0, 0, 0, x, y, _ => by
    show ind x y = ind (-x - 0) (-y - 0)
    rw [Int.sub_zero, Int.sub_zero, ind_neg]
  | 0, s + 1, r, x, y, h => by omega
  | 0, 0, r + 1, x, y, h => by omega
  | n + 1, 0, r + 1, x, y, h => by
    have hr : r = n := by omega
    subst hr
    have ih := ws_compl (p := p) r 0 r x y (by omega)
    simp only [WS, sumTo]
    rw [ws_over r (r + 1) _ _ (by omega), ← ws_zero (p := p) r x y, ih, Int.zero_add]
    congr 1 <;> omega
  | n + 1, s + 1, 0, x, y, h => by
    have hr : s = n := by omega
    subst hr
    have ih := ws_compl (p := p) s s 0 (x + (p s).1) (y + (p s).2) (by omega)
    simp only [WS, sumTo]
    rw [ws_over s (s + 1) _ _ (by omega), ih, Int.zero_add, ws_zero]
    congr 1 <;> omega
  | n + 1, s + 1, r + 1, x, y, h => by
    have i1 := ws_compl (p := p) n (s + 1) r x y (by omega)
    have i2 := ws_compl (p := p) n s (r + 1) (x + (p n).1) (y + (p n).2) (by omega)
    simp only [WS, sumTo]
    rw [i1, i2, Int.add_comm]
    congr 1
    · congr 1 <;> omega
    · congr 1 <;> omega
theorem ws_sum {p : Nat → Int × Int} (s : Nat) : ∀ n x y, WS p n (s + 1) x y = sumTo (fun i => WS p i s (x + (p i).1) (y + (p i).2)) n
  | 0, _, _ => rfl
  | n + 1, x, y => by simp only [WS, sumTo, ws_sum s n]
theorem qq_mod (x : Int) : (3 : Int) ∣ qq x - if x % 3 = 0 then 1 else 0 := by
  unfold qq
  have : x % 3 = 0 ∨ x % 3 = 1 ∨ x % 3 = 2 := by omega
  rcases this with h | h | h
  · rw [if_pos h]
    have e : (1 + x) * (1 - x) - 1 = x * (-x) := by grind
    rw [e]
    exact Int.dvd_mul_of_dvd_left (by omega)
  · rw [if_neg (by omega), Int.sub_zero]
    exact Int.dvd_mul_of_dvd_right (by omega)
  · rw [if_neg (by omega), Int.sub_zero]
    exact Int.dvd_mul_of_dvd_left (by omega)
theorem ind_mod (x y : Int) : (3 : Int) ∣ ind x y - if x % 3 = 0 ∧ y % 3 = 0 then 1 else 0 := by
  have hx := qq_mod x
  have hy := qq_mod y
  unfold ind
  by_cases h : x % 3 = 0
  · rw [if_pos h] at hx
    obtain ⟨a, ha⟩ := hx
    have e : qq x = 1 + 3 * a := by omega
    by_cases h' : y % 3 = 0
    · rw [if_pos h'] at hy
      rw [if_pos ⟨h, h'⟩, e]
      obtain ⟨b, hb⟩ := hy
      have e' : qq y = 1 + 3 * b := by omega
      rw [e']
      exact ⟨a + b + 3 * (a * b), by grind⟩
    · rw [if_neg h', Int.sub_zero] at hy
      rw [if_neg (fun z => h' z.2), Int.sub_zero]
      exact Int.dvd_mul_of_dvd_right hy
  · rw [if_neg h, Int.sub_zero] at hx
    rw [if_neg (fun z => h z.1), Int.sub_zero]
    exact Int.dvd_mul_of_dvd_left hx
theorem sumTo_mod {f g : Nat → Int} (h : ∀ i, (3 : Int) ∣ f i - g i) : ∀ n, (3 : Int) ∣ sumTo f n - sumTo g n
  | 0 => by show (3 : Int) ∣ 0 - 0; decide
  | n + 1 => by
    have h1 := sumTo_mod h n
    have h2 := h n
    show (3 : Int) ∣ (sumTo f n + f n) - (sumTo g n + g n)
    omega
theorem left_iff (ps : List (Int × Int)) (i j k : Nat) (X Y : Int) : (left3 ps i j k = [X.fmod 3, Y.fmod 3]) ↔ ((-X + (pAt ps i).1 + (pAt ps j).1 + (pAt ps k).1) % 3 = 0 ∧ (-Y + (pAt ps i).2 + (pAt ps j).2 + (pAt ps k).2) % 3 = 0) := by
  unfold left3 sumA sumB
  simp only [List.map_cons, List.map_nil, List.sum_cons, List.sum_nil, List.cons.injEq, and_true]
  rw [Int.fmod_eq_emod_of_nonneg _ (by decide), Int.fmod_eq_emod_of_nonneg _ (by decide), Int.fmod_eq_emod_of_nonneg _ (by decide), Int.fmod_eq_emod_of_nonneg _ (by decide)]
  constructor
  · rintro ⟨h1, h2⟩; exact ⟨by omega, by omega⟩
  · rintro ⟨h1, h2⟩; exact ⟨by omega, by omega⟩
theorem ws_c3 (ps : List (Int × Int)) (X Y : Int) (n : Nat) : (3 : Int) ∣ WS (pAt ps) n 3 (-X) (-Y) - c3 ps [X.fmod 3, Y.fmod 3] n := by
  rw [ws_sum 2]
  refine sumTo_mod (fun i => ?_) n
  rw [ws_sum 1]
  refine sumTo_mod (fun j => ?_) i
  rw [ws_sum 0]
  refine sumTo_mod (fun k => ?_) j
  rw [ws_zero]
  show (3 : Int) ∣ _ - isL ps [X.fmod 3, Y.fmod 3] i j k
  unfold isL
  have h := ind_mod (-X + (pAt ps i).1 + (pAt ps j).1 + (pAt ps k).1) (-Y + (pAt ps i).2 + (pAt ps j).2 + (pAt ps k).2)
  by_cases e : left3 ps i j k = [X.fmod 3, Y.fmod 3]
  · rw [if_pos e]
    rw [if_pos ((left_iff ps i j k X Y).mp e)] at h
    exact h
  · rw [if_neg e]
    rw [if_neg (fun z => e ((left_iff ps i j k X Y).mpr z))] at h
    exact h
theorem sums_nine (ps : List (Int × Int)) (h : ps.length = 9) : sumTo (fun i => (pAt ps i).1) 9 = sumA ps ∧ sumTo (fun i => (pAt ps i).2) 9 = sumB ps := by
  match ps, h with
  | [a, b, c, d, e, f, g, u, v], _ =>
    constructor
    · show 0 + a.1 + b.1 + c.1 + d.1 + e.1 + f.1 + g.1 + u.1 + v.1 = a.1 + (b.1 + (c.1 + (d.1 + (e.1 + (f.1 + (g.1 + (u.1 + (v.1 + 0))))))))
      omega
    · show 0 + a.2 + b.2 + c.2 + d.2 + e.2 + f.2 + g.2 + u.2 + v.2 = a.2 + (b.2 + (c.2 + (d.2 + (e.2 + (f.2 + (g.2 + (u.2 + (v.2 + 0))))))))
      omega
theorem weights : ∀ s, s ≤ 9 → (3 : Int) ∣ sg s * qq (0 + s) - (dl 0 s + - dl 3 s + dl 6 s + - dl 9 s) := by
  intro s hs
  have : s = 0 ∨ s = 1 ∨ s = 2 ∨ s = 3 ∨ s = 4 ∨ s = 5 ∨ s = 6 ∨ s = 7 ∨ s = 8 ∨ s = 9 := by omega
  rcases this with rfl | rfl | rfl | rfl | rfl | rfl | rfl | rfl | rfl | rfl <;> decide
theorem warning (ps : List (Int × Int)) (h : ps.length = 9) : (c3 ps [0, 0] 9 - 1 - c3 ps [(sumA ps).fmod 3, (sumB ps).fmod 3] 9 + (if [(sumA ps).fmod 3, (sumB ps).fmod 3] = [0, 0] then 1 else 0)).fmod 3 = 0 := by
  obtain ⟨hA, hB⟩ := sums_nine ps h
  have z := alt_deg (p := pAt ps) 9 deg_hh3 0 0 0
  rw [alt_us] at z
  have m := us_mod (p := pAt ps) 9 _ _ 0 0 weights
  rw [z, us_add, us_add, us_add, us_neg, us_neg, us_ws, us_ws, us_ws, us_ws] at m
  rw [ws_compl 9 9 0 0 0 rfl, ws_compl 9 6 3 0 0 rfl, hA, hB, ws_zero, ws_zero] at m
  have t0 := ws_c3 ps 0 0 9
  have t1 := ws_c3 ps (sumA ps) (sumB ps) 9
  have i1 := ind_mod (- sumA ps) (- sumB ps)
  have e0 : (0 : Int).fmod 3 = 0 := rfl
  have i0 : ind 0 0 = 1 := rfl
  have eA : - (0 : Int) - sumA ps = - sumA ps := by omega
  have eB : - (0 : Int) - sumB ps = - sumB ps := by omega
  have ez : - (0 : Int) = 0 := rfl
  rw [e0, ez] at t0
  rw [eA, eB, i0] at m
  have ei : ([(sumA ps).fmod 3, (sumB ps).fmod 3] = [0, 0]) ↔ ((- sumA ps) % 3 = 0 ∧ (- sumB ps) % 3 = 0) := by
    rw [Int.fmod_eq_emod_of_nonneg _ (by decide), Int.fmod_eq_emod_of_nonneg _ (by decide)]
    simp only [List.cons.injEq, and_true]
    constructor
    · rintro ⟨h1, h2⟩; exact ⟨by omega, by omega⟩
    · rintro ⟨h1, h2⟩; exact ⟨by omega, by omega⟩
  rw [Int.fmod_eq_emod_of_nonneg _ (by decide)]
  by_cases c : [(sumA ps).fmod 3, (sumB ps).fmod 3] = [0, 0]
  · rw [if_pos (ei.mp c)] at i1
    rw [if_pos c]
    omega
  · rw [if_neg (fun q => c (ei.mpr q))] at i1
    rw [if_neg c]
    omega
end Mine

namespace Mine
theorem join_fits {x y z : Str} (h : z = x ++ y) (hz : z.length ≤ 1000) : (List.map (fun a : Str => a.length) [x, y]).sum + [x, y].length * 64 ≤ 16777216 := by
  have : x.length + y.length = z.length := by rw [h, PySem.Str.length_append]
  simp only [List.map_cons, List.map_nil, List.sum_cons, List.sum_nil, List.length_cons, List.length_nil]
  omega
theorem join_two {x y z : Str} (h : z = x ++ y) : Txt.join (Str.ofString "") [x, y] = z := by
  show PySem.Builtin.Str.glued (Str.ofString "") [x, y] = z
  rw [PySem.StrLaws.glued_eq_join, h]
  show x ++ Str.ofString "" ++ y = _
  refine PySem.Str.ext' (Array.toList_inj.mp ?_)
  rw [PySem.Str.cps_append, PySem.Str.cps_append, PySem.Str.cps_append]
  show (x.cps ++ #[] ++ y.cps).toList = _
  rw [Array.append_empty]
def r01 (j a : Nat) : Int := if Mine.isRef j a then 1 else 0
theorem r01_t {j a : Nat} (h : Mine.isRef j a = true) : Mine.r01 j a = 1 := by rw [Mine.r01, if_pos h]
theorem r01_f {j a : Nat} (h : Mine.isRef j a = false) : Mine.r01 j a = 0 := by rw [Mine.r01, h]; rfl
theorem LoopJ.grow {w : World} {lT D1 cA tA D4 : Addr} {ws : List Value} {oC oT : Obj} {j : Nat} {tk : Tok} {ns : List Int} {i : Nat} {m' : Str → Option Value} {vs : List Value} {c : Nat} {tl : List (Addr × Obj)} {n : Int} {p q : Int} {x y : Tok}
    (hn : ns[i]? = some n) (htl : ∀ p ∈ tl, lT < p.1) (hl4 : @LT.lt Nat _ lT D4) (hvs : vs.length = i)
    (hT : ∀ (k : Nat) (p : Int × Int), ((ns.take i).map (Mine.pairOf j))[k]? = some p → ∃ (T : Addr) (c' : Nat) (x y : Tok), vs[k]? = some (.ref T) ∧ (T, ({ cls := .type "tuple", data := .seq #[.int p.1 x, .int p.2 y] c' } : Obj)) ∈ tl)
    (hp : Mine.pairOf j n = (p, q))
    (e1 : m' (Str.ofString "things") = some (.ref lT)) (e2 : m' (Str.ofString "hand") = some (.ref (Mine.handA j))) (e3 : m' (Str.ofString "signs") = some (.str (Str.ofString "&<>\"\x0d\n\tab") tk)) :
    Mine.LoopJ w lT D1 cA tA ws oC oT j tk ns (i + 1) m' ((lT, W.listOf (vs.toArray.push (.ref D4)) (c + 1)) :: (D1, W.listOf ws.toArray 0) :: (cA, oC) :: (tA, oT) :: (D4, { cls := .type "tuple", data := .seq #[.int p x, .int q y] }) :: tl) := by
  refine ⟨vs ++ [.ref D4], c + 1, _ :: tl, by rw [List.push_toArray], ?_, by simp [hvs], ?_, e1, e2, e3⟩
  · intro p hp
    rcases List.mem_cons.mp hp with rfl | hp
    · exact hl4
    · exact htl p hp
  · intro k r hk
    have hlt : i < ns.length := by
      rcases Nat.lt_or_ge i ns.length with h | h
      · exact h
      · rw [List.getElem?_eq_none h] at hn; cases hn
    rw [List.take_add_one, hn] at hk
    simp only [Option.toList_some, List.map_append, List.map_cons, List.map_nil] at hk
    have hlen : (List.map (Mine.pairOf j) (List.take i ns)).length = i := by rw [List.length_map, List.length_take]; omega
    rcases Nat.lt_or_ge k i with h | h
    · rw [List.getElem?_append_left (by omega)] at hk
      obtain ⟨T, c', x', y', h1, h2⟩ := hT k r hk
      exact ⟨T, c', x', y', by rw [List.getElem?_append_left (by omega)]; exact h1, .tail _ h2⟩
    · rw [List.getElem?_append_right (by omega), hlen] at hk
      have hk0 : k - i = 0 := by
        rcases Nat.eq_zero_or_pos (k - i) with h | h
        · exact h
        · rw [List.getElem?_eq_none (by simp; omega)] at hk; cases hk
      rw [hk0, hp] at hk
      cases hk
      exact ⟨D4, 0, x, y, by rw [List.getElem?_append_right (by omega), hvs, hk0]; rfl, .head _⟩
theorem ne_cell {h₀ h : Heap} {L a b : Addr} {news : List (Addr × Obj)} {o : Obj} {its : Array Value} {c : Nat} {v : Option Value} (N : News h₀ L h news) (h1 : (a, W.listOf its c) ∈ news) (h2 : (b, o) ∈ news) (hd : o.data = .cell v) : b ≠ a := by
  rintro rfl
  have e := (N _ h1).1.symm.trans (N _ h2).1
  cases e
  cases hd
end Mine

local macro_rules | `(tactic| walk_at "subscriptTail") => `(tactic| ((with_reducible show wpAny _ _ (subscriptTail (Expr.List _ _) _ (Value.ref _) (Value.int _ _)) _ _ _); k_dflt (refine' Mine.pick5 ?k1 ?k2 ?k3 ?k4 ?_ ?k6; (case k1 => k_asm); (case k2 => k_mem); (case k3 => l_idx); (case k4 => l_idx); (case k6 => with_unfolding_all rfl); intro j hj5 hjk; dsimp only)))
local macro_rules | `(tactic| walk_at "call ref") => `(tactic| (k_dflt (refine' Mine.left_use ?k1 ?k2 ?k3 ?k4 ?k5 ?kK ?kd ?kP ?_); (case k1 => k_asm); (case k2 => k_asm); (case k3 => k_asm); (case k4 => k_asm); (case k5 => k_asm); (case kK => exact rfl); (case kd => decide); (case kP => assumption); k_whole; intro r9 t9 u9 h9 tk9 l9 F9 N9; (try k_sweep)))
local macro_rules | `(tactic| walk_at "eval ListComp") => `(tactic| (with_reducible show wpAny _ _ (eval (Expr.ListComp (Expr.Name (Str.ofString "long") _) _ _ _) _) _ _ _; k_dflt (refine' Mine.pair_comp (sel := Prod.fst) ?k1 ?k2 ?kP ?kn ?g1 ?g2 ?g3 ?g4 ?g5 ?g6 ?g7 ?g8 ?g9 ?g10 ?g11 (.inl ⟨rfl, rfl⟩) ?g13 ?_; (case k1 => k_asm); (case k2 => k_asm); (case kP => first | assumption | exact Mine.Pairs.mono (by assumption) (fun _ h => .tail _ h) | exact Mine.Pairs.mono (by assumption) (fun _ h => .tail _ (.tail _ h))); (case kn => omega); (case g1 => rfl); (case g2 => (intro Q' h; refine' nameX_L ?k3 ?kv h rfl rfl; (case k3 => k_asm); (case kv => rfl))); (case g3 => rfl); (case g4 => decide); (case g5 => rfl); (case g6 => decide); (case g7 => rfl); (case g8 => rfl); (case g9 => decide); (case g10 => rfl); (case g11 => decide); (case g13 => intro _; rfl); k_whole; intro D9 ys9 h9 tk9 hI9 F9 N9 o9; (try k_sweep); dsimp only)))
local macro_rules | `(tactic| walk_at "eval ListComp") => `(tactic| (with_reducible show wpAny _ _ (eval (Expr.ListComp (Expr.Name (Str.ofString "many") _) _ _ _) _) _ _ _; k_dflt (refine' Mine.pair_comp (sel := Prod.snd) ?k1 ?k2 ?kP ?kn ?g1 ?g2 ?g3 ?g4 ?g5 ?g6 ?g7 ?g8 ?g9 ?g10 ?g11 (.inr ⟨rfl, rfl⟩) ?g13 ?_; (case k1 => k_asm); (case k2 => k_asm); (case kP => first | assumption | exact Mine.Pairs.mono (by assumption) (fun _ h => .tail _ h) | exact Mine.Pairs.mono (by assumption) (fun _ h => .tail _ (.tail _ h))); (case kn => omega); (case g1 => rfl); (case g2 => (intro Q' h; refine' nameX_L ?k3 ?kv h rfl rfl; (case k3 => k_asm); (case kv => rfl))); (case g3 => rfl); (case g4 => decide); (case g5 => rfl); (case g6 => decide); (case g7 => rfl); (case g8 => rfl); (case g9 => decide); (case g10 => rfl); (case g11 => decide); (case g13 => intro _; rfl); k_whole; intro D9 ys9 h9 tk9 hI9 F9 N9 o9; (try k_sweep); dsimp only)))
local macro_rules | `(tactic| walk_at "call ref") => `(tactic| (k_dflt (refine' Mine.left_use ?k1 ?k2 ?k3 ?k4 ?k5 ?kK ?kd ?kP ?_; (case k1 => k_asm); (case k2 => k_asm); (case k3 => k_asm); (case k4 => k_asm); (case k5 => k_asm); (case kK => exact rfl); (case kd => decide); (case kP => exact Mine.pairs3 (.head _) (.tail _ (by assumption)) (.tail _ (by assumption)) (.tail _ (by assumption))); k_whole; intro r9 t9 u9 h9 tk9 l9 F9 N9; (try k_sweep); (try dsimp only))))
local macro_rules | `(tactic| walk_at "subscriptTail") => `(tactic| ((with_reducible show wpAny _ _ (subscriptTail (Expr.Name (Str.ofString "things") _) _ (Value.ref _) (Value.int _ _)) _ _ _); k_dflt (refine' Mine.item_pairs ?k1 ?k2 ?k3 ?k4 ?_ ?k6; (case k1 => k_asm); (case k2 => assumption); (case k3 => omega); (case k4 => omega); (case k6 => with_unfolding_all rfl); intro T9 c9 x9 y9 hm9; (try dsimp only))))
local macro_rules | `(tactic| walk_at "callWith ref") => `(tactic| (k_dflt (refine' callWith_K ?k1 ?k2 ?_; (case k1 => k_asm); (case k2 => exact Mine.keep_hand _ (by assumption)); k_whole)))
local macro_rules | `(tactic| walk_at "call ref") => `(tactic| (k_dflt (refine' Mine.esc_use (by assumption) (Mine.text_len _) ?k1 ?k2 ?k3 ?k4 ?k5 ?kK ?kd ?ku ?_; (case k1 => k_asm); (case k2 => k_asm); (case k3 => k_asm); (case k4 => k_asm); (case k5 => k_asm); (case kK => exact rfl); (case kd => decide); (case ku => decide); k_whole; intro t9 h9 tk9 F9 N9; (try k_sweep); (try dsimp only))))
local macro_rules | `(tactic| walk_at "call ref") => `(tactic| (k_dflt (refine' Mine.len_use ?hx ?k1 ?k2 ?k3 ?k4 ?k5 ?kK ?kd ?ku ?_; (case hx => assumption); (case k1 => k_asm); (case k2 => k_asm); (case k3 => k_asm); (case k4 => k_asm); (case k5 => k_asm); (case kK => exact rfl); (case kd => decide); (case ku => decide); k_whole; intro t9 h9 tk9 hp9 F9 N9; (try k_sweep); (try dsimp only))))
local macro_rules | `(tactic| walk_at "call ref") => `(tactic| (k_dflt (refine' Mine.cnt_use ?hx ?h0 ?h1 ?k1 ?k2 ?k3 ?k4 ?k5 ?kK ?kd ?ku ?_; (case hx => assumption); (case k1 => k_asm); (case k2 => k_asm); (case k3 => k_asm); (case k4 => k_asm); (case k5 => k_asm); (case kK => exact rfl); (case kd => decide); (case ku => decide); (case h0 => ((try dsimp only); omega)); (case h1 => ((try dsimp only); omega)); k_whole; intro t9 h9 tk9 hp9 F9 N9; (try k_sweep); (try dsimp only))))
local macro_rules | `(tactic| walk_at "ite") => `(tactic| ((with_reducible show (if Option.isSome _ = true then _ else _)); (refine split_bool ?_ ?_ <;> intro _)))
local macro_rules | `(tactic| walk_at "subscriptTail") => `(tactic| ((with_reducible show wpAny _ _ (subscriptTail (Expr.Name (Str.ofString "spelled") _) _ (Value.ref _) (Value.int _ _)) _ _ _); k_dflt ((try dsimp only); refine' Mine.item_snd ?k1 ?k2 ?_ ?k6; (case k1 => k_asm); (case k2 => exact .tail _ (.head _)); (case k6 => with_unfolding_all rfl); (try dsimp only))))
local macro_rules | `(tactic| walk_at "subscriptTail") => `(tactic| ((with_reducible show wpAny _ _ (subscriptTail (Expr.Name (Str.ofString "spelled") _) _ (Value.ref _) (Value.int _ _)) _ _ _); k_dflt ((try dsimp only); refine' Mine.item_fst ?k1 ?k2 ?_ ?k6; (case k1 => k_asm); (case k2 => exact .tail _ (.head _)); (case k6 => with_unfolding_all rfl); (try dsimp only))))
set_option maxRecDepth 100000 in
set_option maxHeartbeats 12000000 in
theorem PySem.Challenge.cw_ph0114_01_holds : PySem.Challenge.rw_ph0114_01.Holds := by
  refine Mine.hd ?_
  w_on
  w_strict (
    k_go0
    (all_goals try k_fold)
    repeat' ((fail_if_success (with_reducible show wpAny _ _ (execs (Stmt.Assign [Expr.Name (Str.ofString "signs") _] _ _ :: _) _) _ _ _)); (first | (k_unfold; (try dsimp only)) | (k_end; wrow_close) | walk1 | (dsimp only; walk1) | (leave1; try dsimp only) | fail "no step"))
    rename_i w s₀ s₁ mg mb G Y fa o pm doc ho hg KX X V GL T B TE TW w12 w11 M w10 w9 hcd script hs hlay0 hL hr hl2 w7 w6 w5 w4 w3 hL' ra w1 r0 hI hr' hcond hcond2 K0 hD h₁ tk₁ c1 c2 c3 hc1 hc2 hc3 X0 l' h2 l1 h3 o' d' h4 tk3 t1 u1 v1 rg fr2 nD' ke hkl g' hI8 hL8 D' h5 tk' F' N' o1'
    have hQ : ∀ h' tk m', Fr s₁.heap s₁.heap.objs.size h' m' → qk (.ret (.bool true)) { s₁ with heap := h', toks := tk } := by
      intro h' tk m' F
      k_unfold
      dsimp only
      k_steps
    refine Mine.toFalse ?_
    refine Mine.reframe [(Str.ofString "drawn", .ref D')] [(D', LCg.lst ys), (s₁.heap.objs.size + 1 + 1 + 1, c1)] F' N' (List.forall_mem_cons.mpr ⟨rfl, List.forall_mem_nil _⟩) (List.forall_mem_cons.mpr ⟨.head _, List.forall_mem_cons.mpr ⟨.tail _ (.tail _ (.head _)), List.forall_mem_nil _⟩⟩) ?_
    have hc : c1.data = Data.cell none := hc1
    obtain ⟨ns, hI9, hn10⟩ : ∃ ns, IntsAre ys ns ∧ ns.length = 10 := ⟨_, hI8, by rw [List.length_map, rangeKs_length]; decide⟩
    have hne : D' ≠ s₁.heap.objs.size + 1 + 1 + 1 := Ne.symm o1'.2.1
    clear_value qk ek
    clear ek
    clear hI8 hL8 o1' N' F' g' hkl ke nD' fr2 rg v1 u1 t1 tk3 h4 tk d' o' h3 l1 h2 l' X0 hc1 hc2 hc3 c2 c3 tk₁ h₁ hD hcond2 hcond hr' hI r0 w1 ra hL' w3 w4 w5 hl2 hr hL hlay0 hs script hcd
    clear Y G
    intro hp tkS m₀ F N
    dsimp only
    clear h5 tk'
    dsimp only [Mine.bnd] at F
    repeat' ((fail_if_success (with_reducible show wpAny _ _ (exec (Stmt.For (Expr.Name (Str.ofString "n") _) _ _ _ _) _) _ _ _)); (first | (k_unfold; (try dsimp only)) | (k_end; wrow_close) | walk1 | (dsimp only; walk1) | (leave1; try dsimp only) | fail "no step"))
    rename_i hP hA0 oA0 lo0 hd0 hf0 ap0 l0 hA1 oA1 lo1 hd1 hf1 ap1 l1 hA2 oA2 lo2 hd2 hf2 ap2 l2 hA3 oA3 lo3 hd3 hf3 ap3 l3 hA4 oA4 lo4 hd4 hf4 ap4 l4 lL hL l5 tt j hj5 hjk hS oC dC tk6 lF hF l6 tt2 j2 hj52 hjk2 hG tk7 lT hT l7 hZ F N
    have ej : j2 = j := by omega
    subst ej
    obtain ⟨tA, oT, hm, hlo, htab, hlt, hdC⟩ : ∃ tA oT, (tA, oT) ∈ [(hA3.objs.size, oA4), (hA2.objs.size, oA3), (hA1.objs.size, oA2), (hA0.objs.size, oA1), (hP.objs.size, oA0)] ∧ (tA == sysModules) = false ∧ Mine.IsTab w j2 oT ∧ @LT.lt Nat _ tA lT ∧ oC.data = Data.cell (some (.ref tA)) := by
      have : j2 = 0 ∨ j2 = 1 ∨ j2 = 2 ∨ j2 = 3 ∨ j2 = 4 := by omega
      rcases this with rfl | rfl | rfl | rfl | rfl
      · exact ⟨_, oA0, .tail _ (.tail _ (.tail _ (.tail _ (.head _)))), lo0, ⟨_, hd0, hf0⟩, by omega, dC⟩
      · exact ⟨_, oA1, .tail _ (.tail _ (.tail _ (.head _))), lo1, ⟨_, hd1, hf1⟩, by omega, dC⟩
      · exact ⟨_, oA2, .tail _ (.tail _ (.head _)), lo2, ⟨_, hd2, hf2⟩, by omega, dC⟩
      · exact ⟨_, oA3, .tail _ (.head _), lo3, ⟨_, hd3, hf3⟩, by omega, dC⟩
      · exact ⟨_, oA4, .head _, lo4, ⟨_, hd4, hf4⟩, by omega, dC⟩
    have hlts : @LT.lt Nat _ D' lT ∧ @LT.lt Nat _ (s₁.heap.objs.size + 1 + 1 + 1) lT := by omega
    have htc : @Ne Nat tA (s₁.heap.objs.size + 1 + 1 + 1) ∧ @Ne Nat tA D' := by
      simp only [List.mem_cons, List.not_mem_nil, or_false, Prod.mk.injEq] at hm
      rcases hm with ⟨e, _⟩ | ⟨e, _⟩ | ⟨e, _⟩ | ⟨e, _⟩ | ⟨e, _⟩ <;> omega
    refine Mine.reframe [(Str.ofString "things", .ref lT), (Str.ofString "hand", .ref (Mine.handA j2)), (Str.ofString "signs", .str (Str.ofString "&<>\"\x0d\n\tab") _), (Str.ofString "drawn", .ref D')] [(lT, W.listOf #[] 0), (D', LCg.lst ys), (s₁.heap.objs.size + 1 + 1 + 1, oC), (tA, oT)] F N
      (List.forall_mem_cons.mpr ⟨rfl, List.forall_mem_cons.mpr ⟨rfl, List.forall_mem_cons.mpr ⟨rfl, List.forall_mem_cons.mpr ⟨rfl, List.forall_mem_nil _⟩⟩⟩⟩)
      (List.forall_mem_cons.mpr ⟨.head _, List.forall_mem_cons.mpr ⟨by k_mem, List.forall_mem_cons.mpr ⟨by k_mem, List.forall_mem_cons.mpr ⟨.tail _ (.tail _ (.tail _ (List.mem_append_left [_, _] hm))), List.forall_mem_nil _⟩⟩⟩⟩) ?_
    intro hp' tk' m₁ F' N'
    dsimp only [Mine.bnd] at F'
    dsimp only
    clear N F dC hm l7 hT tk7 hG hjk2 tt2 l6 hF tk6 hS hjk tt l5 hL ap4 hf4 hd4 lo4 ap3 hf3 hd3 lo3 ap2 hf2 hd2 lo2 ap1 hf1 hd1 lo1 ap0 hf0 hd0 lo0 l4 l3 l2 l1 l0 oA0 oA1 oA2 oA3 oA4 lF lL
    clear tk
    refine wpAny_For ?_ (by intro _; rfl)
    walk1; walk1; walk1; walk1; walk1; walk1; walk1; walk1
    rename_i D1 ws h' F' N' hI' hC' hL' l1
    dsimp only
    have hlen9 : (ns.drop 1).length = 9 := by rw [hC', hn10]
    have hld : @LT.lt Nat _ lT D1 ∧ @LT.lt Nat _ (s₁.heap.objs.size + 1 + 1 + 1) D1 ∧ @LT.lt Nat _ tA D1 := by omega
    refine Mine.iter_ints (ol := W.listOf ws.toArray 0) (Mine.LoopJ w lT D1 (s₁.heap.objs.size + 1 + 1 + 1) tA ws oC oT j2 tkS (ns.drop 1)) rfl rfl ⟨0, rfl⟩ hI' rfl rfl F' (news := [(lT, W.listOf #[] 0), (D1, W.listOf ws.toArray 0), (s₁.heap.objs.size + 1 + 1 + 1, oC), (tA, oT)]) (kst_newsOf N' ?sub) ⟨[], 0, [], rfl, (fun _ h => nomatch h), rfl, (fun _ _ h => by simp at h), rfl, rfl, rfl⟩ ?hl ?turn ?done
    case sub =>
      exact List.forall_mem_cons.mpr ⟨by k_mem, List.forall_mem_cons.mpr ⟨by k_mem, List.forall_mem_cons.mpr ⟨by k_mem, List.forall_mem_cons.mpr ⟨by k_mem, List.forall_mem_nil _⟩⟩⟩⟩
    case hl =>
      rintro i m nw ⟨vs, c, tl, rfl, _⟩
      exact .tail _ (.head _)
    case turn =>
      clear F' N' hQ hne c1 hc hp m₁ hZ hA0 hA1 hA2 hA3 hA4 hP m₀ hj52 hI9 hI' hC' hL' hn10 l1 hlts
      rintro i n tok m₁ nw hh tk3 oI hn ⟨vs, c, tl, rfl, htl, hvs, hT, e1, e2, e3⟩ ha F N
      rw [← Mine.bnd_eq (m := m₁) (ps := [(Str.ofString "things", .ref lT), (Str.ofString "hand", .ref (Mine.handA j2)), (Str.ofString "signs", .str (Str.ofString "&<>\"\x0d\n\tab") tkS)]) (List.forall_mem_cons.mpr ⟨e1, List.forall_mem_cons.mpr ⟨e2, List.forall_mem_cons.mpr ⟨e3, List.forall_mem_nil _⟩⟩⟩)] at F
      dsimp only [Mine.bnd] at F
      have F2 : Fr s₁.heap s₁.heap.objs.size hh _ := F
      have N2 : News s₁.heap s₁.heap.objs.size hh _ := N
      clear F N e1 e2 e3
      dsimp only at ha N2 ⊢
      repeat' ((fail_if_success (with_reducible show wpAny _ _ (exec (Stmt.Assign [Expr.Name (Str.ofString "spelled") _] _ _) _) _ _ _)); (first | (k_unfold; (try dsimp only)) | (k_end; wrow_close) | walk1 | (dsimp only; walk1) | (leave1; try dsimp only) | fail "no step"))
      rename_i z1 z2 t' k z3 hb Fa Na t9 h9 tk9 hb2 F N
      obtain ⟨a, b, ha9, hb9, etx⟩ := Mine.text_signs n
      have etx' : (Txt.item (Str.ofString "&<>\"\x0d\n\tab") (n.fmod 9) ++ Txt.item (Str.ofString "&<>\"\x0d\n\tab") ((n.fdiv 9).fmod 9)) = Mine.sgn a ++ Mine.sgn b := etx
      rw [etx'] at F
      clear Fa Na z1 z2 z3 etx'
      obtain ⟨kvs, hdict, hflat⟩ := htab
      refine' Mine.assign_comp_text (n := 2) (xt := Mine.sgn a ++ Mine.sgn b) ?g0 ?g1 ?g2 ?g3 F N ?g4 ?g5 ?g6 ?g7 ?g8 ?g9 ?g10 ?g11 ?g12 ?g13 ?g14 ?R
      case g1 => rfl
      case g2 => decide
      case g3 => rfl
      case g4 => rfl
      case g5 => (intro Q' h; exact nameX_L F rfl h rfl rfl)
      case g6 => rfl
      case g7 => rfl
      case g8 => decide
      case g9 => rfl
      case g10 => decide
      case g11 => rfl
      case g12 => rfl
      case g13 => rfl
      case g14 => (intro _; rfl)
      case g0 => exact Mine.sgn_ascii ha9 hb9
      case R =>
        intro g
        refine LCg.CompRest.succ ?_
        rintro v I oI' C oC' D m₂ h tk E' ⟨ch, u, hc, rfl⟩ hC hx F2 N2 off ne
        have ech : ch = Mine.code a := by rw [Mine.sgn2_cps] at hc; simpa using hc.symm
        subst ech
        clear hc
        k_steps
        rename PyProof.V.Flat _ _ => hv
        obtain ⟨u1, rfl⟩ := Mine.flat_str (Mine.look_str hj5 ha9 ▸ hv)
        clear hv
        refine LCg.CompEnd.intro F2 N2 _ (fun p hp => hp) off trivial ?_
        rename InElt _ _ => cE1
        clear cE1 qk ek hC hx off ne F2 N2 D C oC' oI' I E' h m₂
        refine LCg.CompRest.succ ?_
        rintro v I oI' C oC' D m₂ h tk E' ⟨ch, u, hc, rfl⟩ hC hx F2 N2 off ne
        have ech : ch = Mine.code b := by rw [Mine.sgn2_cps] at hc; simpa using hc.symm
        subst ech
        clear hc
        k_steps
        rename PyProof.V.Flat _ _ => hv
        obtain ⟨u2, rfl⟩ := Mine.flat_str (Mine.look_str hj5 hb9 ▸ hv)
        clear hv
        refine LCg.CompEnd.intro F2 N2 _ (fun p hp => hp) off trivial ?_
        rename InElt _ _ => cE1
        clear cE1 qk ek hC hx off ne F2 N2 D C oC' oI' I E' h m₂
        refine LCg.CompRest.zero ?_
        intro D3 h3 tk5 F3 N3 o3
        dsimp only [List.nil_append, List.cons_append] at N3
        refine Mine.reframe [(Str.ofString "spelled", .ref D3), (Str.ofString "page", .str (Mine.esc j2 (Mine.sgn a ++ Mine.sgn b)) t9), (Str.ofString "text", .str (Mine.sgn a ++ Mine.sgn b) t'), (Str.ofString "things", .ref lT), (Str.ofString "hand", .ref (Mine.handA j2)), (Str.ofString "signs", .str (Str.ofString "&<>\"\x0d\n\tab") _)] _ F3 N3
          (List.forall_mem_cons.mpr ⟨rfl, List.forall_mem_cons.mpr ⟨rfl, List.forall_mem_cons.mpr ⟨rfl, List.forall_mem_cons.mpr ⟨rfl, List.forall_mem_cons.mpr ⟨rfl, List.forall_mem_cons.mpr ⟨rfl, List.forall_mem_nil _⟩⟩⟩⟩⟩⟩) (fun p hp => hp) ?_
        intro h5 tk6 m5 F5 N5
        dsimp only [Mine.bnd] at F5
        dsimp only
        clear F3 N3 h3 tk5 F N hb hb2 h9 tk9 k g
        rename_i tk8 u3
        obtain ⟨hpg, hasc, hle, hcnt⟩ := Mine.page_facts hj5 ha9 hb9
        have hpair := Mine.pair_is (j := j2) etx
        generalize Mine.esc j2 (Mine.sgn a ++ Mine.sgn b) = pg at F5 hpg hasc hle hcnt hpair
        simp only [LCg.Off1] at o3
        have hlab : (Mine.spell j2 a).length + (Mine.spell j2 b).length = pg.length := by rw [hpg, PySem.Str.length_append]
        have hla : (Mine.spell j2 a).length ≤ 1000 := by omega
        have hlb : (Mine.spell j2 b).length ≤ 1000 := by omega
        repeat' ((fail_if_success (with_reducible show wpAny _ _ (subscriptTail (Expr.Name (Str.ofString "spelled") _) _ (Value.ref _) (Value.int _ _)) _ _ _)); (first | (k_unfold; (try dsimp only)) | (k_end; wrow_close) | walk1 | (dsimp only; walk1) | (leave1; try dsimp only) | fail "no step"))
        all_goals try (rename (pg != _) = true => hf; rw [Mine.join_two hpg] at hf; simp at hf; done)
        (try dsimp only)
        k_dflt (refine' Mine.item_fst ?k1 ?k2 ?_ ?k6)
        (case k1 => k_dflt k_asm)
        (case k2 => k_dflt (exact .tail _ (.head _)))
        (case k6 => with_unfolding_all rfl)
        (try dsimp only)
        repeat' ((fail_if_success (with_reducible show wpAny _ _ (subscriptTail (Expr.Name (Str.ofString "spelled") _) _ (Value.ref _) (Value.int _ _)) _ _ _)); (first | (k_unfold; (try dsimp only)) | (k_end; wrow_close) | walk1 | (dsimp only; walk1) | (leave1; try dsimp only) | fail "no step"))
        (try dsimp only)
        k_dflt (refine' Mine.item_snd ?k1 ?k2 ?_ ?k6)
        (case k1 => k_dflt k_asm)
        (case k2 => k_dflt (exact .tail _ (.head _)))
        (case k6 => with_unfolding_all rfl)
        (try dsimp only)
        repeat' ((fail_if_success (with_reducible show wpAny _ _ (eval (Expr.ListComp _ _ _ _) _) _ _ _)); (first | (k_unfold; (try dsimp only)) | (k_end; wrow_close) | walk1 | (dsimp only; walk1) | (leave1; try dsimp only) | fail "no step"))
        rename_i u5 h6 tk7 hp7 u6 h7 tk10 hp10 D4 h8 l1 h9 F N u7 tk12 hne
        change _ = Mine.r01 j2 a + Mine.r01 j2 b at hcnt
        clear hne hp7 hp10 u7 h6 h7 h8
        refine' Mine.comp_text_if2 (n := 2) (xt := Mine.sgn a ++ Mine.sgn b) (fun ys => (ys.length : Int) = Mine.cntAt pg pg.cps.size ∧ ys.length ≤ 2) ?g0 ?g1 ?g2 ?g3 F N ?g5 ?g7 ?g8 ?g9 ?g10 ?g11 ?g14 ?R ?fin
        case g1 => rfl
        case g2 => decide
        case g3 => rfl
        case g5 => (intro Q' h; exact nameX_L F rfl h rfl rfl)
        case g7 => rfl
        case g8 => decide
        case g9 => rfl
        case g10 => decide
        case g11 => rfl
        case g14 => (intro _; rfl)
        case g0 => exact Mine.sgn_ascii ha9 hb9
        case R =>
          intro g Fin hfin
          refine LCt.CompRestT.succ ?_
          rintro v I oI' C oC' D m₂ h tk E' ⟨ch, u, hc, rfl⟩ hC hx F2 N2 off ne
          have ech : ch = Mine.code a := by rw [Mine.sgn2_cps] at hc; simpa using hc.symm
          subst ech
          clear hc
          k_steps
          all_goals (rename (Spec.lookup _ _).isSome = _ => hr1)
          all_goals (first | replace hr1 := Mine.r01_t (j := j2) (a := a) hr1 | replace hr1 := Mine.r01_f (j := j2) (a := a) hr1)
          all_goals refine LCg.CompEnd.intro F2 N2 _ (fun p hp => hp) off trivial ?_
          all_goals clear hC hx off ne F2 N2 D C oC' oI' I E' h m₂
          all_goals refine LCt.CompRestT.succ ?_
          all_goals rintro v I oI' C oC' D m₂ h tk E' ⟨ch, u', hc, rfl⟩ hC hx F2 N2 off ne
          all_goals have ech : ch = Mine.code b := by rw [Mine.sgn2_cps] at hc; simpa using hc.symm
          all_goals subst ech
          all_goals clear hc
          all_goals k_steps
          all_goals (rename (Spec.lookup _ _).isSome = _ => hr2)
          all_goals (first | replace hr2 := Mine.r01_t (j := j2) (a := b) hr2 | replace hr2 := Mine.r01_f (j := j2) (a := b) hr2)
          all_goals refine LCg.CompEnd.intro F2 N2 _ (fun p hp => hp) off trivial ?_
          all_goals refine LCt.CompRestT.zero (hfin _ ?_)
          all_goals (rw [hcnt, hr1, hr2]; simp)
        case fin =>
          intro ys D h tk ⟨hy, hy2⟩ F3 N3 o4
          clear F N
          dsimp only
          simp only [LCg.Off1] at o4
          repeat' ((fail_if_success (with_reducible show wpAny _ _ (call (Value.builtin "len") [Value.ref _]) _ _ _)); (first | (k_unfold; (try dsimp only)) | (k_end; wrow_close) | walk1 | (dsimp only; walk1) | (leave1; try dsimp only) | fail "no step"))
          refine' kun_lenL (k := Mine.cntAt pg pg.cps.size) (News.isList N3 (.head _)) ?k2 ?k3 ?_
          case k2 => (rw [List.size_toArray]; exact hy)
          case k3 => omega
          dsimp only
          repeat' ((fail_if_success (with_reducible show wpAny _ _ (call (Value.builtin "list.append") _) _ _ _)); (first | (k_unfold; (try dsimp only)) | (k_end; wrow_close) | walk1 | (dsimp only; walk1) | (leave1; try dsimp only) | fail "no step"))
          rotate_left
          · rename (pg.length : Int) ≠ _ => hf
            exact absurd (by omega) hf
          rename Fr _ _ _ _ => F9
          rename News _ _ _ _ => N9
          rename _ ∧ _ ∧ _ ∧ _ ∧ _ ∧ _ ∧ _ ∧ _ ∧ _ => l9
          have hcl := Mine.ne_cell N9 (.tail _ (.tail _ (.tail _ (.tail _ (.tail _ (.head _)))))) (.tail _ (.tail _ (.tail _ (.tail _ (.tail _ (.tail _ (.tail _ (.head _)))))))) hdC
          refine' append_K F9 N9 (.tail ?n1 (.tail ?n2 (.tail ?n3 (.tail ?n4 (.tail ?n5 (.head ?n6)))))) ?_ ?z
          case n1 => exact Nat.ne_of_gt l9.2.2.2.2.1
          case n2 => exact Ne.symm o4.2.2.2.1
          case n3 => exact Nat.ne_of_gt l1.2.2.1
          case n4 => exact Ne.symm o3.2.1
          case n5 => exact Ne.symm (ha _ (.head _))
          case n6 =>
            intro p hp
            rcases List.mem_cons.mp hp with rfl | hp
            · exact Nat.ne_of_gt hld.1
            rcases List.mem_cons.mp hp with rfl | hp
            · exact hcl
            rcases List.mem_cons.mp hp with rfl | hp
            · exact Nat.ne_of_lt hlt
            exact Nat.ne_of_gt (htl p hp)
          case z =>
            rw [List.size_toArray, hvs]
            have := hlen9
            have : i < (List.drop 1 ns).length := by
              rcases Nat.lt_or_ge i (List.drop 1 ns).length with h | h
              · exact h
              · rw [List.getElem?_eq_none h] at hn; cases hn
            rw [sizeLine_eq]; omega
          intro h10 F10 N10
          clear F9 N9
          k_steps
          refine' Mine.LEnd.mk ((lT, W.listOf (vs.toArray.push (.ref D4)) (c + 1)) :: (D1, W.listOf ws.toArray 0) :: (s₁.heap.objs.size + 1 + 1 + 1, oC) :: (tA, oT) :: (D4, { cls := .type "tuple", data := .seq #[.int (pg.length : Int) u5, .int (Mine.cntAt pg pg.cps.size) u6] }) :: tl) F10 N10 (.tail _ (.tail _ (.tail _ (.tail _ (.head _))))) ?h1 ?h2 ?h3
          case h1 =>
            intro p hp
            rcases List.mem_cons.mp hp with rfl | hp
            · exact .tail _ (.tail _ (.tail _ (.tail _ (.tail _ (.head _)))))
            rcases List.mem_cons.mp hp with rfl | hp
            · exact .tail _ (.tail _ (.tail _ (.tail _ (.tail _ (.tail _ (.head _))))))
            rcases List.mem_cons.mp hp with rfl | hp
            · exact .tail _ (.tail _ (.tail _ (.tail _ (.tail _ (.tail _ (.tail _ (.head _)))))))
            rcases List.mem_cons.mp hp with rfl | hp
            · exact .tail _ (.tail _ (.tail _ (.tail _ (.tail _ (.tail _ (.tail _ (.tail _ (.head _))))))))
            rcases List.mem_cons.mp hp with rfl | hp
            · exact .tail _ (.tail _ (.head _))
            exact .tail _ (.tail _ (.tail _ (.tail _ (.tail _ (.tail _ (.tail _ (.tail _ (.tail _ hp))))))))
          case h2 =>
            intro p hp
            rcases List.mem_cons.mp hp with rfl | hp
            · exact ha (lT, W.listOf vs.toArray c) (.head _)
            rcases List.mem_cons.mp hp with rfl | hp
            · exact ha _ (.tail _ (.head _))
            rcases List.mem_cons.mp hp with rfl | hp
            · exact ha _ (.tail _ (.tail _ (.head _)))
            rcases List.mem_cons.mp hp with rfl | hp
            · exact ha _ (.tail _ (.tail _ (.tail _ (.head _))))
            rcases List.mem_cons.mp hp with rfl | hp
            · exact Nat.ne_of_gt l1.2.1
            exact ha _ (.tail _ (.tail _ (.tail _ (.tail _ hp))))
          case h3 => exact Mine.LoopJ.grow hn htl l1.2.2.1 hvs hT hpair rfl rfl rfl
    case done =>
      rintro hhx tk3x m₂x nw ⟨vs, c, tl, rfl, htl, hvs, hT, e1, e2, e3⟩ F N
      have hP' : Mine.Pairs lT ((ns.drop 1).map (Mine.pairOf j2)) ((lT, W.listOf vs.toArray c) :: tl) := by
        refine ⟨vs, c, .head _, by rw [hvs, List.length_map], fun k p hk => ?_⟩
        rw [List.take_length] at hT
        obtain ⟨TT, c', x, y, e, hm⟩ := hT k p hk
        exact ⟨TT, c', x, y, e, .tail _ hm⟩
      have hlp : ((ns.drop 1).map (Mine.pairOf j2)).length = 9 := by rw [List.length_map, hlen9]
      generalize (ns.drop 1).map (Mine.pairOf j2) = ps at hP' hlp
      refine Mine.reframe [(Str.ofString "things", .ref lT)] ((lT, W.listOf vs.toArray c) :: tl) F N (List.forall_mem_cons.mpr ⟨e1, List.forall_mem_nil _⟩) (List.forall_mem_cons.mpr ⟨.head _, fun p hp => .tail _ (.tail _ (.tail _ (.tail _ hp)))⟩) ?_
      intro hh tk3 m₂ F2 N2
      dsimp only
      clear N F hT e3 e2 e1 hvs tk3x hhx m₂x l1 hL' hC' hI' N' F' h'
      dsimp only [Mine.bnd] at F2
      generalize hnw : (lT, W.listOf vs.toArray c) :: tl = nw at hP' N2
      clear hnw htl vs c tl hld hlen9 ws D1 m₁ tk' hp' htc hlts hdC hlt htab hlo oT tA hj5 hZ hj52 j2 oC hA4 hA3 hA2 hA1 hA0 hP m₀ tkS hp hne hn10 hI9 ns hc D' ys c1
      have hP := hP'
      clear hP'
      have F : Fr s₁.heap s₁.heap.objs.size hh (fun y => if y = Str.ofString "things" then some (Value.ref lT) else m₂ y) := F2
      have N : News s₁.heap s₁.heap.objs.size hh nw := N2
      clear F2 N2
      repeat' ((fail_if_success (with_reducible show wpAny _ _ (exec (Stmt.For (Expr.Name (Str.ofString "i") _) _ _ _ _) _) _ _ _)); (first | (k_unfold; (try dsimp only)) | (k_end; wrow_close) | walk1 | (dsimp only; walk1) | (leave1; try dsimp only) | fail "no step"))
      all_goals try (rename ¬ ([_, _] = [_, _]) => hf; exact (hf rfl).elim)
      rename_i r9 t9 u9 h9 tk9 l9 hb tkb D9 ys9 h91 tk91 hI9 o9 hb2 tkb2 tkb3 D92 ys92 h92 tk92 hI92 o92 hb3 tkb4 tkb5 l4 hb4 l1 heq hb5 hb6 F' N'
      have F2 : Fr s₁.heap s₁.heap.objs.size hb6 _ := F'
      have N2 : News s₁.heap s₁.heap.objs.size hb6 _ := N'
      clear F' N' F N
      refine Mine.reframe [(Str.ofString "sixes", .int 0 _), (Str.ofString "threes", .int 0 _), (Str.ofString "left", .ref r9), (Str.ofString "things", .ref lT)] ((r9, W.listOf #[.int ((Mine.sumA ps).fmod 3) t9, .int ((Mine.sumB ps).fmod 3) u9] 0) :: nw) F2 N2
        (List.forall_mem_cons.mpr ⟨rfl, List.forall_mem_cons.mpr ⟨rfl, List.forall_mem_cons.mpr ⟨rfl, List.forall_mem_cons.mpr ⟨rfl, List.forall_mem_nil _⟩⟩⟩⟩)
        (List.forall_mem_cons.mpr ⟨by k_mem, fun p hp => .tail _ (.tail _ (.tail _ (.tail _ hp)))⟩) ?_
      intro hp tk m₁ F N
      dsimp only [Mine.bnd] at F
      dsimp only
      clear F2 N2 hb6 heq l1 hb4 l4 tkb5 tkb4 hb3 o92 hI92 tk92 h92 ys92 D92 tkb3 tkb2 hb2 o9 hI9 tk91 h91 ys9 D9 tkb hb tk9 h9 m₂ tk3 hh
      have hP2 : Mine.Pairs lT ps ((r9, W.listOf #[.int ((Mine.sumA ps).fmod 3) t9, .int ((Mine.sumB ps).fmod 3) u9] 0) :: nw) := hP.mono fun _ h => .tail _ h
      refine wpAny_For ?_ (by intro _; rfl)
      walk1; walk1; walk1; walk1; walk1; walk1; walk1
      rename IsRange _ _ _ _ _ _ _ _ => rg
      rename Fr _ _ _ _ => kF
      rename News _ _ _ _ => kN
      refine Mine.iter_range (n := 9) (fun i => Mine.LJ ((r9, W.listOf #[.int ((Mine.sumA ps).fmod 3) t9, .int ((Mine.sumB ps).fmod 3) u9] 0) :: nw) lT r9 (Mine.c3 ps [0, 0] i) (Mine.c3 ps [(Mine.sumA ps).fmod 3, (Mine.sumB ps).fmod 3] i) []) rfl rg rfl (by decide) rfl rfl kF kN ⟨rfl, ⟨_, rfl⟩, ⟨_, rfl⟩, rfl, rfl, List.forall_mem_nil _⟩ ?turn ?done
      case done =>
        rintro h' tk' m' nw' ⟨rfl, ⟨t1, e1⟩, ⟨t2, e2⟩, e3, e4, _⟩ F N
        rename_i Fa Na hx tk1 t₁ u₁ v₁ ke e5
        rw [← Mine.bnd_eq (m := m') (ps := [(Str.ofString "threes", .int _ t1), (Str.ofString "sixes", .int _ t2), (Str.ofString "left", .ref r9)]) (List.forall_mem_cons.mpr ⟨e1, List.forall_mem_cons.mpr ⟨e2, List.forall_mem_cons.mpr ⟨e3, List.forall_mem_nil _⟩⟩⟩)] at F
        dsimp only [Mine.bnd] at F
        have F2 : Fr s₁.heap s₁.heap.objs.size h' _ := F
        have N2 : News s₁.heap s₁.heap.objs.size h' _ := N
        have hm := Mine.many_threes ps hlp
        have hw := Mine.warning ps hlp
        clear F N e1 e2 e3 e4 e5 Fa Na kF kN ke rg hP2
        dsimp only
        k_steps
        · rw [if_pos (by assumption)] at hw
          rename Fr _ _ _ _ => kF
          have e := beq_iff_eq.mpr hw
          dsimp only
          rw [e]
          exact hQ _ _ _ kF
        · rw [if_neg (by assumption)] at hw
          rename Fr _ _ _ _ => kF
          have e := beq_iff_eq.mpr hw
          dsimp only
          rw [e]
          exact hQ _ _ _ kF
      case turn =>
        rintro i tok m₁ nw' h tk oI hi ⟨rfl, ⟨t1, e1⟩, ⟨t2, e2⟩, e3, e4, _⟩ ha F N
        rw [← Mine.bnd_eq (m := m₁) (ps := [(Str.ofString "threes", .int _ t1), (Str.ofString "sixes", .int _ t2), (Str.ofString "left", .ref r9), (Str.ofString "things", .ref lT)]) (List.forall_mem_cons.mpr ⟨e1, List.forall_mem_cons.mpr ⟨e2, List.forall_mem_cons.mpr ⟨e3, List.forall_mem_cons.mpr ⟨e4, List.forall_mem_nil _⟩⟩⟩⟩)] at F
        dsimp only [Mine.bnd] at F
        refine wpAny_execs_cons (wpAny_For ?_ (by intro _; rfl))
        dsimp only
        clear kF kN
        walk1; walk1; walk1; walk1; walk1; walk1; walk1
        rename IsRange _ _ _ _ _ _ _ _ => rg2
        rename Fr _ _ _ _ => kF
        rename News _ _ _ _ => kN
        refine Mine.iter_range (n := i) (fun j => Mine.LJ ((_, oI) :: (r9, W.listOf #[.int ((Mine.sumA ps).fmod 3) t9, .int ((Mine.sumB ps).fmod 3) u9] 0) :: nw) lT r9 (Mine.c3 ps [0, 0] i + Mine.c2 ps [0, 0] i j) (Mine.c3 ps [(Mine.sumA ps).fmod 3, (Mine.sumB ps).fmod 3] i + Mine.c2 ps [(Mine.sumA ps).fmod 3, (Mine.sumB ps).fmod 3] i j) [(Str.ofString "i", (i : Int))]) rfl rg2 rfl (by omega) rfl rfl kF kN ⟨rfl, ⟨_, (by rw [show Mine.c2 ps [0, 0] i 0 = 0 from rfl, Int.add_zero]; rfl)⟩, ⟨_, (by rw [show Mine.c2 ps [(Mine.sumA ps).fmod 3, (Mine.sumB ps).fmod 3] i 0 = 0 from rfl, Int.add_zero]; rfl)⟩, rfl, rfl, List.forall_mem_cons.mpr ⟨⟨_, rfl⟩, List.forall_mem_nil _⟩⟩ ?turn ?done
        case done =>
          rintro h' tk' m' nw' ⟨rfl, ⟨u1, e1'⟩, ⟨u2, e2'⟩, e3', e4', _⟩ F N
          clear kF kN
          refine wpAny_execs_nil ?_
          refine Mine.LEnd.mk _ F N (.head _) (fun p hp => .tail _ hp) ha ⟨rfl, ⟨u1, e1'⟩, ⟨u2, e2'⟩, e3', e4', List.forall_mem_nil _⟩
        case turn =>
          clear kF kN
          rintro j tok m₁ nw' h tk oJ hj ⟨rfl, ⟨u1, e1'⟩, ⟨u2, e2'⟩, e3', e4', e5'⟩ ha2 F N
          obtain ⟨u5, e5'⟩ := e5' _ (.head _)
          rw [← Mine.bnd_eq (m := m₁) (ps := [(Str.ofString "threes", .int _ u1), (Str.ofString "sixes", .int _ u2), (Str.ofString "left", .ref r9), (Str.ofString "things", .ref lT), (Str.ofString "i", .int _ u5)]) (List.forall_mem_cons.mpr ⟨e1', List.forall_mem_cons.mpr ⟨e2', List.forall_mem_cons.mpr ⟨e3', List.forall_mem_cons.mpr ⟨e4', List.forall_mem_cons.mpr ⟨e5', List.forall_mem_nil _⟩⟩⟩⟩⟩)] at F
          dsimp only [Mine.bnd] at F
          refine wpAny_execs_cons (wpAny_For ?_ (by intro _; rfl))
          dsimp only
          walk1; walk1; walk1; walk1; walk1; walk1; walk1
          rename IsRange _ _ _ _ _ _ _ _ => rg3
          rename Fr _ _ _ _ => kF
          rename News _ _ _ _ => kN
          refine Mine.iter_range (n := j) (fun k => Mine.LJ ((_, oJ) :: (_, oI) :: (r9, W.listOf #[.int ((Mine.sumA ps).fmod 3) t9, .int ((Mine.sumB ps).fmod 3) u9] 0) :: nw) lT r9 (Mine.c3 ps [0, 0] i + Mine.c2 ps [0, 0] i j + Mine.c1 ps [0, 0] i j k) (Mine.c3 ps [(Mine.sumA ps).fmod 3, (Mine.sumB ps).fmod 3] i + Mine.c2 ps [(Mine.sumA ps).fmod 3, (Mine.sumB ps).fmod 3] i j + Mine.c1 ps [(Mine.sumA ps).fmod 3, (Mine.sumB ps).fmod 3] i j k) [(Str.ofString "j", (j : Int)), (Str.ofString "i", (i : Int))]) rfl rg3 rfl (by omega) rfl rfl kF kN ⟨rfl, ⟨_, (by rw [show Mine.c1 ps [0, 0] i j 0 = 0 from rfl, Int.add_zero]; rfl)⟩, ⟨_, (by rw [show Mine.c1 ps [(Mine.sumA ps).fmod 3, (Mine.sumB ps).fmod 3] i j 0 = 0 from rfl, Int.add_zero]; rfl)⟩, rfl, rfl, List.forall_mem_cons.mpr ⟨⟨_, rfl⟩, List.forall_mem_cons.mpr ⟨⟨_, rfl⟩, List.forall_mem_nil _⟩⟩⟩ ?turn ?done
          case done =>
            rintro h' tk' m' nw' ⟨rfl, ⟨v1, f1⟩, ⟨v2, f2⟩, f3, f4, f5⟩ F N
            clear kF kN
            refine wpAny_execs_nil ?_
            refine Mine.LEnd.mk _ F N (.head _) (fun p hp => .tail _ hp) ha2 ⟨rfl, ⟨v1, f1.trans (by rw [Int.add_assoc]; rfl)⟩, ⟨v2, f2.trans (by rw [Int.add_assoc]; rfl)⟩, f3, f4, List.forall_mem_cons.mpr ⟨f5 _ (.tail _ (.head _)), List.forall_mem_nil _⟩⟩
          case turn =>
            clear kF kN
            rintro k tok m₁ nw' h tk oK hk ⟨rfl, ⟨v1, f1⟩, ⟨v2, f2⟩, f3, f4, f5⟩ ha3 F N
            obtain ⟨v5, f5'⟩ := f5 _ (.head _)
            obtain ⟨v6, f6'⟩ := f5 _ (.tail _ (.head _))
            rw [← Mine.bnd_eq (m := m₁) (ps := [(Str.ofString "threes", .int _ v1), (Str.ofString "sixes", .int _ v2), (Str.ofString "left", .ref r9), (Str.ofString "things", .ref lT), (Str.ofString "j", .int _ v5), (Str.ofString "i", .int _ v6)]) (List.forall_mem_cons.mpr ⟨f1, List.forall_mem_cons.mpr ⟨f2, List.forall_mem_cons.mpr ⟨f3, List.forall_mem_cons.mpr ⟨f4, List.forall_mem_cons.mpr ⟨f5', List.forall_mem_cons.mpr ⟨f6', List.forall_mem_nil _⟩⟩⟩⟩⟩⟩)] at F
            dsimp only [Mine.bnd] at F
            rename_i Fa Na h' tk1 t₁ u₁ v₁ ke y1 y2 y3 y4 e5 Fb Nb h2 tk3 t2' u2' v2' ke2 y5 y6 h3 y7 eE5 Nc Fc h4 tk5 t3' u3' v3' ke3
            dsimp only at F N ha ha2 ha3 ⊢
            have F2 : Fr s₁.heap s₁.heap.objs.size h _ := F
            have N2 : News s₁.heap s₁.heap.objs.size h _ := N
            have hP3 : Mine.Pairs lT ps ((h4.objs.size, oK) :: (h2.objs.size, oJ) :: (h'.objs.size, oI) :: (r9, W.listOf #[.int ((Mine.sumA ps).fmod 3) t9, .int ((Mine.sumB ps).fmod 3) u9] 0) :: nw) := hP.mono fun _ h => .tail _ (.tail _ (.tail _ (.tail _ h)))
            clear F N f6' f5' f5 f4 f3 f2 f1 ke3 rg3 v3' u3' t3' e5' Fc Nc ha2 eE5 e4' e3' e2' e1' ke2 rg2 v2' u2' t2' Fb Nb ha e5 e4 e3 e2 e1 ke rg v₁ u₁ t₁ Fa Na hP2 hP hQ
            k_steps
            all_goals (
              rename Fr _ _ _ _ => kF
              rename News _ _ _ _ => kN
              refine Mine.LEnd.mk _ kF kN (.tail _ (.tail _ (.tail _ (.head _)))) (fun p hp => .tail _ (.tail _ (.tail _ (.tail _ hp)))) ha3 (Mine.LJ.mk' rfl ?ea rfl ?eb rfl rfl (List.forall_mem_cons.mpr ⟨⟨_, rfl⟩, List.forall_mem_cons.mpr ⟨⟨_, rfl⟩, List.forall_mem_nil _⟩⟩))
              case ea => first | exact Mine.c1_pos (by assumption) | exact Mine.c1_neg (by assumption)
              case eb => first | exact Mine.c1_pos (by assumption) | exact Mine.c1_neg (by assumption)))
