import PyProof.Rows.All
import Wide.All
import OpenK.AllK
import Wide.FinOn
import Lean
import PySem.Challenge.RW_sr0038_01

set_option Elab.async false

-- Hd
section
open PySem PySem.W PyProof.Rows
set_option Elab.async false
namespace Mine
set_option maxRecDepth 100000 in
set_option maxHeartbeats 8000000 in
open_top hd for PySem.Challenge.rw_sr0038_01
end Mine
end

local macro_rules | `(tactic| walk_at $s) => `(tactic| k_extra $s)

-- Base
section
open PySem PySem.W PyProof.Rows
set_option Elab.async false
namespace Mine
noncomputable abbrev lo : List Str := looseW hd.view_39 [Str.ofString "insort_right", Str.ofString "bisect_right", Str.ofString "bisect_left"]
theorem News.sub {h₀ h : Heap} {L : Addr} {news news' : List (Addr × Obj)} (N : News h₀ L h news') (hs : ∀ p ∈ news, p ∈ news') : News h₀ L h news := fun p hp => N p (hs p hp)
theorem News.tl {h₀ h : Heap} {L : Addr} {news : List (Addr × Obj)} {p : Addr × Obj} (N : News h₀ L h (p :: news)) : News h₀ L h news := fun q hq => N q (.tail _ hq)
end Mine
namespace Mine
/-- a goal at which the walk is to stand still -/
noncomputable def Stop (P : Prop) : Prop := P
theorem Stop.mk {P : Prop} (h : Stop P) : P := h
theorem Stop.to {P : Prop} (h : P) : Stop P := h
end Mine
namespace Mine
theorem mid_lo {l h : Int} (_h0 : 0 ≤ l) (h1 : l < h) : l ≤ (l + h).fdiv 2 := by
  rw [Int.fdiv_eq_ediv_of_nonneg _ (by decide)]; omega
theorem mid_hi {l h : Int} (_h0 : 0 ≤ l) (h1 : l < h) : (l + h).fdiv 2 < h := by
  rw [Int.fdiv_eq_ediv_of_nonneg _ (by decide)]; omega
set_option genSizeOf false in
set_option genInjectivity false in
structure BlS where
  lo : Int
  hi : Int
  tl : Tok
  th : Tok
abbrev prg : PySem.Program := PySem.Challenge.rw_sr0038_01.row.prog
noncomputable def CmpLt (w : World) (news : List (Addr × Obj)) (xv : Value) (vs : List Value) (k : Nat) : Prop :=
  ∀ (i : Nat) (v : Value) (A : Around) (Q : Value → Shared → Prop) (E : Value → Shared → Prop) (s' : Shared), vs[i]? = some v → (∀ p ∈ news, s'.heap.get? p.1 = some p.2) →
    A.units + 50 < cLine → (∀ tk, Q (.bool (decide (k ≤ i))) { s' with toks := tk }) → wpAny (model prg w) A (compareOp .Lt xv v) Q E s'
end Mine
namespace Mine
/-- no open tail -/
noncomputable def closedL {α : Type} : List α → Bool
  | [] => true
  | _ :: r => closedL r
noncomputable def AllLtC (d : Nat) : List (Addr × Obj) → Prop
  | [] => True
  | [p] => @LT.lt Nat _ p.1 d
  | p :: q :: r => @LT.lt Nat _ p.1 d ∧ AllLtC d (q :: r)
theorem allLtC_of {d : Addr} {l : List (Addr × Obj)} (h : ∀ p ∈ l, p.1 < d) (c : closedL l = true := by exact rfl) : AllLtC d l := by
  clear c
  induction l with
  | nil => trivial
  | cons p r ih =>
    cases r with
    | nil => exact h p (.head _)
    | cons q r => exact ⟨h p (.head _), ih (fun x hx => h x (.tail _ hx))⟩
end Mine

namespace Mine
theorem News.mk {h₀ h : Heap} {L : Addr} {p : Addr × Obj} {l : List (Addr × Obj)} (a : h.get? p.1 = some p.2 ∧ p.1 ≠ L ∧ h₀.get? p.1 = none) (b : News h₀ L h l) : News h₀ L h (p :: l) :=
  List.forall_mem_cons.mpr ⟨a, b⟩
theorem News.hd {h₀ h : Heap} {L : Addr} {p : Addr × Obj} {l : List (Addr × Obj)} (N : News h₀ L h (p :: l)) : h.get? p.1 = some p.2 ∧ p.1 ≠ L ∧ h₀.get? p.1 = none := N p (.head _)
theorem at_keep {h₀ h h' : Heap} {L D : Addr} {p : Addr × Obj} (a : h.get? p.1 = some p.2 ∧ p.1 ≠ L ∧ h₀.get? p.1 = none) (hb : ∀ b o, b ≠ D → h.get? b = some o → h'.get? b = some o) (n : p.1 ≠ D) : h'.get? p.1 = some p.2 ∧ p.1 ≠ L ∧ h₀.get? p.1 = none :=
  ⟨hb _ _ n a.1, a.2⟩
theorem News.chg {h₀ h h' : Heap} {L D : Addr} {l : List (Addr × Obj)} (N : News h₀ L h l) (hb : ∀ b o, b ≠ D → h.get? b = some o → h'.get? b = some o) (n : ∀ p ∈ l, p.1 ≠ D) : News h₀ L h' l := fun p hp => at_keep (N p hp) hb (n p hp)
theorem all_cons {α : Type} {P : α → Prop} {x : α} {l : List α} (a : P x) (b : ∀ p ∈ l, P p) : ∀ p ∈ x :: l, P p := List.forall_mem_cons.mpr ⟨a, b⟩
theorem all_hd {α : Type} {P : α → Prop} {x : α} {l : List α} (a : ∀ p ∈ x :: l, P p) : P x := a x (.head _)
theorem all_tl {α : Type} {P : α → Prop} {x : α} {l : List α} (a : ∀ p ∈ x :: l, P p) : ∀ p ∈ l, P p := fun p hp => a p (.tail _ hp)
theorem off_cons {I : Addr} {x : Addr × Obj} {l : List (Addr × Obj)} (a : x.1 ≠ I) (b : ∀ p ∈ l, p.1 ≠ I) : ∀ p ∈ x :: l, p.1 ≠ I := List.forall_mem_cons.mpr ⟨a, b⟩
theorem off_hd {I : Addr} {x : Addr × Obj} {l : List (Addr × Obj)} (a : ∀ p ∈ x :: l, p.1 ≠ I) : x.1 ≠ I := a x (.head _)
theorem off_tl {I : Addr} {x : Addr × Obj} {l : List (Addr × Obj)} (a : ∀ p ∈ x :: l, p.1 ≠ I) : ∀ p ∈ l, p.1 ≠ I := fun p hp => a p (.tail _ hp)
theorem mid_nat {l m hh : Int} {n : Nat} (p1 : 0 ≤ l) (a1 : l ≤ m) (a2 : m < hh) (p4 : hh ≤ n) : m.toNat < n := (Int.toNat_lt (Int.le_trans p1 a1)).mpr (Int.lt_of_lt_of_le a2 p4)
theorem mid_up {l m hh : Int} (a1 : l ≤ m) (a2 : m < hh) : (m - l).toNat < (hh - l).toNat := by omega
theorem mid_dn {l m hh : Int} (a1 : l ≤ m) (a2 : m < hh) : (hh - (m + 1)).toNat < (hh - l).toNat := by omega
theorem lo_eq {l hh k : Int} (p2 : l ≤ k) (p3 : k ≤ hh) (h : ¬ l < hh) : l = k := Int.le_antisymm p2 (Int.le_trans p3 (Int.not_lt.mp h))
theorem hideG {P : Prop} (h : ∀ G : Prop, (P → G) → G) : P := h P id
theorem lt_up {P : Nat → Prop} {n k : Nat} (h : k < n → P k) (hn : P n) (hk : k < n + 1) : P k := (Nat.lt_or_eq_of_le (Nat.le_of_lt_succ hk)).elim h (fun e => e ▸ hn)
theorem lt4 {P : Nat → Prop} (h0 : P 0) (h1 : P 1) (h2 : P 2) (h3 : P 3) {k : Nat} (hk : k < 4) : P k := lt_up (lt_up (lt_up (lt_up (fun h => absurd h (Nat.not_lt_zero _)) h0) h1) h2) h3 hk
theorem ble_off {x y : Nat} {p : Bool} (h : (Nat.ble y x || p) = true) (l : x < y) : p = true := (Bool.or_eq_true_iff.mp h).resolve_left (fun e => absurd (Nat.le_of_ble_eq_true e) (Nat.not_le_of_lt l))
theorem all_nil {α : Type} {P : α → Prop} : ∀ p ∈ ([] : List α), P p := nofun
end Mine
namespace Mine
/-- a test of all a < b < c < d < 16 -/
noncomputable def q4 (P : Nat → Nat → Nat → Nat → Bool) : Bool :=
  (List.range 16).all fun a => (List.range 16).all fun b => !(Nat.blt a b) || (List.range 16).all fun c => !(Nat.blt b c) || (List.range 16).all fun d => !(Nat.blt c d) || P a b c d
theorem q4_un {P : Nat → Nat → Nat → Nat → Bool} (h : q4 P = true) {a b c d : Nat} (hab : a < b) (hbc : b < c) (hcd : c < d) (hd : d < 16) : P a b c d = true := by
  have hc := Nat.lt_trans hcd hd
  have hb := Nat.lt_trans hbc hc
  have h1 := List.all_eq_true.mp h a (List.mem_range.mpr (Nat.lt_trans hab hb))
  have h2 := List.all_eq_true.mp h1 b (List.mem_range.mpr hb)
  rw [show Nat.blt a b = true from Nat.ble_eq_true_of_le hab, Bool.not_true, Bool.false_or] at h2
  have h3 := List.all_eq_true.mp h2 c (List.mem_range.mpr hc)
  rw [show Nat.blt b c = true from Nat.ble_eq_true_of_le hbc, Bool.not_true, Bool.false_or] at h3
  have h4 := List.all_eq_true.mp h3 d (List.mem_range.mpr hd)
  rw [show Nat.blt c d = true from Nat.ble_eq_true_of_le hcd, Bool.not_true, Bool.false_or] at h4
  exact h4
end Mine

-- rules
end

open PySem PySem.W PyProof.Rows
local macro_rules | `(tactic| k_units) => `(tactic| with_reducible (iterate 15 first | done | assumption | apply And.right); done)
local macro_rules | `(tactic| k_types) => `(tactic| with_reducible first | k_units | apply And.left <;> k_units | apply Nat.lt_add_one | apply Nat.lt_add_one_of_lt <;> k_types)
local macro_rules | `(tactic| k_ne) => `(tactic| apply neN <;> omega)
local macro_rules | `(tactic| k_ne) => `(tactic| apply Nat.ne_of_gt <;> k_types)
local macro_rules | `(tactic| k_ne) => `(tactic| apply Nat.ne_of_lt <;> k_types)
local macro_rules | `(tactic| k_lt $h) => `(tactic| replace $h := Mine.allLtC_of $h <;> dsimp only [Mine.AllLtC] at $h:ident)
local macro_rules | `(tactic| omega) => `(tactic| decide)

-- C1
section
open PySem PySem.W PyProof.Rows
set_option Elab.async false
set_option linter.unusedVariables false
example : PySem.Challenge.rw_sr0038_01 = PySem.Challenge.rw_sr0038_01 ∧ Mine.hd.heap_39 = Mine.hd.heap_39 := by
  k_fill
  exact ⟨rfl, rfl⟩
namespace Mine
example : True := by
  k_with_none
  trivial
set_option maxRecDepth 100000 in
set_option maxHeartbeats 8000000 in
theorem bl {w : World} {mean mg mb} {dp un gd cn cs a ccd cl outer A₀ base h₀ L m s} {Q E : Value → Shared → Prop} {D : Addr} {n : Nat} {vs : List Value} {ns : List Int} {x : Int} {t : Tok} {news} {k : Nat}
   (B : Below A₀ base outer h₀) (F : Fr h₀ L s.heap m) (X : (hd.heap_39 w.params).In h₀) (N : News h₀ L s.heap ((D, listOf vs.toArray n) :: news)) (T : Top hd.view_39 lo mean mg mb h₀) (hk : cs.kind = .function)
   (hI : IntsAre vs ns) (hlen : ns.length < 1000) (hdp : dp + 1 < recursionLimit) (hu : un + 8 < cLine)
   (hkl : k ≤ ns.length) (hk1 : ∀ i < k, ns.getD i 0 < x) (hk2 : ∀ i, k ≤ i → i < ns.length → ¬ ns.getD i 0 < x)
   (ret : ∀ t h' tk', Fr h₀ L h' m → News h₀ L h' ((D, listOf vs.toArray n) :: news) → Q (.int k t) {s with heap := h', toks := tk'}) :
   wpAny (model PySem.Challenge.rw_sr0038_01.row.prog w) (ktrTop dp un gd cn cs L a ccd cl outer) (call (.ref 41) [.ref D, .int x t]) Q E s := by

  refine wpAny_call ?_
  k_dflt (refine' code_def ?k1 ?k2 ?k3 ?k4 ?k5 ?kA ?kF ?kK ?k6 ?k7 ?k8 ?k9 ?kB ?_ ?c2 ?c3 ?c4 ?c5; (case kA => exact rfl); (case kF => exact rfl); (case kK => assumption); (case k1 => k_asm); (case k2 => k_asm); (case k3 => k_asm); (case k4 => k_asm); (case k5 => k_asm); (case k6 => k_is); (case k7 => k_is); (case k8 => exact Nat.lt_of_le_of_lt (Nat.le_add_right dp _) hdp); (case k9 => (refine' kp_binds ?kx ?ke; (case kx => k_in); (case ke => exact fun _ => rfl))); (case c5 => decide); (case kB => exact locs rfl); (case c2 => exact rfl); (case c3 => exact rfl); (case c4 => exact rfl); k_whole; intro g' L' h' FG' F' N' B' X' T'; (try dsimp only); (try k_lift B'); (try k_fold))

  k_with "exec While Compare cons nil" => refine Stop.mk ?_
  k_steps
  refine Stop.to ?_

  rename Fr g' L' _ _ => F1
  rename News g' L' _ _ => N1
  refine' ksw_while (σ := BlS) (fun _ => (D, listOf vs.toArray n) :: news) (fun c => [(Str.ofString "lo", .int c.lo c.tl), (Str.ofString "hi", .int c.hi c.th)]) (fun _ => True) [Str.ofString "mid"] (fun c => 0 ≤ c.lo ∧ c.lo ≤ k ∧ (k : Int) ≤ c.hi ∧ c.hi ≤ ns.length) (fun c => (c.hi - c.lo).toNat) ⟨0, ns.length, ?tl, ?th⟩ F1 N1 trivial (List.forall_mem_cons.mpr ⟨rfl, List.forall_mem_cons.mpr ⟨rfl, List.forall_mem_nil _⟩⟩) ⟨Int.le_refl _, Int.natCast_nonneg _, Int.ofNat_le.mpr hkl, Int.le_refl _⟩ ?_
  clear F1 N1
  rintro ⟨l, hh, tl, th⟩ u h1 tk1 _ ⟨p1, p2, p3, p4⟩ F1 N1
  dsimp only at p1 p2 p3 p4 F1 N1

  k_steps

  · have a1 := mid_lo p1 ‹l < hh›
    have a2 := mid_hi p1 ‹l < hh›
    have a3 : (l + hh).fdiv 2 < k := by
      refine Int.not_le.mp fun hc => hk2 ((l + hh).fdiv 2).toNat ((Int.le_toNat (Int.le_trans p1 a1)).mpr hc) (mid_nat p1 a1 a2 p4) (by assumption)
    refine ksw_end ⟨(l + hh).fdiv 2 + 1, hh, _, _⟩ (by assumption) (by assumption) (by exact fun _ h => h) trivial (by exact List.forall_mem_cons.mpr ⟨rfl, List.forall_mem_cons.mpr ⟨rfl, List.forall_mem_nil _⟩⟩) (by intro z h2 h3; have a := h2 _ (.head _); have b := h2 _ (.tail _ (.head _)); have c : z ≠ Str.ofString "mid" := (fun e => by rw [e] at h3; exact absurd h3 (by decide)); dsimp only at a b; simp only [kstB, if_neg a, if_neg b, if_neg c, h3, Bool.false_eq_true, if_false]) ?_ ?_
    · exact ⟨Int.add_nonneg (Int.le_trans p1 a1) (by decide), Int.add_one_le_of_lt a3, p3, p4⟩
    · exact mid_dn a1 a2
  · have a1 := mid_lo p1 ‹l < hh›
    have a2 := mid_hi p1 ‹l < hh›
    have a3 : k ≤ (l + hh).fdiv 2 := by
      refine Int.not_lt.mp fun hc => absurd (hk1 ((l + hh).fdiv 2).toNat ((Int.toNat_lt (Int.le_trans p1 a1)).mpr hc)) (by assumption)
    refine ksw_end ⟨l, (l + hh).fdiv 2, _, _⟩ (by assumption) (by assumption) (by exact fun _ h => h) trivial (by exact List.forall_mem_cons.mpr ⟨rfl, List.forall_mem_cons.mpr ⟨rfl, List.forall_mem_nil _⟩⟩) (by intro z h2 h3; have a := h2 _ (.head _); have b := h2 _ (.tail _ (.head _)); have c : z ≠ Str.ofString "mid" := (fun e => by rw [e] at h3; exact absurd h3 (by decide)); dsimp only at a b; simp only [kstB, if_neg a, if_neg b, if_neg c, h3, Bool.false_eq_true, if_false]) ?_ ?_
    · exact ⟨p1, p2, a3, Int.le_of_lt (Int.lt_of_lt_of_le a2 p4)⟩
    · exact mid_up a1 a2
  · have e : l = k := lo_eq p2 p3 ‹¬ l < hh›
    rw [e]
    exact ret _ _ _ (by assumption) (by assumption)

end Mine
end

-- C2
section
open PySem PySem.W PyProof.Rows
set_option Elab.async false
set_option linter.unusedVariables false
example : PySem.Challenge.rw_sr0038_01 = PySem.Challenge.rw_sr0038_01 ∧ Mine.hd.heap_39 = Mine.hd.heap_39 := by
  k_fill
  exact ⟨rfl, rfl⟩
namespace Mine
example : True := by
  k_with_none
  trivial
set_option maxRecDepth 100000 in
set_option maxHeartbeats 8000000 in
theorem br {w : World} {mean mg mb} {dp un gd cn cs a ccd cl outer A₀ base h₀ L m s} {Q E : Value → Shared → Prop} {D : Addr} {n : Nat} {vs : List Value} {xv : Value} {t : Tok} {news} {k : Nat}
   (B : Below A₀ base outer h₀) (F : Fr h₀ L s.heap m) (X : (hd.heap_39 w.params).In h₀) (N : News h₀ L s.heap ((D, listOf vs.toArray n) :: news)) (T : Top hd.view_39 lo mean mg mb h₀) (hk : cs.kind = .function)
   (hlen : vs.length < 1000) (hdp : dp + 1 < recursionLimit) (hu : un + 80 < cLine)
   (hkl : k ≤ vs.length) (hcmp : CmpLt w news xv vs k)
   (ret : ∀ t h' tk', Fr h₀ L h' m → News h₀ L h' ((D, listOf vs.toArray n) :: news) → Q (.int k t) {s with heap := h', toks := tk'}) :
   wpAny (model PySem.Challenge.rw_sr0038_01.row.prog w) (ktrTop dp un gd cn cs L a ccd cl outer) (call (.ref 32) [.ref D, xv, .int 0 t, .none]) Q E s := by
  refine wpAny_call ?_
  k_dflt (refine' code_def ?k1 ?k2 ?k3 ?k4 ?k5 ?kA ?kF ?kK ?k6 ?k7 ?k8 ?k9 ?kB ?_ ?c2 ?c3 ?c4 ?c5; (case kA => exact rfl); (case kF => exact rfl); (case kK => assumption); (case k1 => k_asm); (case k2 => k_asm); (case k3 => k_asm); (case k4 => k_asm); (case k5 => k_asm); (case k6 => k_is); (case k7 => k_is); (case k8 => exact Nat.lt_of_le_of_lt (Nat.le_add_right dp _) hdp); (case k9 => (refine' kp_binds ?kx ?ke; (case kx => k_in); (case ke => exact fun _ => rfl))); (case c5 => decide); (case kB => exact locs rfl); (case c2 => exact rfl); (case c3 => exact rfl); (case c4 => exact rfl); k_whole; intro g' L' h' FG' F' N' B' X' T'; (try dsimp only); (try k_lift B'); (try k_fold))
  k_with "exec While Compare cons nil" => refine Stop.mk ?_
  k_with "call builtin:len" => refine Stop.mk ?_
  k_with "subscriptTail Name Name ref int" => refine Stop.mk ?_
  k_with "compareOp Lt" => refine Stop.mk ?_
  k_steps
  refine Stop.to ?_
  refine len_list (by is_list) (by rw [List.size_toArray]; exact Int.lt_of_lt_of_le (Int.ofNat_lt.mpr hlen) (by decide)) ?_
  rw [List.size_toArray]
  k_steps
  refine Stop.to ?_
  rename Fr g' L' _ _ => F1
  rename News g' L' _ _ => N1
  refine' ksw_while (σ := BlS) (fun _ => (D, listOf vs.toArray n) :: news) (fun c => [(Str.ofString "lo", .int c.lo c.tl), (Str.ofString "hi", .int c.hi c.th)]) (fun _ => True) [Str.ofString "mid"] (fun c => 0 ≤ c.lo ∧ c.lo ≤ k ∧ (k : Int) ≤ c.hi ∧ c.hi ≤ vs.length) (fun c => (c.hi - c.lo).toNat) ⟨0, vs.length, ?tl, ?th⟩ F1 N1 trivial (List.forall_mem_cons.mpr ⟨rfl, List.forall_mem_cons.mpr ⟨rfl, List.forall_mem_nil _⟩⟩) ⟨Int.le_refl _, Int.natCast_nonneg _, Int.ofNat_le.mpr hkl, Int.le_refl _⟩ ?_
  clear F1 N1
  rintro ⟨l, hh, tl, th⟩ u h1 tk1 _ ⟨p1, p2, p3, p4⟩ F1 N1
  dsimp only at p1 p2 p3 p4 F1 N1
  k_steps
  · refine Stop.to ?_
    have a1 := mid_lo p1 ‹l < hh›
    have a2 := mid_hi p1 ‹l < hh›
    obtain ⟨v, hv⟩ : ∃ v, vs[((l + hh).fdiv 2).toNat]? = some v := ⟨_, List.getElem?_eq_getElem (mid_nat p1 a1 a2 p4)⟩
    refine item_list (items := vs.toArray) (by is_list) (Int.le_trans p1 a1) (Int.lt_trans (Int.lt_of_lt_of_le a2 p4) (Int.lt_of_lt_of_le (Int.ofNat_lt.mpr hlen) (by decide))) (by simpa using hv) ?_
    k_steps
    refine Stop.to ?_
    refine hcmp _ _ _ _ _ _ hv ?_ ?_ ?_
    · rename News g' L' _ _ => N2
      exact fun p hp => (N2 p (.tail _ hp)).1
    · exact Nat.lt_of_le_of_lt (Nat.add_le_add_left (by decide : 53 ≤ 80) un) hu
    intro tk2
    k_steps
    · refine ksw_end ⟨l, (l + hh).fdiv 2, _, _⟩ (by assumption) (by assumption) (by exact fun _ h => h) trivial (by exact List.forall_mem_cons.mpr ⟨rfl, List.forall_mem_cons.mpr ⟨rfl, List.forall_mem_nil _⟩⟩) (by intro z h2 h3; have a := h2 _ (.head _); have b := h2 _ (.tail _ (.head _)); have c : z ≠ Str.ofString "mid" := (fun e => by rw [e] at h3; exact absurd h3 (by decide)); dsimp only at a b; simp only [kstB, if_neg a, if_neg b, if_neg c, h3, Bool.false_eq_true, if_false]) ?_ ?_
      · exact ⟨p1, p2, (Int.le_toNat (Int.le_trans p1 a1)).mp (by assumption), Int.le_of_lt (Int.lt_of_lt_of_le a2 p4)⟩
      · exact mid_up a1 a2
    · refine ksw_end ⟨(l + hh).fdiv 2 + 1, hh, _, _⟩ (by assumption) (by assumption) (by exact fun _ h => h) trivial (by exact List.forall_mem_cons.mpr ⟨rfl, List.forall_mem_cons.mpr ⟨rfl, List.forall_mem_nil _⟩⟩) (by intro z h2 h3; have a := h2 _ (.head _); have b := h2 _ (.tail _ (.head _)); have c : z ≠ Str.ofString "mid" := (fun e => by rw [e] at h3; exact absurd h3 (by decide)); dsimp only at a b; simp only [kstB, if_neg a, if_neg b, if_neg c, h3, Bool.false_eq_true, if_false]) ?_ ?_
      · exact ⟨Int.add_nonneg (Int.le_trans p1 a1) (by decide), Int.add_one_le_of_lt ((Int.toNat_lt (Int.le_trans p1 a1)).mp (Nat.lt_of_not_le (by assumption))), p3, p4⟩
      · exact mid_dn a1 a2
  · have e : l = k := lo_eq p2 p3 ‹¬ l < hh›
    rw [e]
    exact ret _ _ _ (by assumption) (by assumption)
end Mine
end

-- C3
section
open PySem PySem.W PyProof.Rows
set_option Elab.async false
set_option linter.unusedVariables false
example : PySem.Challenge.rw_sr0038_01 = PySem.Challenge.rw_sr0038_01 ∧ Mine.hd.heap_39 = Mine.hd.heap_39 := by
  k_fill
  exact ⟨rfl, rfl⟩
namespace Mine
example : True := by
  k_with_none
  trivial
set_option maxRecDepth 100000 in
set_option maxHeartbeats 8000000 in
theorem ins {w : World} {mean mg mb} {dp un gd cn cs a ccd cl outer A₀ base h₀ L m s} {Q E : Value → Shared → Prop} {D : Addr} {n : Nat} {vs : List Value} {xv : Value} {news} {k : Nat}
   (B : Below A₀ base outer h₀) (F : Fr h₀ L s.heap m) (X : (hd.heap_39 w.params).In h₀) (N : News h₀ L s.heap ((D, listOf vs.toArray n) :: news)) (T : Top hd.view_39 lo mean mg mb h₀) (hk : cs.kind = .function)
   (hD : ∀ p ∈ news, p.1 ≠ D) (hlen : vs.length < 1000) (hdp : dp + 2 < recursionLimit) (hu : un + 90 < cLine)
   (hkl : k ≤ vs.length) (hcmp : CmpLt w news xv vs k)
   (ret : ∀ h' tk', Fr h₀ L h' m → News h₀ L h' ((D, listOf (vs.take k ++ xv :: vs.drop k).toArray (n + 1)) :: news) → Q .none {s with heap := h', toks := tk'}) :
   wpAny (model PySem.Challenge.rw_sr0038_01.row.prog w) (ktrTop dp un gd cn cs L a ccd cl outer) (call (.ref 23) [.ref D, xv]) Q E s := by
  refine wpAny_call ?_
  k_dflt (refine' code_def ?k1 ?k2 ?k3 ?k4 ?k5 ?kA ?kF ?kK ?k6 ?k7 ?k8 ?k9 ?kB ?_ ?c2 ?c3 ?c4 ?c5; (case kA => exact rfl); (case kF => exact rfl); (case kK => assumption); (case k1 => k_asm); (case k2 => k_asm); (case k3 => k_asm); (case k4 => k_asm); (case k5 => k_asm); (case k6 => k_is); (case k7 => k_is); (case k8 => exact Nat.lt_of_le_of_lt (Nat.le_add_right dp _) hdp); (case k9 => (refine' kp_binds ?kx ?ke; (case kx => k_in); (case ke => exact fun _ => rfl))); (case c5 => decide); (case kB => exact locs rfl); (case c2 => exact rfl); (case c3 => exact rfl); (case c4 => exact rfl); k_whole; intro g' L' h' FG' F' N' B' X' T'; (try dsimp only); (try k_lift B'); (try k_fold))
  k_with "call ref" => refine Stop.mk ?_
  k_with "call builtin:list.insert" => refine Stop.mk ?_
  k_steps
  refine Stop.to ?_
  rename Fr g' L' _ _ => F1
  rename News g' L' _ _ => N1
  refine br B' F1 X' N1 T' rfl hlen (show dp + 1 + 1 < recursionLimit from ‹dp + 2 < recursionLimit›) (show un + 3 + 80 < cLine from Nat.lt_of_le_of_lt (Nat.add_le_add_left (by decide : 83 ≤ 90) un) ‹un + 90 < cLine›) hkl hcmp ?_
  intro t1 h1 tk1 F2 N2
  clear F1 N1
  dsimp only
  k_steps
  refine Stop.to ?_
  rename Fr g' L' _ _ => F2
  rename News g' L' _ _ => N2
  refine kl_insert F2 N2 (by simp only [Builtin.List.listFitsIndex, Bool.and_eq_true, decide_eq_true_eq]; omega) (l := vs.take k ++ xv :: vs.drop k) ?_ (Upd.head hD) (by rw [sizeLine_eq]; show vs.length ≤ _; omega) ?_
  · have e : (if (k : Int) < 0 then ((k : Int) + (vs.length : Int)).toNat else min (k : Int).toNat vs.length) = k := by
      rw [if_neg (Int.not_lt.mpr (Int.natCast_nonneg _)), Int.toNat_natCast]; exact Nat.min_eq_left hkl
    show kl_ins vs _ _ = _
    unfold kl_ins
    rw [e]
  intro h3 F3 N3
  clear F2 N2
  k_steps
  exact ret _ _ (by assumption) (by assumption)
end Mine
end

-- C4
section
open PySem PySem.W PyProof.Rows
set_option Elab.async false
set_option linter.unusedVariables false
example : PySem.Challenge.rw_sr0038_01 = PySem.Challenge.rw_sr0038_01 ∧ Mine.hd.heap_39 = Mine.hd.heap_39 := by
  k_fill
  exact ⟨rfl, rfl⟩
namespace Mine
/-- m quotes -/
noncomputable def quo (m : Nat) : Str := ⟨(List.replicate m 34).toArray⟩
noncomputable def quoK (m : Nat) : Str := ⟨(List.replicate m 34 ++ [107]).toArray⟩
noncomputable def r257 (m : Nat) : Str := ⟨([50, 53, 55, 32, 34] ++ List.replicate m 34 ++ [107]).toArray⟩
set_option genSizeOf false in
set_option genInjectivity false in
structure PqS where
  i : Int
  d : Str
  ti : Tok
  td : Tok
theorem q_s1 : ∀ k < 16, (Txt.slice (r257 k) none (some 3) != Str.ofString "257") = false := by decide +kernel
theorem q_s2 : ∀ k < 16, (Txt.slice (r257 k) (some 3) (some 5) != Str.ofString " \"") = false := by decide +kernel
theorem q_len : ∀ k < 16, (r257 k).length = k + 6 := by decide +kernel
theorem q_item : ∀ k < 16, ∀ p < 16, p < k → Txt.item (r257 k) (5 + p) = Str.ofString "\"" := by decide +kernel
theorem q_last : ∀ k < 16, Txt.item (r257 k) (5 + k) = Str.ofString "k" := by decide +kernel
theorem q_up : ∀ k < 16, quo k ++ Str.ofString "\"" = quo (k + 1) := by decide +kernel
theorem q_upK : ∀ k < 16, quo k ++ Str.ofString "k" = quoK k := by decide +kernel
theorem q_qlen : ∀ k < 16, (quo k).length = k := by decide +kernel
theorem q_klen : ∀ k < 16, (quoK k).length = k + 1 := by decide +kernel
theorem q_ilen (r : Str) (i : Int) : (Txt.item r i).length = 1 := rfl
theorem hX257 {j k : Nat} (h2 : 2 * j ≤ k) : (5 : Int) + 2 * (j : Int) < (k : Int) + 6 := Int.ofNat_lt.mpr (show 5 + 2 * j < k + 6 by rw [Nat.add_comm 5]; exact Nat.lt_succ_of_le (Nat.add_le_add_right h2 5))
theorem dec2 {X c c' : Int} (h : c < X) (hc : c < c') : (X - c').toNat < (X - c).toNat := (Int.toNat_lt_toNat (Int.sub_pos_of_lt h)).mpr (Int.sub_lt_sub_left hc X)
theorem dbl_lt {j k : Nat} (h : 2 * j ≤ k) (hk : k < 16) : j < 16 := Nat.lt_of_le_of_lt (Nat.le_trans (Nat.le_mul_of_pos_left j (by decide)) h) hk
example : True := by
  k_with_none
  trivial
set_option maxRecDepth 100000 in
set_option maxHeartbeats 8000000 in
theorem p257 {w : World} {mean mg mb} {dp un gd cn cs a ccd cl outer A₀ base h₀ L m s} {Q E : Value → Shared → Prop} {r : Str} {k : Nat} {t : Tok} {news}
   (B : Below A₀ base outer h₀) (F : Fr h₀ L s.heap m) (X : (hd.heap_39 w.params).In h₀) (N : News h₀ L s.heap news) (T : Top hd.view_39 lo mean mg mb h₀) (hk : cs.kind = .function)
   (hdp : dp + 1 < recursionLimit) (hu : un + 80 < cLine) (hr : r = r257 k) (hlen : k < 16)
   (ret : ∀ t h' tk', Fr h₀ L h' m → News h₀ L h' news → Q (.str (if k % 2 = 0 then quoK (k / 2) else quo (k / 2)) t) {s with heap := h', toks := tk'}) :
   wpAny (model PySem.Challenge.rw_sr0038_01.row.prog w) (ktrTop dp un gd cn cs L a ccd cl outer) (call (.ref 106) [.str r t]) Q E s := by
  refine wpAny_call ?_
  k_dflt (refine' code_def ?k1 ?k2 ?k3 ?k4 ?k5 ?kA ?kF ?kK ?k6 ?k7 ?k8 ?k9 ?kB ?_ ?c2 ?c3 ?c4 ?c5; (case kA => exact rfl); (case kF => exact rfl); (case kK => assumption); (case k1 => k_asm); (case k2 => k_asm); (case k3 => k_asm); (case k4 => k_asm); (case k5 => k_asm); (case k6 => k_is); (case k7 => k_is); (case k8 => exact Nat.lt_of_le_of_lt (Nat.le_add_right dp _) hdp); (case k9 => (refine' kp_binds ?kx ?ke; (case kx => k_in); (case ke => exact fun _ => rfl))); (case c5 => decide); (case kB => exact locs rfl); (case c2 => exact rfl); (case c3 => exact rfl); (case c4 => exact rfl); k_whole; intro g' L' h' FG' F' N' B' X' T'; (try dsimp only); (try k_lift B'); (try k_fold))
  k_with "exec While Compare cons nil" => refine Stop.mk ?_
  k_with "binaryOp Add str str" => refine Stop.mk ?_
  have hs1 : (Txt.slice r none (some 3) != Str.ofString "257") = false := by rw [hr]; exact q_s1 k hlen
  have hs2 : (Txt.slice r (some 3) (some 5) != Str.ofString " \"") = false := by rw [hr]; exact q_s2 k hlen
  have hrl : r.length = k + 6 := by rw [hr]; exact q_len k hlen
  have hq : ∀ p : Nat, p < k → Txt.item r (5 + p) = Str.ofString "\"" := fun p hp => by rw [hr]; exact q_item k hlen p (Nat.lt_trans hp hlen) hp
  have hqk : Txt.item r (5 + k) = Str.ofString "k" := by rw [hr]; exact q_last k hlen
  clear hr
  k_steps
  refine Stop.to ?_
  rename Fr g' L' _ _ => F1
  rename News g' L' _ _ => N1
  refine' ksw_while (σ := PqS) (fun _ => news) (fun c => [(Str.ofString "i", .int c.i c.ti), (Str.ofString "dirname", .str c.d c.td)]) (fun _ => True) [Str.ofString "c"] (fun c => (∃ j : Nat, c.i = 5 + 2 * j ∧ 2 * j ≤ k ∧ c.d = quo j) ∨ (c.i = k + 6 ∧ k % 2 = 0 ∧ c.d = quoK (k / 2))) (fun c => (k + 6 - c.i).toNat) ⟨5, quo 0, ?ti, ?td⟩ F1 N1 trivial (List.forall_mem_cons.mpr ⟨rfl, List.forall_mem_cons.mpr ⟨rfl, List.forall_mem_nil _⟩⟩) (.inl ⟨0, rfl, Nat.zero_le _, rfl⟩) ?_
  clear F1 N1
  rintro ⟨i, d, ti, td⟩ u h1 tk1 _ hp F1 N1
  dsimp only at hp F1 N1
  have hi0 : 0 ≤ i := by
    rcases hp with ⟨j, e, _⟩ | ⟨e, _⟩
    · rw [e]
      exact Int.add_nonneg (by decide) (Int.mul_nonneg (by decide) (Int.natCast_nonneg _))
    · rw [e]
      exact Int.add_nonneg (Int.natCast_nonneg _) (by decide)
  k_steps
  · rename (_ == _) = true => e1
    exfalso
    rcases hp with ⟨j, rfl, h2, rfl⟩ | ⟨rfl, h2, rfl⟩
    · by_cases hj : 2 * j = k
      · subst hj
        rw [show (5 : Int) + 2 * (j : Int) = 5 + ((2 * j : Nat) : Int) from rfl, hqk] at e1
        exact absurd e1 (by decide)
      · omega
    · omega
  · rename (_ == _) = true => e1
    rename (_ != _) = true => e2
    rcases hp with ⟨j, rfl, h2, rfl⟩ | ⟨rfl, h2, rfl⟩
    · by_cases hj : 2 * j = k
      · subst hj
        rw [show (5 : Int) + 2 * (j : Int) = 5 + ((2 * j : Nat) : Int) from rfl, hqk] at e1
        exact absurd e1 (by decide)
      · by_cases hj2 : 2 * j + 1 < k
        · rw [show (5 : Int) + 2 * (j : Int) + 1 = 5 + ((2 * j + 1 : Nat) : Int) from Int.add_assoc _ _ _, hq _ hj2] at e2
          exact absurd e2 (by decide)
        · have e3 : k = 2 * j + 1 := Nat.le_antisymm (Nat.not_lt.mp hj2) (Nat.lt_of_le_of_ne h2 hj)
          have e4 : k % 2 = 1 := by rw [e3]; exact Nat.mul_add_mod 2 j 1
          have e5 : k / 2 = j := by rw [e3]; exact Nat.mul_add_div (by decide) j 1
          have q := ret
          rw [if_neg (by rw [e4]; exact Nat.one_ne_zero), e5] at q
          exact q _ _ _ (by assumption) (by assumption)
    · omega
  · refine Stop.to ?_
    rename (_ == _) = true => e1
    rename (_ != _) = false => e2
    have hdl : d.length ≤ 20 := by
      rcases hp with ⟨j, _, h2, rfl⟩ | ⟨_, _, rfl⟩
      · rw [q_qlen _ (dbl_lt h2 hlen)]; exact Nat.le_of_lt (Nat.lt_trans (dbl_lt h2 hlen) (by decide))
      · rw [q_klen _ (Nat.lt_of_le_of_lt (Nat.div_le_self k 2) hlen)]; exact Nat.le_trans (Nat.succ_le_of_lt (Nat.lt_of_le_of_lt (Nat.div_le_self k 2) hlen)) (by decide)
    refine PyProof.Rows.add_str (fun t2 tk2 => ?_) (by rw [sizeLine_eq, q_ilen]; exact Nat.le_trans (Nat.succ_le_succ hdl) (by decide))
    k_steps
    rcases hp with ⟨j, rfl, h2, rfl⟩ | ⟨rfl, h2, rfl⟩
    · by_cases hj : 2 * j = k
      · subst hj
        rw [show (5 : Int) + 2 * (j : Int) = 5 + ((2 * j : Nat) : Int) from rfl, hqk] at e1
        exact absurd e1 (by decide)
      · refine ksw_end ⟨5 + 2 * (j : Int) + 1 + 1, quo j ++ Txt.item r (5 + 2 * (j : Int)), _, _⟩ (by assumption) (by assumption) (by exact fun _ h => h) trivial (by exact List.forall_mem_cons.mpr ⟨rfl, List.forall_mem_cons.mpr ⟨rfl, List.forall_mem_nil _⟩⟩) (by intro z h2 h3; have a := h2 _ (.head _); have b := h2 _ (.tail _ (.head _)); have c : z ≠ Str.ofString "c" := (fun e => by rw [e] at h3; exact absurd h3 (by decide)); dsimp only at a b; simp only [kstB, if_neg a, if_neg b, if_neg c, h3, Bool.false_eq_true, if_false]) ?_ ?_
        · have hj3 : 2 * (j + 1) ≤ k := by
            refine Nat.not_lt.mp fun hc => ?_
            rw [show (5 : Int) + 2 * (j : Int) + 1 = 5 + ((2 * j + 1 : Nat) : Int) from Int.add_assoc _ _ _, show 2 * j + 1 = k by omega, hqk] at e2
            exact absurd e2 (by decide)
          refine .inl ⟨j + 1, by dsimp only; rw [Int.add_assoc, Int.add_assoc]; rfl, hj3, ?_⟩
          rw [eq_of_beq e1, q_up _ (dbl_lt h2 hlen)]
        · exact dec2 (hX257 h2) (Int.lt_trans (Int.lt_add_one_of_le (Int.le_refl _)) (Int.lt_add_one_of_le (Int.le_refl _)))
    · omega
  · refine Stop.to ?_
    rename (_ == _) = false => e1
    have hdl : d.length ≤ 20 := by
      rcases hp with ⟨j, _, h2, rfl⟩ | ⟨_, _, rfl⟩
      · rw [q_qlen _ (dbl_lt h2 hlen)]; exact Nat.le_of_lt (Nat.lt_trans (dbl_lt h2 hlen) (by decide))
      · rw [q_klen _ (Nat.lt_of_le_of_lt (Nat.div_le_self k 2) hlen)]; exact Nat.le_trans (Nat.succ_le_of_lt (Nat.lt_of_le_of_lt (Nat.div_le_self k 2) hlen)) (by decide)
    refine PyProof.Rows.add_str (fun t2 tk2 => ?_) (by rw [sizeLine_eq, q_ilen]; exact Nat.le_trans (Nat.succ_le_succ hdl) (by decide))
    k_steps
    rcases hp with ⟨j, rfl, h2, rfl⟩ | ⟨rfl, h2, rfl⟩
    · by_cases hj : 2 * j = k
      · refine ksw_end ⟨5 + 2 * (j : Int) + 1, quo j ++ Txt.item r (5 + 2 * (j : Int)), _, _⟩ (by assumption) (by assumption) (by exact fun _ h => h) trivial (by exact List.forall_mem_cons.mpr ⟨rfl, List.forall_mem_cons.mpr ⟨rfl, List.forall_mem_nil _⟩⟩) (by intro z h2 h3; have a := h2 _ (.head _); have b := h2 _ (.tail _ (.head _)); have c : z ≠ Str.ofString "c" := (fun e => by rw [e] at h3; exact absurd h3 (by decide)); dsimp only at a b; simp only [kstB, if_neg a, if_neg b, if_neg c, h3, Bool.false_eq_true, if_false]) ?_ ?_
        · subst hj
          refine .inr ⟨by dsimp only; exact (show (5 : Int) + 2 * (j : Int) + 1 = 2 * (j : Int) + 6 by rw [Int.add_comm 5, Int.add_assoc]; rfl), Nat.mul_mod_right 2 j, ?_⟩
          have e6 : (2 * j) / 2 = j := Nat.mul_div_cancel_left j (by decide)
          rw [show (5 : Int) + 2 * (j : Int) = 5 + ((2 * j : Nat) : Int) from rfl, hqk, q_upK _ (dbl_lt h2 hlen), e6]
        · exact dec2 (hX257 h2) (Int.lt_add_one_of_le (Int.le_refl _))
      · rw [show (5 : Int) + 2 * (j : Int) = 5 + ((2 * j : Nat) : Int) from rfl, hq _ (Nat.lt_of_le_of_ne h2 hj)] at e1
        exact absurd e1 (by decide)
    · omega
  · rcases hp with ⟨j, rfl, h2, rfl⟩ | ⟨rfl, h2, rfl⟩
    · omega
    · have q := ret
      rw [if_pos h2] at q
      exact q _ _ _ (by assumption) (by assumption)
end Mine
end

-- C5
section
open PySem PySem.W PyProof.Rows
set_option Elab.async false
set_option linter.unusedVariables false
example : PySem.Challenge.rw_sr0038_01 = PySem.Challenge.rw_sr0038_01 ∧ Mine.hd.heap_39 = Mine.hd.heap_39 := by
  k_fill
  exact ⟨rfl, rfl⟩
namespace Mine
noncomputable def lvN : Nat → Nat → Nat
  | 0, _ => 0
  | f + 1, k => if k % 2 = 0 then lvN f (k / 2) + 1 else 0
noncomputable def lv (k : Nat) : Nat := lvN 5 k
theorem lv_m : ∀ k : Nat, k < 16 → MulOk (Str.ofString "\"") (k : Int) := by unfold MulOk; decide +kernel
theorem lv_r : ∀ k : Nat, k < 16 → (Str.ofString "257 \"" ++ Txt.mul (Str.ofString "\"") (k : Int)) ++ Str.ofString "k" = r257 k := by decide +kernel
theorem lv_l1 : ∀ k : Nat, k < 16 → (Txt.mul (Str.ofString "\"") (k : Int)).length = k := by decide +kernel
theorem lv_l2 : ∀ k : Nat, k < 16 → (Str.ofString "257 \"" ++ Txt.mul (Str.ofString "\"") (k : Int)).length = k + 5 := by decide +kernel
theorem lv_r2 : ∀ k < 16, Str.ofString "257 \"" ++ quoK k = r257 k := by decide +kernel
theorem lv_y : ∀ k < 16, (Txt.slice (quoK k) (some (-1)) none == Str.ofString "k") = true := by decide +kernel
theorem lv_n : ∀ k < 16, (Txt.slice (quo k) (some (-1)) none == Str.ofString "k") = false := by decide +kernel
theorem lv_even : ∀ k < 16, 1 ≤ k → k % 2 = 0 → lv k = lv (k / 2) + 1 := by decide +kernel
theorem lv_odd : ∀ k < 16, k % 2 = 1 → lv k = 0 := by decide +kernel
set_option genSizeOf false in
set_option genInjectivity false in
structure LvS where
  l : Int
  d : Str
  tl : Tok
  td : Tok
theorem halfN : ∀ j < 16, 1 ≤ j → j % 2 = 0 → 1 ≤ j / 2 := by decide +kernel
example : True := by
  k_with_none
  trivial
set_option maxRecDepth 100000 in
set_option maxHeartbeats 8000000 in
theorem level {w : World} {mean mg mb} {dp un gd cn cs a ccd cl outer A₀ base h₀ L m s} {Q E : Value → Shared → Prop} {k : Nat} {t : Tok} {news}
   (B : Below A₀ base outer h₀) (F : Fr h₀ L s.heap m) (X : (hd.heap_39 w.params).In h₀) (N : News h₀ L s.heap news) (T : Top hd.view_39 lo mean mg mb h₀) (hk : cs.kind = .function)
   (hdp : dp + 2 < recursionLimit) (hu : un + 90 < cLine) (hk1 : 1 ≤ k) (hk2 : k < 16)
   (ret : ∀ t h' tk', Fr h₀ L h' m → News h₀ L h' news → Q (.int (lv k) t) {s with heap := h', toks := tk'}) :
   wpAny (model PySem.Challenge.rw_sr0038_01.row.prog w) (ktrTop dp un gd cn cs L a ccd cl outer) (call (.ref 123) [.int k t]) Q E s := by
  refine wpAny_call ?_
  k_dflt (refine' code_def ?k1 ?k2 ?k3 ?k4 ?k5 ?kA ?kF ?kK ?k6 ?k7 ?k8 ?k9 ?kB ?_ ?c2 ?c3 ?c4 ?c5; (case kA => exact rfl); (case kF => exact rfl); (case kK => assumption); (case k1 => k_asm); (case k2 => k_asm); (case k3 => k_asm); (case k4 => k_asm); (case k5 => k_asm); (case k6 => k_is); (case k7 => k_is); (case k8 => exact Nat.lt_of_le_of_lt (Nat.le_add_right dp _) hdp); (case k9 => (refine' kp_binds ?kx ?ke; (case kx => k_in); (case ke => exact fun _ => rfl))); (case c5 => decide); (case kB => exact locs rfl); (case c2 => exact rfl); (case c3 => exact rfl); (case c4 => exact rfl); k_whole; intro g' L' h' FG' F' N' B' X' T'; (try dsimp only); (try k_lift B'); (try k_fold))
  k_with "exec While Compare cons nil" => refine Stop.mk ?_
  k_with "binaryOp Add str str" => refine Stop.mk ?_
  k_with "binaryOp Mult str int" => refine Stop.mk ?_
  k_with "call ref" => refine Stop.mk ?_
  k_steps
  refine Stop.to ?_
  refine SB.mul (lv_m k hk2) (fun t1 tk1 => ?_)
  k_steps
  refine Stop.to ?_
  refine PyProof.Rows.add_str (fun t2 tk2 => ?_) (by rw [sizeLine_eq, lv_l1 k hk2]; exact Nat.le_trans (Nat.add_le_add_left (Nat.le_of_lt hk2) 5) (by decide))
  k_steps
  refine Stop.to ?_
  refine PyProof.Rows.add_str (fun t3 tk3 => ?_) (by rw [sizeLine_eq, lv_l2 k hk2]; exact Nat.le_trans (Nat.add_le_add_right (Nat.le_of_lt hk2) 6) (by decide))
  k_steps
  refine Stop.to ?_
  rename Fr g' L' _ _ => F1
  rename News g' L' _ _ => N1
  refine p257 B' F1 X' N1 T' rfl (show dp + 1 + 1 < recursionLimit from ‹dp + 2 < recursionLimit›) (show un + 3 + 80 < cLine from Nat.lt_of_le_of_lt (Nat.add_le_add_left (by decide : 83 ≤ 90) un) ‹un + 90 < cLine›) (lv_r k hk2) hk2 ?_
  intro t4 h4 tk4 F2 N2
  clear F1 N1
  dsimp only
  k_steps
  refine Stop.to ?_
  rename Fr g' L' _ _ => F1
  rename News g' L' _ _ => N1
  refine' ksw_while (σ := LvS) (fun _ => news) (fun c => [(Str.ofString "level", .int c.l c.tl), (Str.ofString "told", .str c.d c.td)]) (fun _ => True) [] (fun c => (∃ j : Nat, 1 ≤ j ∧ j < 16 ∧ c.d = quoK j ∧ c.l + 1 + lv j = lv k) ∨ (∃ j : Nat, j < 16 ∧ c.d = quo j ∧ c.l = lv k)) (fun c => if (Txt.slice c.d (some (-1)) none == Str.ofString "k") = true then c.d.length else 0) ⟨0, if k % 2 = 0 then quoK (k / 2) else quo (k / 2), ?ti, ?td⟩ F1 N1 trivial (List.forall_mem_cons.mpr ⟨rfl, List.forall_mem_cons.mpr ⟨rfl, List.forall_mem_nil _⟩⟩) ?_ ?_
  · dsimp only
    by_cases he : k % 2 = 0
    · exact .inl ⟨k / 2, halfN k hk2 hk1 he, Nat.lt_of_le_of_lt (Nat.div_le_self k 2) hk2, by rw [if_pos he], by rw [lv_even k hk2 hk1 he]; omega⟩
    · exact .inr ⟨k / 2, Nat.lt_of_le_of_lt (Nat.div_le_self k 2) hk2, by rw [if_neg he], by rw [lv_odd k hk2 (Nat.mod_two_ne_zero.mp he)]; rfl⟩
  clear F1 N1
  rintro ⟨l, d, tl, td⟩ u h1 tk1 _ hp F1 N1
  dsimp only at hp F1 N1
  rcases hp with ⟨j, j1, j2, rfl, hj⟩ | ⟨j, j2, rfl, hj⟩
  · have hy := lv_y j j2
    have hl5 := q_klen j j2
    k_steps
    refine Stop.to ?_
    refine PyProof.Rows.add_str (fun t2 tk2 => ?_) (by rw [sizeLine_eq, q_klen j j2]; exact Nat.le_trans (Nat.add_le_add_left (Nat.succ_le_of_lt j2) 5) (by decide))
    k_steps
    refine Stop.to ?_
    rename Fr g' L' _ _ => F3
    rename News g' L' _ _ => N3
    refine p257 B' F3 X' N3 T' rfl (show dp + 1 + 1 < recursionLimit from ‹dp + 2 < recursionLimit›) (show un + 3 + 80 < cLine from Nat.lt_of_le_of_lt (Nat.add_le_add_left (by decide : 83 ≤ 90) un) ‹un + 90 < cLine›) (lv_r2 j j2) j2 ?_
    intro t4 h4 tk4 F4 N4
    clear F3 N3
    dsimp only
    k_steps
    refine ksw_end ⟨l + 1, if j % 2 = 0 then quoK (j / 2) else quo (j / 2), _, _⟩ (by assumption) (by assumption) (by exact fun _ h => h) trivial (by exact List.forall_mem_cons.mpr ⟨rfl, List.forall_mem_cons.mpr ⟨rfl, List.forall_mem_nil _⟩⟩) (by intro z h2 h3; have a := h2 _ (.head _); have b := h2 _ (.tail _ (.head _)); dsimp only at a b; simp only [kstB, if_neg a, if_neg b, h3, Bool.false_eq_true, if_false]) ?_ ?_
    · dsimp only
      by_cases he : j % 2 = 0
      · have := lv_even j j2 j1 he
        exact .inl ⟨j / 2, halfN j j2 ‹1 ≤ j› he, Nat.lt_of_le_of_lt (Nat.div_le_self j 2) j2, by rw [if_pos he], by omega⟩
      · have := lv_odd j j2 (Nat.mod_two_ne_zero.mp he)
        exact .inr ⟨j / 2, Nat.lt_of_le_of_lt (Nat.div_le_self j 2) j2, by rw [if_neg he], by omega⟩
    · dsimp only
      rw [if_pos hy, q_klen j j2]
      by_cases he : j % 2 = 0
      · rw [if_pos he, if_pos (lv_y _ (Nat.lt_of_le_of_lt (Nat.div_le_self j 2) j2)), q_klen _ (Nat.lt_of_le_of_lt (Nat.div_le_self j 2) j2)]; exact Nat.succ_lt_succ (Nat.div_lt_self ‹1 ≤ j› (by decide))
      · rw [if_neg he, lv_n _ (Nat.lt_of_le_of_lt (Nat.div_le_self j 2) j2)]; exact Nat.succ_pos _
  · have hn := lv_n j j2
    have hl5 := q_qlen j j2
    k_steps
    rw [hj]
    exact ret _ _ _ (by assumption) (by assumption)
end Mine
end

-- C6
section
open PySem PySem.W PyProof.Rows
set_option Elab.async false
set_option linter.unusedVariables false
example : PySem.Challenge.rw_sr0038_01 = PySem.Challenge.rw_sr0038_01 ∧ Mine.hd.heap_39 = Mine.hd.heap_39 := by
  k_fill
  exact ⟨rfl, rfl⟩
namespace Mine
abbrev tup (vs : List Value) : Obj := { cls := .type "tuple", data := .seq vs.toArray }
example : True := by
  k_with_none
  trivial
set_option maxRecDepth 100000 in
set_option maxHeartbeats 8000000 in
theorem p229 {w : World} {mean mg mb} {dp un gd cn cs a ccd cl outer A₀ base h₀ L m s} {Q E : Value → Shared → Prop} {r mk : Str} {lf rt port : Int} {ps : List Str} {t t1 t2 : Tok} {pa : Addr} {news}
   (B : Below A₀ base outer h₀) (F : Fr h₀ L s.heap m) (X : (hd.heap_39 w.params).In h₀) (N : News h₀ L s.heap ((pa, tup [.str (Str.ofString "wheel") t1, .int 21 t2]) :: news)) (T : Top hd.view_39 lo mean mg mb h₀) (hk : cs.kind = .function)
   (hdp : dp + 1 < recursionLimit) (hu : un + 80 < cLine) (hlen : r.length < 100) (hs1 : (Txt.slice r none (some 3) != Str.ofString "229") = false)
   (hlf : Txt.find r (Str.ofString "(") = lf) (hl0 : 0 ≤ lf) (hl1 : lf + 1 < r.length) (hrt : Txt.find3 r (Str.ofString ")") (lf + 1) = rt) (hr0 : 1 ≤ rt) (hr1 : rt ≤ r.length)
   (hi1 : Txt.item r (lf + 1) = mk) (hi2 : Txt.item r (rt - 1) = mk) (hpl : ps.length < 30) (hsp : Txt.split (Txt.slice r (some (lf + 1)) (some rt)) mk = ps)
   (rete : ∀ g' e te h' tk, ps.length ≠ 5 → Fr h₀ L g' m → Below (ktrTop dp un gd cn cs L a ccd cl outer) base (envX cn cs L a ccd cl :: outer) g' →
     RaisedS base g' (envX cn cs L a ccd cl :: outer) e (.ref 90) te [.str r t] ((pa, tup [.str (Str.ofString "wheel") t1, .int 21 t2]) :: news) h' → g'.UpToSlots h' → E (.ref e) {s with heap := h', toks := tk})
   (hport : ps.length = 5 → PySem.intText? (ps.getD 3 Str.empty) = some port ∧ (ps.getD 3 Str.empty).length ≤ 640)
   (ret : ∀ D t3 t4 h' tk', ps.length = 5 → Fr h₀ L h' m → News h₀ L h' ((D, tup [.str (Str.ofString "wheel") t3, .int port t4]) :: (pa, tup [.str (Str.ofString "wheel") t1, .int 21 t2]) :: news) → (∀ p ∈ news, p.1 < D) → pa < D → Q (.ref D) {s with heap := h', toks := tk'}) :
   wpAny (model PySem.Challenge.rw_sr0038_01.row.prog w) (ktrTop dp un gd cn cs L a ccd cl outer) (call (.ref 99) [.str r t, .ref pa]) Q E s := by
  refine wpAny_call ?_
  k_dflt (refine' code_def ?k1 ?k2 ?k3 ?k4 ?k5 ?kA ?kF ?kK ?k6 ?k7 ?k8 ?k9 ?kB ?_ ?c2 ?c3 ?c4 ?c5; (case kA => exact rfl); (case kF => exact rfl); (case kK => assumption); (case k1 => k_asm); (case k2 => k_asm); (case k3 => k_asm); (case k4 => k_asm); (case k5 => k_asm); (case k6 => k_is); (case k7 => k_is); (case k8 => exact Nat.lt_of_le_of_lt (Nat.le_add_right dp _) hdp); (case k9 => (refine' kp_binds ?kx ?ke; (case kx => k_in); (case ke => exact fun _ => rfl))); (case c5 => decide); (case kB => exact locs rfl); (case c2 => exact rfl); (case c3 => exact rfl); (case c4 => exact rfl); k_whole; intro g' L' h' FG' F' N' B' X' T'; (try dsimp only); (try k_lift B'); (try k_fold))
  k_with "call builtin:str.find" => refine Stop.mk ?_
  k_with "call builtin:str.split" => refine Stop.mk ?_
  k_with "leaving ref" => refine Stop.mk ?_
  k_with "subscriptTail Name BinOp str int" => refine Stop.mk ?_
  k_with "call type:int" => refine Stop.mk ?_
  k_steps
  refine Stop.to ?_
  refine SC.find ?_
  rw [hlf]
  k_steps
  refine Stop.to ?_
  refine SC.find3 ?_
  rw [hrt]
  k_steps
  refine Stop.to ?_
  have hr9 : (r.length : Int) < 9223372036854775808 := Int.ofNat_lt.mpr (Nat.lt_trans ‹r.length < 100› (by decide +kernel))
  have z0 : 0 ≤ lf + 1 := Int.le_of_lt (Int.lt_add_one_of_le hl0)
  have zr : -(r.length : Int) ≤ 0 := Int.neg_nonpos_of_nonneg (Int.natCast_nonneg _)
  have z1 : -9223372036854775808 < lf + 1 := Int.lt_of_lt_of_le (by decide +kernel) z0
  have z2 : lf + 1 < 9223372036854775808 := Int.lt_trans hl1 hr9
  have z3 : -(r.length : Int) ≤ lf + 1 := Int.le_trans zr z0
  have y0 : 0 ≤ rt - 1 := Int.sub_nonneg_of_le hr0
  have y4 : rt - 1 < (r.length : Int) := Int.lt_of_lt_of_le (Int.sub_lt_self _ (by decide)) hr1
  have y1 : -9223372036854775808 < rt - 1 := Int.lt_of_lt_of_le (by decide +kernel) y0
  have y2 : rt - 1 < 9223372036854775808 := Int.lt_trans y4 hr9
  have y3 : -(r.length : Int) ≤ rt - 1 := Int.le_trans zr y0
  refine PyProof.Rows.item_str (fitsSsize_of (N := 9223372036854775808) z1 z2 (Int.le_refl _)) z3 hl1 ?_
  rw [hi1]
  have hmm : (mk != mk) = false := by simp
  k_steps
  refine Stop.to ?_
  refine PyProof.Rows.item_str (fitsSsize_of (N := 9223372036854775808) y1 y2 (Int.le_refl _)) y3 y4 (fun _ => ?_)
  rw [hi2]
  k_steps
  refine Stop.to ?_
  refine PyProof.Rows.item_str (fitsSsize_of (N := 9223372036854775808) z1 z2 (Int.le_refl _)) z3 hl1 (fun _ => ?_)
  rw [hi1]
  k_steps
  refine Stop.to ?_
  rename Fr g' L' _ _ => F1
  rename News g' L' _ _ => N1
  refine KSpl.split1 F1 N1 (by simp only [beq_eq_false_iff_ne]; omega) ?_ (by rw [sizeLine_eq]; omega)
  intro D l h5 tk5 hl hS F2 N2 hlt
  rw [hsp] at hl
  clear F1 N1
  k_with "call builtin:len" => refine Stop.mk ?_
  k_steps
  refine Stop.to ?_
  have hll : (strValues l).length = ps.length := by rw [← hl]; simp [strValues]
  refine len_list (by is_list) (by rw [List.size_toArray, hll]; omega) ?_
  rw [List.size_toArray, hll]
  by_cases h5 : ps.length = 5
  · rw [h5]
    k_steps
    refine Stop.to ?_
    refine KIN.call_text (n := port) (by rw [hl]; exact (hport h5).1) (by rw [hl]; exact (hport h5).2) ?_
    k_steps
    rename (_ < _ ∧ _ < _ ∧ AllLt _ _) => l9
    rename News h₀ L _ _ => N9
    exact ret _ _ _ _ _ h5 (by assumption) (News.sub N9 (fun p hp => by
      rcases List.mem_cons.mp hp with rfl | hp
      · exact .head _
      · exact .tail _ (.tail _ hp))) (kst_ltOf l9.2.2) l9.2.1
  · k_steps
    · refine Stop.to ?_
      rename Heap.MadeExcOf _ _ _ _ _ => hmade
      rename Fr g' L' _ _ => F3
      rename News g' L' _ _ => N3
      refine leave_raiseS B' hmade F3 (News.sub N3 (fun p hp => List.mem_cons_of_mem _ hp)) (fun h9 t9 R9 _ U9 => ?_)
      exact rete _ _ _ _ _ h5 FG' B' R9 U9
    · omega
end Mine
end

-- Sl
section
open PySem PySem.W PyProof.Rows PySem.Spec PySem.Calls
set_option Elab.async false
set_option linter.unusedVariables false
namespace Mine
section
variable {prog : Program} {w : World} {A₀ A : Around} {s : Shared} {base h₀ : Heap} {L a : Addr} {m : Str → Option Value} {env : Env} {news : List (Addr × Obj)} {K : Frag} {p : Program} {loose : List Str} {mean : ExcName → Option Value} {mg mb : Str → Option Value}
  {R : Result → Shared → Prop} {name qual : Str} {params : Arguments} {body : List Stmt} {scope : Scope} {dV kV doc pm cdv ct oc : Value} {an od : Option Addr} {osl : Array (Option Value)} {f : Addr} {args : Args} {binds : List (Str × Value)}

theorem fr_none {h₀ h : Heap} {L : Addr} {m : Str → Option Value} (F : Fr h₀ L h m) : h₀.get? L = none := by
  cases e : h₀.get? L with
  | none => rfl
  | some o => exact absurd (Heap.lt_size e) (Nat.not_lt.mpr F.above)

/-- a def with cells, called from the one frame; its own try may turn that frame's slots -/
theorem enterS (B : Below A₀ base [] h₀) (F : Fr h₀ L s.heap m) (X₀ : K.In h₀) (N : News h₀ L s.heap news) (T : Top p loose mean mg mb h₀) (hA : A.frames = some [env]) (hf : env.frame = some L) (hke : env.scope.kind = .function)
    (ho : K.lookup f = some ⟨oc, od, .func (fnOf name qual params body scope dV kV doc pm an cdv ct), osl⟩) (hcd : codeIn K cdv qual = true) (hroom : A.depth < recursionLimit)
    (hbind : BindsTo s (fnOf name qual params body scope dV kV doc pm an cdv ct) args binds) (hkind : (binds.all fun y => scope.names.lookup y.1 == some .local || scope.names.lookup y.1 == some .cell) = true)
    (hnd : ((cellsFrom 0 scope.names []).map (·.1)).Nodup)
    (h : ∀ g L' h₁ tk cells, Fr h₀ L g m → Fr g L' h₁ (bindL (envOfC qual scope L' f cdv).kindOf binds fun _ => none) → News g L' h₁ (cells ++ news) →
      CellsAre (bindC (envOfC qual scope L' f cdv).kindOf binds fun _ => none) (cellsFrom (L' + 1) scope.names []) cells → Below A base [env] g → K.In g → Top p loose mean mg mb g → KtsDicts [L] g → (∀ p ∈ news, p.1 < L') →
      wpAny (model prog w) (A.deeper (envOfC qual scope L' f cdv)) (execs body (envOfC qual scope L' f cdv))
        (fun fl s' => LeaveS0 [L] h₀ L m g R (match fl with | .ret v => v | _ => .none) s')
        (fun e s' => wpAny (model prog w) (A.deeper (envOfC qual scope L' f cdv)) (leaving (envOfC qual scope L' f cdv) e) (fun _ s'' => R (.error e) s'') (fun e' s'' => R (.error e') s'') s')
        { s with heap := h₁, toks := tk })
    (hco : scope.isCoroutine = false) (hgen : scope.isGenerator = false) (hk : scope.kind = .function) : codeAny (model prog w) A (.call (.ref f) args) R s := by
  obtain ⟨FG, BG, st, _⟩ := groundX (R := R) B F N hA hf hke
  have X := X₀.keeps F.keep
  have D : KtsDicts [L] (hideAll s.heap (news.map (·.1))) := by
    intro b hb
    obtain rfl := List.mem_singleton.mp hb
    obtain ⟨o, es, ep, e, hd, _⟩ := FG.ns
    exact ⟨o, es, ep, e, hd⟩
  refine codeAny_call_function hroom (X _ _ ho) rfl hco hgen rfl (codeRec_of X hcd) (hbind _ _ _ _ ?_)
  refine wpAny_newFunctionEnv_cells hk (kindsX hkind _) fun env' he s' x => ?_
  subst he
  refine ⟨(T.nolimit.keeps F.keep).keeps x.toInCall.keep, codeAny_func ?_⟩
  obtain ⟨h₁, tk, rfl, _⟩ := x.done
  have hk₁ := x.toInCall.keep
  obtain ⟨cells, NC, Y⟩ := Cl.news (h₀ := s.heap) (Nat.le_refl _) fun n c hm => ⟨x.cell n c (lookup_of_mem_nodup (cellsFrom_names scope.names 0 (s.heap.objs.size + 1) [] [] rfl ▸ hnd) hm), x.above n c hm⟩
  refine wpAny_mono (h _ s.heap.objs.size h₁ tk cells FG ⟨x.toInCall.ns, fun b o e => hk₁ b o (of_hideAll _ e), Nat.le_of_eq (hideAll_size _ _)⟩ (fun p hp => ?_) Y BG (X₀.keeps st) (T.keeps st) D (fun p hp => Heap.lt_size (N p hp).1)) (fun fl s' hl => ?_) fun _ _ y => y
  · rcases List.mem_append.mp hp with hp | hp
    · refine ⟨(NC p hp).1, (NC p hp).2.1, ?_⟩
      cases q : (hideAll s.heap (news.map (·.1))).get? p.1 with
      | none => rfl
      | some o => have := of_hideAll _ q; rw [(NC p hp).2.2] at this; cases this
    · exact ⟨hk₁ _ _ (N p hp).1, Nat.ne_of_lt (Heap.lt_size (N p hp).1), hideAll_none _ (List.mem_map_of_mem hp)⟩
  · obtain ⟨g', L', m', news', T', F', N', k⟩ := hl
    obtain ⟨oL, es, ep, hLg, hLd, hLr⟩ := FG.ns
    obtain ⟨sl, hs⟩ := T'.up hLg
    have nL := fr_none F
    refine k ⟨⟨_, es, ep, F'.keep _ _ hs, hLd, hLr⟩, fun b o e => F'.keep b o (T'.other b o (st b o e) (fun q => by
      rw [List.mem_singleton.mp q, nL] at e; cases e)), F.above⟩ fun p hp => ⟨(N' p hp).1, fun q => ?_, ?_⟩
    · have := (N' p hp).2.2; rw [q, hs] at this; cases this
    · cases q : h₀.get? p.1 with
      | none => rfl
      | some o =>
        obtain ⟨sl', hs'⟩ := T'.up (st _ _ q)
        have := (N' p hp).2.2
        rw [hs'] at this
        cases this
end

section
variable {prog : Program} {w : World} {A₀ A : Around} {E : Value → Shared → Prop} {Q : Flow → Shared → Prop} {s : Shared} {base h₀ g G : Heap} {L L' e t : Addr} {m : Str → Option Value} {lenv env : Env} {led : List (Addr × Obj)} {cls : Value} {vs : List Value}

/-- behind a raise that came from a call: the grounds anew -/
theorem reground {h : Heap} (st : h₀.StaysIn g) (hL : h₀.get? L = none) (D : KtsDicts [L] g) (BG : Below A₀ base [lenv] g) (hlf : lenv.frame = some L) (hef : env.frame = some L') (F : Fr g L' G m)
    {B : Heap} (hBG : ∀ b o, G.get? b = some o → b ∉ [env, lenv].filterMap (·.frame) → B.get? b = some o) (hl : ∀ q ∈ led, B.get? q.1 = some q.2 ∧ G.get? q.1 = none ∧ base.get? q.1 = none)
    (hfl : Heap.FlyingW B [env, lenv] e cls (.ref t) h) (U : G.UpToSlots h) :
    ∃ g', KtsTurn [L] g g' ∧ Fr g' L' h m ∧ News g' L' h led ∧ Below A₀ base [lenv] g' ∧ h₀.StaysIn g' ∧ KtsDicts [L] g' := by
  have fs : [env, lenv].filterMap (·.frame) = [L', L] := by simp [hlf, hef]
  rw [fs] at hBG
  have nL' : g.get? L' = none := fr_none F
  obtain ⟨T, S⟩ := kts_turn_at (h := h) (fs := [L]) (g := g)
    (fun b hb => by
      obtain ⟨o, _, _, ho, _⟩ := D b hb
      exact ⟨o, ho⟩)
    (fun b o e1 nm => hfl.1 b o (hBG b o (F.keep b o e1) (fun hm => by
      rcases List.mem_cons.mp hm with rfl | hm
      · rw [nL'] at e1; cases e1
      · exact nm hm)))
    (fun b o e1 hm => by
      obtain ⟨o', es, n', ho', hd⟩ := D b hm
      rw [e1] at ho'; cases ho'
      exact U b o (F.keep b o e1) (fun vs q => by rw [hd] at q; cases q))
  have bL' : B.get? L' = none := by
    obtain ⟨_, ⟨L₁, _, hf, hn, _⟩, _⟩ := hfl.2.2.1
    rw [hef] at hf
    rw [Option.some.inj hf]; exact hn
  have hN : News (ktsHeap h [L] g) L' h led := by
    intro q hq
    refine ⟨hfl.1 _ _ (hl q hq).1, ?_, T.none_ _ ?_⟩
    · intro z
      have := (hl q hq).1
      rw [z, bL'] at this; cases this
    · cases z : g.get? q.1 with
      | none => rfl
      | some o => have := F.keep _ _ z; rw [(hl q hq).2.1] at this; cases this
  have hst : base.StaysIn (ktsHeap h [L] g) := by
    intro b o e1
    refine T.other b o (BG.stays b o e1) (fun hm => ?_)
    obtain rfl := List.mem_singleton.mp hm
    obtain ⟨_, ⟨L₁, _, hf, hn, _⟩, _⟩ := BG.frames
    rw [hlf] at hf
    rw [Option.some.inj hf, hn] at e1; cases e1
  have hfr : (ktsHeap h [L] g).FunFrames base [lenv] := by
    refine BG.frames.of_keeps (fun b o e1 _ => ?_)
    obtain ⟨sl, hs⟩ := T.up e1
    exact ⟨_, hs, rfl⟩
  refine ⟨_, T, ⟨U.ns F.ns, S, by rw [T.size]; exact F.above⟩, hN, ⟨BG.stack, hst, hfr⟩, ?_, D.turn T⟩
  intro b o e1
  refine T.other b o (st b o e1) (fun hm => ?_)
  rw [List.mem_singleton.mp hm, hL] at e1; cases e1
end
end Mine
end

-- Ct
section
open PySem PySem.W PyProof.Rows PySem.Spec PySem.Calls
set_option Elab.async false
set_option linter.unusedVariables false
namespace Mine
section
variable {prog : Program} {w : World} {A₀ A : Around} {E : Value → Shared → Prop} {Q : Flow → Shared → Prop} {s : Shared} {base h₀ g G : Heap} {L L' e t a : Addr} {m : Str → Option Value} {lenv : Env} {led : List (Addr × Obj)} {cls c : Value} {vs : List Value}
  {cn : Str} {cs : Scope} {ccd : Value} {cl : List (Str × Addr)} {K : Frag} {p : Program} {loose : List Str} {mean : ExcName → Option Value} {mg mb : Str → Option Value} {x : Str} {np pos : Pos} {b₀ : Stmt} {suite : List Stmt}
theorem catch1 (hA : A.frames = some [envX cn cs L' a ccd cl, lenv]) (R : RaisedS base G [envX cn cs L' a ccd cl, lenv] e cls t vs led s.heap) (U : G.UpToSlots s.heap) (F : Fr g L' G m)
    (BG : Below A₀ base [lenv] g) (st : h₀.StaysIn g) (hL : h₀.get? L = none) (D : KtsDicts [L] g) (hlf : lenv.frame = some L) (X₀ : K.In h₀) (T : Top p loose mean mg mb h₀)
    (hx : nsIn K mainGlobals x = some (some c)) (hc : exmOne K cls c = some true) (hk : cs.kind = .function) (hxk : (envX cn cs L' a ccd cl).kindOf x = some .globalImplicit) (hdb : (x == ("__debug__" : Str)) = false)
    (k : ∀ h6 g6, KtsTurn [L] g g6 → Fr g6 L' h6 m → News g6 L' h6 led → Below A₀ base [lenv] g6 → h₀.StaysIn g6 → KtsDicts [L] g6 →
      wpAny (model prog w) (A.mark (some (.ref e))) (execs (b₀ :: suite) (envX cn cs L' a ccd cl)) Q E { s with heap := h6 })
    (hE : PassesOwnAt (model prog w) (A.mark (some (.ref e))) A (envX cn cs L' a ccd cl) E) :
    wpAny (model prog w) A (noteFrame (.ref e) (envX cn cs L' a ccd cl)) (fun _ s₂ => wpAny (model prog w) A (setFlight (.ref e) none) (fun _ s₃ =>
      wpAny (model prog w) A (handleBy (.ref e) (envX cn cs L' a ccd cl) [.ExceptHandler (some (.Name x np)) none (b₀ :: suite) pos]) Q E s₃) E s₂) E s := by
  obtain ⟨⟨B, hB, hBG, hl, hfl, hnew⟩, htup⟩ := R
  refine wpAny_looks_onW hA rfl hfl (fun h1 hh1 U1 => ?_)
  refine wpAny_landsW hh1 (fun h2 hf2 U2 => ?_)
  have U12 : G.UpToSlots h2 := U.trans (U1.trans U2)
  obtain ⟨g2, T2, F2, N2, B2, st2, D2⟩ := reground st hL D BG hlf rfl F hBG hl hf2 U12
  refine wpAny_handleBy_cons (codeAny_handlers_test ?_) (by intro q; cases q)
  refine nameX_K (s := { s with heap := h2 }) F2 (X₀.keeps st2) (topRead_of (T.keeps st2)) hx ?_ hk hxk hdb
  have LT : Looks (model prog w) h2 (typeOf (.ref e)) cls := RaisedSN.ty (⟨B, _, hB, hBG, hl, hf2⟩ : RaisedSN base G [envX cn cs L' a ccd cl, lenv] e cls led h2)
  refine (exm_one (X₀.keeps (fun b o q => F2.keep b o (st2 b o q))) LT hc).here ?_
  refine codeAny_handlers_suite ?_
  refine lands_againW (s := { s with heap := h2 }) hf2 (fun h3 hf3 U3 => ?_)
  obtain ⟨g3, T3, F3, N3, B3, st3, D3⟩ := reground st hL D BG hlf rfl F hBG hl hf3 (U12.trans U3)
  exact wpAny_passesOwnAt hE (k h3 g3 T3 F3 N3 B3 st3 D3)
end
end Mine
end

-- Fl
section
open PySem PySem.W PyProof.Rows PySem.Spec PySem.Calls
set_option Elab.async false
set_option linter.unusedVariables false
namespace Mine
section
variable {prog : Program} {w : World} {A : Around} {E : Value → Shared → Prop} {Q : Flow → Shared → Prop} {s : Shared} {env : Env} {x : Str} {px pos : Pos} {iter : PySem.Expr} {body : List PySem.Stmt}
/-- how a turn ends, the ground too may be another one -/
noncomputable def ForEnd (s : Shared) (L I D : Addr) (io lo : Obj) (J : (Str → Option Value) → Heap → List (Addr × Obj) → Prop) (Q : Flow → Shared → Prop) (f : Flow) (s₃ : Shared) : Prop :=
  match f with
  | .brk => Q .next s₃
  | .ret v => Q (.ret v) s₃
  | _ => ∃ h' tk' m' g' news', s₃ = { s with heap := h', toks := tk' } ∧ Fr g' L h' m' ∧ News g' L h' ((I, io) :: news') ∧ (D, lo) ∈ news' ∧ (∀ p ∈ news', p.1 ≠ I) ∧ J m' g' news'
/-- how a turn ends, with the counter of tokens in the letter -/
noncomputable def TkEnd (s : Shared) (L I D : Addr) (io lo : Obj) (J : (Str → Option Value) → Heap → List (Addr × Obj) → Nat → Prop) (Q : Flow → Shared → Prop) (f : Flow) (s₃ : Shared) : Prop :=
  match f with
  | .brk => Q .next s₃
  | .ret v => Q (.ret v) s₃
  | _ => ∃ h' tk' m' g' news', s₃ = { s with heap := h', toks := tk' } ∧ Fr g' L h' m' ∧ News g' L h' ((I, io) :: news') ∧ (D, lo) ∈ news' ∧ (∀ p ∈ news', p.1 ≠ I) ∧ J m' g' news' tk'
theorem For_tk {D : Addr} {vs : List Value} {n : Nat} {m : Str → Option Value} {g : Heap} {news : List (Addr × Obj)} (J : Nat → (Str → Option Value) → Heap → List (Addr × Obj) → Nat → Prop)
    (hh : A.handled = none) (hx : env.kindOf x = some .local) (hp : (env.scope.kind == .class || (env.scope.kind == .module && env.locals != env.globals)) = false)
    (F : Fr g env.locals s.heap m) (N : News g env.locals s.heap news)
    (hD : (D, listOf vs.toArray n) ∈ news) (hJ : J 0 m g news s.toks)
    (turn : ∀ i v m₁ g₁ news₁ h tk I io, vs[i]? = some v → J i m₁ g₁ news₁ tk → (D, listOf vs.toArray n) ∈ news₁ → (∀ p ∈ news₁, p.1 ≠ I) → io.cls = .type "list_iterator" → Fr g₁ env.locals h (fun y => if y = x then some v else m₁ y) → News g₁ env.locals h ((I, io) :: news₁) →
      wpAny (model prog w) A (execs body env) (TkEnd s env.locals I D io (listOf vs.toArray n) (J (i + 1)) Q) E { s with heap := h, toks := tk + 1 })
    (done : ∀ m₁ g₁ news₁ h tk, J vs.length m₁ g₁ news₁ tk → (D, listOf vs.toArray n) ∈ news₁ → Fr g₁ env.locals h m₁ → News g₁ env.locals h news₁ → Q .next { s with heap := h, toks := tk })
    (hg : ∀ it v, letOwnedTupleGo (.Name x px) it v = pure () := by intro _ _; rfl)
    (hE : PassesOwn (model prog w) A env E := by passes_own) :
    wpAny (model prog w) A (pyIter (.ref D)) (fun it s₂ => codeAny (model prog w) A (.forLoop (.Name x px) it body [] env) (fun r s' => match r with | .ok f => Q f s' | .error e => cameBackBy (model prog w) A env E e s') s₂) E s := by
  refine hideG fun GG hGG => ?_
  obtain ⟨h, gs, dr, tk, os⟩ := s
  refine hGG ?_
  clear hGG GG
  dsimp only at F N ⊢
  have hl : Heap.IsList h D vs.toArray := ⟨_, (N _ hD).1, rfl, n, rfl⟩
  refine wpAny_pyIter_list (s := ⟨h, gs, dr, tk, os⟩) hl ?_
  dsimp only
  have hnew : g.get? h.objs.size = none := next_is_new F
  refine codeAny_forLoop
    (fun k s' => ∃ i m₁ g₁ news₁ h₁ tk₁ io, s' = ⟨h₁, gs, dr, tk₁, os⟩ ∧ i ≤ vs.length ∧ k = vs.length + 1 - i ∧ h₁.IsListIter h.objs.size D i ∧ io.cls = .type "list_iterator" ∧ Fr g₁ env.locals h₁ m₁ ∧ News g₁ env.locals h₁ ((h.objs.size, io) :: news₁) ∧
      (D, listOf vs.toArray n) ∈ news₁ ∧ (∀ p ∈ news₁, p.1 ≠ h.objs.size) ∧ J i m₁ g₁ news₁ tk₁) ?_ (vs.length + 1)
    ⟨0, m, g, news, _, _, { cls := .type "list_iterator", data := .fields #[.ref D, .int 0 0] }, rfl, Nat.zero_le _, rfl, ⟨_, Heap.get?_push_size _ rfl, rfl, rfl⟩, rfl, F.push _, News.push F N _, hD,
      fun p hp => Nat.ne_of_lt (Heap.lt_size (N p hp).1), hJ⟩ (hg _)
  intro k s' hPT
  refine hideG fun GG hGG => ?_
  obtain ⟨i, m₁, g₁, news₁, h₁, tk₁, io, rfl, hi, rfl, hit, hio, F₁, N₁, hD₁, off, hJ₁⟩ := hPT
  refine hGG ?_
  clear hGG GG
  have hl₁ : Heap.IsList h₁ D vs.toArray := ⟨_, (N₁ _ (.tail _ hD₁)).1, rfl, n, rfl⟩
  have nI := N₁ _ (.head _)
  by_cases hlt : i < vs.length
  · refine wpAny_pyNext_list_item (s := ⟨h₁, gs, dr, tk₁, os⟩) hit hl₁ (x := vs[i]) (by simp [hlt]) fun h₂ hit₂ hs₂ => ?_
    have F₂ := F₁.change hs₂ nI.2.1 nI.2.2
    refine wpAny_assign_Name (wpAny_storeName_local hx F₂.ns (fun h₃ hn₃ hs₃ => ?_) hp)
    have F₃ := F₂.set hn₃ hs₃
    have hoff3 : ∀ b o, b ≠ env.locals → h₂.get? b = some o → h₃.get? b = some o := fun b o hb e => (hs₃.2 b hb).trans e
    refine hideG fun GG hGG => ?_
    obtain ⟨io₃, hio₃, hc₃, hd₃⟩ := hit₂
    refine hGG ?_
    clear hGG GG
    have hit₃ : h₃.IsListIter h.objs.size D (i + 1) := ⟨io₃, hoff3 _ _ nI.2.1 hio₃, hc₃, hd₃⟩
    have N₃ : News g₁ env.locals h₃ ((h.objs.size, io₃) :: news₁) := by
      intro p hp
      rcases List.mem_cons.mp hp with rfl | hp
      · exact ⟨hoff3 _ _ nI.2.1 hio₃, nI.2.1, nI.2.2⟩
      · have z := N₁ p (.tail _ hp)
        exact ⟨hoff3 _ _ z.2.1 ((hs₂.2 _ (off p hp)).trans z.1), z.2⟩
    refine wpAny_passesOwn hE (wpAny_mono (turn i vs[i] m₁ g₁ news₁ h₃ tk₁ h.objs.size io₃ (by simp [hlt]) hJ₁ hD₁ off hc₃ F₃ N₃) (fun f s₃ hf => ?_) fun _ _ e => e)
    cases f with
    | brk => exact hf
    | ret v => exact hf
    | next =>
      refine hideG fun GG hGG => ?_
      obtain ⟨h₄, tk₄, m₄, g₄, news₄, rfl, F₄, N₄, hD₄, off₄, J₄⟩ := hf
      refine hGG ?_
      clear hGG GG
      exact ⟨vs.length + 1 - (i + 1), Nat.sub_lt_sub_left (Nat.lt_succ_of_lt hlt) (Nat.lt_succ_self i), i + 1, m₄, g₄, news₄, h₄, tk₄, io₃, rfl, hlt, rfl, ⟨io₃, (N₄ _ (.head _)).1, hc₃, hd₃⟩, hc₃, F₄, N₄, hD₄, off₄, J₄⟩
    | cont =>
      refine hideG fun GG hGG => ?_
      obtain ⟨h₄, tk₄, m₄, g₄, news₄, rfl, F₄, N₄, hD₄, off₄, J₄⟩ := hf
      refine hGG ?_
      clear hGG GG
      exact ⟨vs.length + 1 - (i + 1), Nat.sub_lt_sub_left (Nat.lt_succ_of_lt hlt) (Nat.lt_succ_self i), i + 1, m₄, g₄, news₄, h₄, tk₄, io₃, rfl, hlt, rfl, ⟨io₃, (N₄ _ (.head _)).1, hc₃, hd₃⟩, hc₃, F₄, N₄, hD₄, off₄, J₄⟩
  · obtain rfl : i = vs.length := Nat.le_antisymm hi (Nat.not_lt.mp hlt)
    refine wpAny_pyNext_list_end (s := ⟨h₁, gs, dr, tk₁, os⟩) hh hit hl₁ (by simp) fun h₂ he₂ => ?_
    refine wpAny_execs_nil (done m₁ g₁ news₁ h₂ tk₁ hJ₁ hD₁ ?_ ?_)
    · exact ⟨F₁.ns.at' fun o e => he₂ _ o (Ne.symm nI.2.1) e, fun b o e => he₂ b o (fun z => by have := nI.2.2; rw [← z, e] at this; cases this) (F₁.keep b o e), F₁.above⟩
    · exact fun p hp => ⟨he₂ _ _ (off p hp) (N₁ p (.tail _ hp)).1, (N₁ p (.tail _ hp)).2⟩
theorem For_it {D : Addr} {vs : List Value} {n : Nat} {m : Str → Option Value} {g : Heap} {news : List (Addr × Obj)} (J : Nat → (Str → Option Value) → Heap → List (Addr × Obj) → Prop)
    (hh : A.handled = none) (hx : env.kindOf x = some .local) (hp : (env.scope.kind == .class || (env.scope.kind == .module && env.locals != env.globals)) = false)
    (F : Fr g env.locals s.heap m) (N : News g env.locals s.heap news)
    (hD : (D, listOf vs.toArray n) ∈ news) (hJ : J 0 m g news)
    (turn : ∀ i v m₁ g₁ news₁ h tk I io, vs[i]? = some v → J i m₁ g₁ news₁ → (D, listOf vs.toArray n) ∈ news₁ → (∀ p ∈ news₁, p.1 ≠ I) → io.cls = .type "list_iterator" → Fr g₁ env.locals h (fun y => if y = x then some v else m₁ y) → News g₁ env.locals h ((I, io) :: news₁) →
      wpAny (model prog w) A (execs body env) (ForEnd s env.locals I D io (listOf vs.toArray n) (J (i + 1)) Q) E { s with heap := h, toks := tk })
    (done : ∀ m₁ g₁ news₁ h tk, J vs.length m₁ g₁ news₁ → (D, listOf vs.toArray n) ∈ news₁ → Fr g₁ env.locals h m₁ → News g₁ env.locals h news₁ → Q .next { s with heap := h, toks := tk })
    (hg : ∀ it v, letOwnedTupleGo (.Name x px) it v = pure () := by intro _ _; rfl)
    (hE : PassesOwn (model prog w) A env E := by passes_own) :
    wpAny (model prog w) A (pyIter (.ref D)) (fun it s₂ => codeAny (model prog w) A (.forLoop (.Name x px) it body [] env) (fun r s' => match r with | .ok f => Q f s' | .error e => cameBackBy (model prog w) A env E e s') s₂) E s :=
  For_tk (fun i m g l _ => J i m g l) hh hx hp F N hD hJ
    (fun i v m₁ g₁ news₁ h tk I io a b c d e f g' => wpAny_mono (turn i v m₁ g₁ news₁ h (tk + 1) I io a b c d e f g') (fun f' s₃ z => by cases f' <;> exact z) fun _ _ e' => e')
    (fun m₁ g₁ news₁ h tk a b c d => done m₁ g₁ news₁ h tk a b c d) hg hE
theorem For_my0 {D : Addr} {vs : List Value} {n : Nat} {m : Str → Option Value} {g : Heap} {news : List (Addr × Obj)} (J : Nat → (Str → Option Value) → Heap → List (Addr × Obj) → Prop)
    (F : Fr g env.locals s.heap m) (N : News g env.locals s.heap news)
    (hh : A.handled = none) (hx : env.kindOf x = some .local) (hp : (env.scope.kind == .class || (env.scope.kind == .module && env.locals != env.globals)) = false)
    (he : ∀ Q' : Value → Shared → Prop, Q' (.ref D) s → wpAny (model prog w) A (eval iter env) Q' E s)
    (hD : (D, listOf vs.toArray n) ∈ news) (hJ : J 0 m g news)
    (turn : ∀ i v m₁ g₁ news₁ h tk I io, vs[i]? = some v → J i m₁ g₁ news₁ → (D, listOf vs.toArray n) ∈ news₁ → (∀ p ∈ news₁, p.1 ≠ I) → io.cls = .type "list_iterator" → Fr g₁ env.locals h (fun y => if y = x then some v else m₁ y) → News g₁ env.locals h ((I, io) :: news₁) →
      wpAny (model prog w) A (execs body env) (ForEnd s env.locals I D io (listOf vs.toArray n) (J (i + 1)) Q) E { s with heap := h, toks := tk })
    (done : ∀ m₁ g₁ news₁ h tk, J vs.length m₁ g₁ news₁ → (D, listOf vs.toArray n) ∈ news₁ → Fr g₁ env.locals h m₁ → News g₁ env.locals h news₁ → Q .next { s with heap := h, toks := tk })
    (hs : ∀ x, foldedSetIterable iter env x = pure x := by intro _; rfl)
    (hg : ∀ it v, letOwnedTupleGo (.Name x px) it v = pure () := by intro _ _; rfl)
    (hE : PassesOwn (model prog w) A env E := by passes_own) :
    wpAny (model prog w) A (exec (.For (.Name x px) iter body [] pos) env) Q E s :=
  wpAny_For (he _ (For_it J hh hx hp F N hD hJ turn done hg hE)) hs
end
end Mine
end

-- Cr
section
open PySem PySem.W PyProof.Rows PySem.Spec PySem.Calls
set_option Elab.async false
set_option linter.unusedVariables false
namespace Mine
open PyProof.Rows.LCg
section
variable {prog : Program} {w : World} {A : Around} {h₀ : Heap} {L : Addr} {m : Str → Option Value} {env : Env} {elt : PySem.Expr} {x : Str} {scope : Scope} {cl : List (Str × Addr)} {s : Shared} {S : List (Addr × Obj) → Prop} {P : Nat → Value → Prop}
  {Fin : List Value → List (Addr × Obj) → Prop}
/-- how an element's walk ends -/
noncomputable def EltEnd (h₀ : Heap) (L : Addr) (m : Str → Option Value) (s : Shared) (all : List (Addr × Obj)) (R : Value → Prop) (y : Value) (s₂ : Shared) : Prop :=
  ∃ h' tk', s₂ = { s with heap := h', toks := tk' } ∧ R y ∧ Fr h₀ L h' m ∧ News h₀ L h' all
theorem rest_all {n : Nat} (nws : List (Addr × Obj)) (hS : S nws) (R : Nat → Value → Prop)
    (step : ∀ i ys v I oI C oC D m₂ h tk (E' : Value → Shared → Prop), i < n → P i v → NsObj oC m₂ → m₂ x = some v → Fr h₀ L h m → News h₀ L h ((I, oI) :: (C, oC) :: (D, lst ys) :: nws) → Off3 I C D nws → ((@Ne Nat I C) ∧ (@Ne Nat I D) ∧ (@Ne Nat C D)) →
      wpAny (model prog w) A (eval elt (compEnvC scope cl C env)) (EltEnd h₀ L m { s with heap := h, toks := tk } ((I, oI) :: (C, oC) :: (D, lst ys) :: nws) (R i)) E' { s with heap := h, toks := tk })
    (fin : ∀ ys : List Value, ys.length = n → (∀ i v, ys[i]? = some v → R i v) → Fin ys nws) : CompRest prog w A h₀ L m env elt x scope cl s S P Fin n 0 [] nws := by
  have key : ∀ k i (ys : List Value), i + k = n → ys.length = i → (∀ j v, ys[j]? = some v → R j v) → CompRest prog w A h₀ L m env elt x scope cl s S P Fin k i ys nws := by
    intro k
    induction k with
    | zero =>
      intro i ys hi hl hR
      refine CompRest.zero (fin ys (hl.trans hi) hR)
    | succ k ih =>
      intro i ys hi hl hR
      refine CompRest.succ fun v I oI C oC D m₂ h tk E' hP hoC hm₂ F N off ne => ?_
      refine wpAny_mono (step i ys v I oI C oC D m₂ h tk E' (by rw [← hi]; exact Nat.lt_add_of_pos_right (Nat.succ_pos k)) hP hoC hm₂ F N off ne) (fun y s₂ hy => ?_) fun _ _ e => e
      obtain ⟨h', tk', rfl, hRy, F', N'⟩ := hy
      refine CompEnd.intro F' N' nws (fun p hp => hp) off hS (ih (i + 1) (ys ++ [y]) (by rw [Nat.add_assoc, Nat.add_comm 1 k]; exact hi) (by simp [hl]) ?_)
      intro j u hj
      by_cases hlt : j < ys.length
      · rw [List.getElem?_append_left hlt] at hj
        exact hR j u hj
      · have e : j = ys.length := by
          have := (List.getElem?_eq_some_iff.mp hj).1
          rw [List.length_append] at this
          exact Nat.le_antisymm (Nat.le_of_lt_succ this) (Nat.not_lt.mp hlt)
        subst e
        simp at hj
        rw [← hj, hl]; exact hRy
  exact key n 0 [] (Nat.zero_add n) rfl (by simp)
end
theorem strsAre_of {f : Nat → Str} : ∀ (n : Nat) (ys : List Value) (o : Nat), ys.length = n → (∀ (i : Nat) (v : Value), ys[i]? = some v → ∃ t, v = .str (f (o + i)) t) → StrsAre ys ((List.range' o n).map f)
  | 0, [], _, _, _ => .nil
  | n + 1, v :: ys, o, hl, h => by
    obtain ⟨t, rfl⟩ := h 0 v rfl
    rw [List.range'_succ, List.map_cons]
    refine .cons _ _ (strsAre_of n ys (o + 1) (by simpa using hl) fun i v hv => ?_)
    obtain ⟨t', e⟩ := h (i + 1) v hv
    exact ⟨t', by rw [e]; congr 2; rw [Nat.add_assoc, Nat.add_comm 1 i]⟩
  | 0, _ :: _, _, hl, _ => by simp at hl
  | n + 1, [], _, hl, _ => by simp at hl
theorem intsAre_of {f : Nat → Int} : ∀ (n : Nat) (ys : List Value) (o : Nat), ys.length = n → (∀ (i : Nat) (v : Value), ys[i]? = some v → ∃ t, v = .int (f (o + i)) t) → IntsAre ys ((List.range' o n).map f)
  | 0, [], _, _, _ => .nil
  | n + 1, v :: ys, o, hl, h => by
    obtain ⟨t, rfl⟩ := h 0 v rfl
    rw [List.range'_succ, List.map_cons]
    refine .cons _ _ (intsAre_of n ys (o + 1) (by simpa using hl) fun i v hv => ?_)
    obtain ⟨t', e⟩ := h (i + 1) v hv
    exact ⟨t', by rw [e]; congr 2; rw [Nat.add_assoc, Nat.add_comm 1 i]⟩
  | 0, _ :: _, _, hl, _ => by simp at hl
  | n + 1, [], _, hl, _ => by simp at hl
end Mine
end

-- C7
section
open PySem PySem.W PyProof.Rows
set_option Elab.async false
set_option linter.unusedVariables false
example : PySem.Challenge.rw_sr0038_01 = PySem.Challenge.rw_sr0038_01 ∧ Mine.hd.heap_39 = Mine.hd.heap_39 := by
  k_fill
  exact ⟨rfl, rfl⟩
local macro_rules | `(tactic| k_unfold) => `(tactic| with_reducible show wpAny _ _ (exec _ _) _ _ _ <;> k_fold)
namespace Mine
/-- is the place i steps on one of them? -/
noncomputable def onAt (qs : List Int) (p : Int) (i : Nat) : Bool := qs.any fun x => x == Int.fmod (p + i) 16
noncomputable def piece (mk : Str) (b : Bool) : Str := (if b then mk else Str.ofString "") ++ Str.ofString "1"
noncomputable def ringP (mk : Str) (qs : List Int) (p : Int) : Str := Txt.join (Str.ofString "") ((List.range' 0 16).map fun i => piece mk (onAt qs p i))
noncomputable def rA (mk rg : Str) : Str := ((Str.ofString "229 round (" ++ rg) ++ mk) ++ Str.ofString ")"
noncomputable def rB (rg : Str) (cut : Int) : Str := (Str.ofString "229 part (" ++ Txt.slice rg none (some cut)) ++ Str.ofString ")"
noncomputable def P229 (r mk : Str) (lf rt : Int) (ps : List Str) : Prop :=
  r.length < 100 ∧ (Txt.slice r none (some 3) != Str.ofString "229") = false ∧ Txt.find r (Str.ofString "(") = lf ∧ 0 ≤ lf ∧ lf + 1 < r.length ∧ Txt.find3 r (Str.ofString ")") (lf + 1) = rt ∧ 1 ≤ rt ∧ rt ≤ r.length ∧
  Txt.item r (lf + 1) = mk ∧ Txt.item r (rt - 1) = mk ∧ Txt.split (Txt.slice r (some (lf + 1)) (some rt)) mk = ps ∧ ps.length < 30
noncomputable def RingOk (mk rg : Str) (gap : Int) : Prop := ∃ rtA rtB rf port psA psB, rg.length ≤ 40 ∧ P229 (rA mk rg) mk 10 rtA psA ∧ psA.length ≠ 5 ∧ Txt.rfind rg mk = rf ∧ 0 ≤ rf ∧ rf < 40 ∧ P229 (rB rg (rf + 1)) mk 9 rtB psB ∧ psB.length = 5 ∧
  PySem.intText? (psB.getD 3 Str.empty) = some port ∧ (psB.getD 3 Str.empty).length ≤ 640 ∧ 0 ≤ port ∧ port < 10 ^ 16 ∧ ((Str.ofString (toString port)).length : Int) = gap
theorem piece_len {mk : Str} (h : mk.length = 1) (b : Bool) : (piece mk b).length ≤ 2 := by
  unfold piece
  rw [Str.length_append]
  cases b
  · exact (by decide : 0 + 1 ≤ 2)
  · simp only [if_true, h]; exact (by decide : 1 + 1 ≤ 2)
theorem sum_len {f : Nat → Str} (h : ∀ i, (f i).length ≤ 2) : ∀ n o, (((List.range' o n).map f).map (·.length)).sum ≤ 2 * n
  | 0, _ => Nat.le_refl _
  | n + 1, o => by
    rw [List.range'_succ, List.map_cons, List.map_cons, List.sum_cons]
    have := sum_len h n (o + 1)
    have := h o
    omega
theorem fit2 {a b x y : Nat} (ha : a ≤ x) (hb : b ≤ y) (h : x + y ≤ 1000) : a + b ≤ sizeLine := Nat.le_trans (Nat.add_le_add ha hb) (Nat.le_trans h (by rw [sizeLine_eq]; decide))
example : True := by
  k_with_none
  trivial
set_option maxRecDepth 100000 in
set_option maxHeartbeats 8000000 in
theorem gaps {w : World} {mean mg mb} {dp un gd cn cs a ccd cl A₀ base h₀ L m s} {Q E : Value → Shared → Prop} {mk : Str} {t t1 t2 t3 t4 : Tok} {P : Addr} {n : Nat} {p1 p2 p3 p4 : Int} {gp : Int → Int} {news}
   (B : Below A₀ base [] h₀) (F : Fr h₀ L s.heap m) (X : (hd.heap_39 w.params).In h₀) (N : News h₀ L s.heap ((P, listOf [.int p1 t1, .int p2 t2, .int p3 t3, .int p4 t4].toArray n) :: news)) (T : Top hd.view_39 lo mean mg mb h₀) (hk : cs.kind = .function)
   (hdp : dp + 10 < recursionLimit) (hu : un + 100 < cLine) (hmk : mk.length = 1) (hp : ∀ p ∈ [p1, p2, p3, p4], 0 ≤ p ∧ p < 16) (hr : ∀ p ∈ [p1, p2, p3, p4], RingOk mk (ringP mk [p1, p2, p3, p4] p) (gp p))
   (ret : ∀ D vs k h' tk', IntsAre vs [gp p1, gp p2, gp p3, gp p4] → Fr h₀ L h' m → News h₀ L h' ((D, listOf vs.toArray k) :: (P, listOf [.int p1 t1, .int p2 t2, .int p3 t3, .int p4 t4].toArray n) :: news) → P < D → (∀ p ∈ news, p.1 < D) → Q (.ref D) {s with heap := h', toks := tk'}) :
   wpAny (model PySem.Challenge.rw_sr0038_01.row.prog w) (ktrTop dp un gd cn cs L a ccd cl []) (call (.ref 116) [.ref P, .str mk t]) Q E s := by
  refine wpAny_call ?_
  k_dflt (refine' enterS ?k1 ?k2 ?k3 ?k4 ?k5 ?kA ?kF ?kK ?k6 ?k7 ?k8 ?k9 ?kB ?kD ?_ ?c2 ?c3 ?c4; (case kA => exact rfl); (case kF => exact rfl); (case kK => assumption); (case k1 => k_asm); (case k2 => k_asm); (case k3 => k_asm); (case k4 => k_asm); (case k5 => k_asm); (case k6 => k_is); (case k7 => k_is); (case k8 => exact Nat.lt_of_le_of_lt (Nat.le_add_right dp _) hdp); (case k9 => (refine' kp_binds ?kx ?ke; (case kx => k_in); (case ke => exact fun _ => rfl))); (case kB => exact rfl); (case kD => decide +kernel); (case c2 => exact rfl); (case c3 => exact rfl); (case c4 => exact rfl); k_whole; intro g' L' h' tk' cells' FG' F' N' Y' B' X' T' D' l1; (try k_lt l1); k_cells Y'; (try simp only [List.cons_append, List.nil_append] at N'); (try dsimp only); (try k_lift B'); (try k_fold))
  rename_i oM oP dM dP
  replace dM : oM.data = .cell (some (.str mk t)) := dM
  replace dP : oP.data = .cell (some (.ref P)) := dP
  k_with "exec For Name Name cons nil" => refine Stop.mk ?_
  k_with "newList" => refine Stop.mk ?_
  k_with "CompSrc" => refine Stop.mk ?_
  k_with "LeaveS0" => refine Stop.mk ?_
  k_steps
  refine Stop.to ?_
  rename Fr g' L' _ _ => F1
  rename News g' L' _ _ => N1
  refine newList_K F1 N1 (fun G h2 F2 N2 lG => ?_)
  clear F1 N1
  try k_lt lG
  k_steps
  refine Stop.to ?_
  rename Fr g' L' _ _ => F1
  rename News g' L' _ _ => N1
  refine For_my0 (fun i m₁ g₁ led => ∃ gvs k, m₁ (Str.ofString "gaps") = some (.ref G) ∧ (G, listOf gvs.toArray k) ∈ led ∧ (∀ q ∈ (L' + 1 + 1, oM) :: (L' + 1, oP) :: (P, listOf [.int p1 t1, .int p2 t2, .int p3 t3, .int p4 t4].toArray n) :: news, q ∈ led) ∧
      IntsAre gvs (([p1, p2, p3, p4].take i).map gp) ∧ gvs.length = i ∧ KtsTurn [L] g' g₁ ∧ Below (ktrTop dp un gd cn cs L a ccd cl []) base [envX cn cs L a ccd cl] g₁ ∧ h₀.StaysIn g₁ ∧ KtsDicts [L] g₁)
    F1 N1 rfl rfl rfl (fun Q' hQ' => ?_) (.tail _ (.tail _ (.tail _ (.head _)))) ?_ ?_ ?_
  · refine nameX_C N1 ?c (.tail _ (.tail _ (.head _))) dP hQ' ?x ?y
    case c => rfl
    case x => rfl
    case y => rfl
  · exact ⟨[], 0, rfl, .head _, fun q hq => .tail _ hq, .nil, rfl, KtsTurn.refl, B', fun b o e => FG'.keep b o e, D'⟩
  · intro i v m₁ g₁ led h tk I io hv hPT hPl off hio F3 N3
    refine hideG fun GG hGG => ?_
    obtain ⟨gvs, k, hG, hGl, hsub, hgi, hgl, KT, BG, st, DG⟩ := hPT
    refine hGG ?_
    clear hGG GG
    clear F1 N1
    obtain ⟨p, tp, rfl, hpi⟩ : ∃ p tp, v = .int p tp ∧ [p1, p2, p3, p4][i]? = some p := by
      rcases i with _ | _ | _ | _ | i
      · exact ⟨p1, t1, (Option.some.inj hv).symm, rfl⟩
      · exact ⟨p2, t2, (Option.some.inj hv).symm, rfl⟩
      · exact ⟨p3, t3, (Option.some.inj hv).symm, rfl⟩
      · exact ⟨p4, t4, (Option.some.inj hv).symm, rfl⟩
      · simp at hv
    have hpm : p ∈ [p1, p2, p3, p4] := List.mem_of_getElem? hpi
    obtain ⟨hp0, hp16⟩ := hp p hpm
    have e1 : (fun y => if y = Str.ofString "place" then some (Value.int p tp) else m₁ y) = fun y => if y = Str.ofString "place" then some (Value.int p tp) else if y = Str.ofString "gaps" then some (.ref G) else m₁ y := by
      funext y
      by_cases h1 : y = Str.ofString "place"
      · rw [if_pos h1, if_pos h1]
      · rw [if_neg h1, if_neg h1]
        by_cases h2 : y = Str.ofString "gaps"
        · rw [if_pos h2, h2, hG]
        · rw [if_neg h2]
    rw [e1] at F3
    have N4 : News g₁ L' h ((I, io) :: (G, listOf gvs.toArray k) :: (L' + 1 + 1, oM) :: (L' + 1, oP) :: (P, listOf [.int p1 t1, .int p2 t2, .int p3 t3, .int p4 t4].toArray n) :: news) := by
      exact News.mk (N3 _ (.head _)) (News.mk (N3 _ (.tail _ hGl)) (fun q hq => N3 q (.tail _ (hsub q hq))))
    have X1 : (hd.heap_39 w.params).In g₁ := X.keeps st
    have T1 : Top hd.view_39 lo mean mg mb g₁ := T.keeps st
    clear N3 e1 hv B' X' T' D' FG'
    k_steps
    refine Stop.to ?_
    rename IsRange _ _ _ _ _ _ _ _ => hR
    rename Fr g₁ _ _ _ => F5
    rename News g₁ _ _ _ => N5
    have f9 := fit2 (Nat.le_of_eq hmk) (show (Str.ofString "1").length ≤ 1 by decide +kernel) (by decide)
    refine LCg.CompSrc.range rfl F5 N5 hR (small_one (Int.le_trans (by decide) hp0) (Int.lt_trans hp16 (by decide)) (Int.le_trans (by decide) (Int.add_nonneg hp0 (by decide))) (Int.lt_trans (Int.add_lt_add_right hp16 16) (by decide))) (n := 16) (by rw [rangeSize_nat]; congr 1; exact congrArg Int.toNat (show p + 16 - p = 16 by rw [Int.add_comm, Int.add_sub_cancel])) (by decide) (fun gg => ?_)
    refine rest_all (S := fun _ => True) _ trivial (fun i v => ∃ t, v = .str (piece mk (onAt [p1, p2, p3, p4] p i)) t) (fun j ys v I2 oI2 C2 oC2 D2 m₂ h5 tk5 E5 hj ⟨tv, hPv⟩ hoC hm₂ F6 N6 off6 ne6 => ?_) (fun ys hyl hys => ?_)
    · subst hPv
      k_steps
      · rename (List.any _ _) = true => hb
        exact ⟨_, _, rfl, ⟨_, by rw [show onAt [p1, p2, p3, p4] p j = true from hb]; rfl⟩, F6, N6⟩
      · rename (List.any _ _) = false => hb
        exact ⟨_, _, rfl, ⟨_, by rw [show onAt [p1, p2, p3, p4] p j = false from hb]; rfl⟩, F6, N6⟩
    · intro D3 h6 tk6 F6 N6 off6
      clear hR F5 N5
      k_with "call builtin:str.join" => refine Stop.mk ?_
      k_with "exec Try" => refine Stop.mk ?_
      k_steps
      refine Stop.to ?_
      have hys2 := strsAre_of (f := fun i => piece mk (onAt [p1, p2, p3, p4] p i)) 16 ys 0 hyl (fun i v hv => by rw [Nat.zero_add]; exact hys i v hv)
      refine join_listC (items := ys.toArray) (by is_list) hys2 (by decide) (by
        have := sum_len (f := fun i => piece mk (onAt [p1, p2, p3, p4] p i)) (fun i => piece_len hmk _) 16 0
        rw [List.length_map, List.length_range']; omega) ?_
      intro t7 tk7
      have hRO := hr p hpm
      have e7 : Txt.join (Str.ofString "") ((List.range' 0 16).map fun i => piece mk (onAt [p1, p2, p3, p4] p i)) = ringP mk [p1, p2, p3, p4] p := rfl
      rw [e7]
      clear e7 hys2 hys
      generalize ringP mk [p1, p2, p3, p4] p = rg at hRO ⊢
      refine hideG fun GG hGG => ?_
      obtain ⟨rtA, rtB, rf, port, psA, psB, hrg, hA, hpsA, hrf, hrf0, hrf1, hB, hpsB, hport, hpl, hpo0, hpo1, hgap⟩ := hRO
      refine hGG ?_
      clear hGG GG
      replace N6 := News.tl N6
      clear off6
      have l1 : (Str.ofString "229 round (").length ≤ 11 := by decide +kernel
      have l2 : (Str.ofString "229 round (" ++ rg).length ≤ 51 := by
        rw [Str.length_append]
        exact Nat.add_le_add l1 hrg
      have l3 : (Str.ofString "229 round (" ++ rg ++ mk).length ≤ 52 := by
        rw [Str.length_append]
        exact Nat.add_le_add l2 (Nat.le_of_eq hmk)
      have l4 : (Str.ofString ")").length ≤ 1 := by decide +kernel
      have f0 : rg.length ≤ sizeLine := Nat.le_trans hrg (by rw [sizeLine_eq]; decide)
      have f1 := fit2 l1 hrg (by decide)
      have f2 := fit2 l2 (Nat.le_of_eq hmk) (by decide)
      have f3 := fit2 l3 l4 (by decide)
      k_steps
      refine Stop.to ?_
      refine wpAny_Try_except ?_
      k_with "call ref" => refine Stop.mk ?_
      k_steps
      refine Stop.to ?_
      rename Fr g₁ _ _ _ => F7
      rename News g₁ _ _ _ => N7
      refine p229 BG F7 X1 N7 T1 rfl (show dp + 1 + 1 < recursionLimit from Nat.lt_of_le_of_lt (Nat.add_le_add_left (by decide : 2 ≤ 10) dp) hdp) (show un + 3 + 80 < cLine from Nat.lt_of_le_of_lt (Nat.add_le_add_left (by decide : 83 ≤ 100) un) hu) hA.1 hA.2.1 hA.2.2.1 hA.2.2.2.1 hA.2.2.2.2.1 hA.2.2.2.2.2.1 hA.2.2.2.2.2.2.1 hA.2.2.2.2.2.2.2.1 hA.2.2.2.2.2.2.2.2.1 hA.2.2.2.2.2.2.2.2.2.1 hA.2.2.2.2.2.2.2.2.2.2.2 hA.2.2.2.2.2.2.2.2.2.2.1 (port := 0) (fun g8 e8 te8 h8 tk8 _ F8 B8 R8 U8 => ?_) (fun h5 => absurd h5 hpsA) (fun _ _ _ _ _ h5 _ _ _ _ => absurd h5 hpsA)
      refine catch1 rfl R8 U8 F8 BG st (fr_none F) DG rfl X T (by k_is) (by kts_exm) rfl rfl (by decide) (fun h9 g9 KT9 F9 N9 B9 st9 D9 => ?_) ?_
      · replace N9 := News.tl N9
        have X9 : (hd.heap_39 w.params).In g9 := X.keeps st9
        have T9 : Top hd.view_39 lo mean mg mb g9 := T.keeps st9
        clear F6 N6 F7 N7 F8 B8 R8 U8
        subst hrf
        clear f0 f1 f2 f3 l1 l2 l3
        have l5 : (Str.ofString "229 part (").length ≤ 10 := by decide +kernel
        have l6 := Nat.le_trans (Txt.slice_le rg none (some (Txt.rfind rg mk + 1))) hrg
        have l7 : (Str.ofString "229 part (" ++ Txt.slice rg none (some (Txt.rfind rg mk + 1))).length ≤ 50 := by
          rw [Str.length_append]
          exact Nat.add_le_add l5 l6
        have f0 := fit2 l5 l6 (by decide)
        have f1 := fit2 l7 l4 (by decide)
        have f2 : rg.length ≤ sizeLine := Nat.le_trans hrg (by rw [sizeLine_eq]; decide)
        k_steps
        refine Stop.to ?_
        rename Fr g9 _ _ _ => F10
        rename News g9 _ _ _ => N10
        refine p229 B9 F10 X9 N10 T9 rfl (show dp + 1 + 1 < recursionLimit from Nat.lt_of_le_of_lt (Nat.add_le_add_left (by decide : 2 ≤ 10) dp) hdp) (show un + 3 + 80 < cLine from Nat.lt_of_le_of_lt (Nat.add_le_add_left (by decide : 83 ≤ 100) un) hu) hB.1 hB.2.1 hB.2.2.1 hB.2.2.2.1 hB.2.2.2.2.1 hB.2.2.2.2.2.1 hB.2.2.2.2.2.2.1 hB.2.2.2.2.2.2.2.1 hB.2.2.2.2.2.2.2.2.1 hB.2.2.2.2.2.2.2.2.2.1 hB.2.2.2.2.2.2.2.2.2.2.2 hB.2.2.2.2.2.2.2.2.2.2.1 (port := port) (fun _ _ _ _ _ h5 _ _ _ _ => absurd hpsB h5) (fun _ => ⟨hport, hpl⟩) (fun D11 t11 t12 h11 tk11 _ F11 N11 l11 l12 => ?_)
        clear F10 N10
        have g1 : port < 2 ^ 62 := Int.lt_of_lt_of_le hpo1 (by decide)
        have g2 : -2 ^ 62 < port := Int.lt_of_lt_of_le (by decide) hpo0
        have g3 : port < 2 ^ 1920 := Int.lt_of_lt_of_le hpo1 (by decide +kernel)
        have g4 : -2 ^ 1920 < port := Int.lt_of_lt_of_le (by decide +kernel) hpo0
        dsimp only
        k_steps
        rename Fr g9 _ _ _ => F12
        rename News g9 _ _ _ => N12
        have hGI : G ≠ I := off _ hGl
        have N13 : News g9 L' _ ((G, listOf gvs.toArray k) :: (I, io) :: (L' + 1 + 1, oM) :: (L' + 1, oP) :: (P, listOf [.int p1 t1, .int p2 t2, .int p3 t3, .int p4 t4].toArray n) :: news) :=
          News.mk (N12 _ (.tail _ (.tail _ (.tail _ (.head _))))) (News.mk (N12 _ (.tail _ (.tail _ (.head _)))) (News.tl (News.tl (News.tl (News.tl N12)))))
        have lG2 := kst_ltOf lG.2.2.2
        refine append_K (x := _) F12 N13 (Upd.head (off_cons (Ne.symm hGI) (off_cons (Nat.ne_of_lt lG.1) (off_cons (Nat.ne_of_lt lG.2.1) (off_cons (Nat.ne_of_lt lG.2.2.1) (fun q hq => Nat.ne_of_lt (lG2 q hq))))))) (fun h14 F14 N14 => ?_) (by rw [sizeLine_eq]; show gvs.length ≤ _; rw [hgl]; exact Nat.le_of_lt (Nat.lt_of_lt_of_le (List.getElem?_eq_some_iff.mp hpi).1 (show 4 ≤ 16777216 by decide)))
        clear F12 N12 N13
        k_steps
        rw [hgap] at N14
        rw [List.push_toArray] at N14
        obtain ⟨tx, N15⟩ : ∃ tx, News g9 L' h14 ((G, listOf (gvs ++ [Value.int (gp p) tx]).toArray (k + 1)) :: (I, io) :: (L' + 1 + 1, oM) :: (L' + 1, oP) :: (P, listOf [.int p1 t1, .int p2 t2, .int p3 t3, .int p4 t4].toArray n) :: news) := ⟨_, N14⟩
        have N16 := News.mk (N15 _ (.tail _ (.head _))) (News.mk (N15 _ (.head _)) (News.tl (News.tl N15)))
        refine ⟨h14, _, _, g9, (G, listOf (gvs ++ [Value.int (gp p) tx]).toArray (k + 1)) :: (L' + 1 + 1, oM) :: (L' + 1, oP) :: (P, listOf [.int p1 t1, .int p2 t2, .int p3 t3, .int p4 t4].toArray n) :: news, rfl, F14, by exact N16, .tail _ (.tail _ (.tail _ (.head _))), ?_, gvs ++ [Value.int (gp p) tx], k + 1, rfl, .head _, fun q hq => .tail _ hq, ?_, by rw [List.length_append, hgl]; rfl, KT.trans KT9, B9, st9, D9⟩
        · exact off_cons hGI (fun q hq => off q (hsub q hq))
        · have e2 : ([p1, p2, p3, p4].take (i + 1)).map gp = ([p1, p2, p3, p4].take i).map gp ++ [gp p] := by
            rw [List.take_add_one, hpi]; simp
          rw [e2]
          exact IntsAre.append ‹IntsAre gvs _› (.cons _ _ .nil)
      · passes_own
  · intro m₁ g₁ led h tk hPT hPl F3 N3
    refine hideG fun GG hGG => ?_
    obtain ⟨gvs, k, hG, hGl, hsub, hgi, hgl, KT, BG, st, DG⟩ := hPT
    refine hGG ?_
    clear hGG GG
    clear F1 N1
    have e1 : m₁ = fun y => if y = Str.ofString "gaps" then some (.ref G) else m₁ y := by
      funext y
      by_cases h2 : y = Str.ofString "gaps"
      · rw [if_pos h2, h2, hG]
      · rw [if_neg h2]
    rw [e1] at F3
    have X1 : (hd.heap_39 w.params).In g₁ := X.keeps st
    have T1 : Top hd.view_39 lo mean mg mb g₁ := T.keeps st
    clear e1 B' X' T' D' FG'
    dsimp only
    k_steps
    refine Stop.to ?_
    refine leaveS0_ F3 (News.sub (news := (G, listOf gvs.toArray k) :: (P, listOf [.int p1 t1, .int p2 t2, .int p3 t3, .int p4 t4].toArray n) :: news) N3 (all_cons hGl (fun q hq => hsub q (.tail _ (.tail _ hq))))) KT (fun F' N' => ret G gvs k _ _ ?_ F' N' lG.2.2.1 (kst_ltOf lG.2.2.2))
    · exact hgi
end Mine
end

-- C8
section
open PySem PySem.W PyProof.Rows
set_option Elab.async false
set_option linter.unusedVariables false
example : PySem.Challenge.rw_sr0038_01 = PySem.Challenge.rw_sr0038_01 ∧ Mine.hd.heap_39 = Mine.hd.heap_39 := by
  k_fill
  exact ⟨rfl, rfl⟩
namespace Mine
theorem IntsAre.to {vs : List Value} {a b : List Int} (h : IntsAre vs a) (e : a = b) : IntsAre vs b := e ▸ h
noncomputable def drawnF (ns : List Int) : List Int := (ns.take 7).map (fun x => Int.fmod x 1000000) ++ ([0, 2, 6, 8, 1, 2, 3] : List Int).drop (ns.take 7).length
example : True := by
  k_with_none
  trivial
set_option maxRecDepth 100000 in
set_option maxHeartbeats 8000000 in
theorem drawn {w : World} {mean mg mb} {dp un gd cn cs a ccd cl outer A₀ base h₀ L m s} {Q E : Value → Shared → Prop} {S : Addr} {vs : List Value} {ns : List Int} {news}
   (B : Below A₀ base outer h₀) (F : Fr h₀ L s.heap m) (X : (hd.heap_39 w.params).In h₀) (N : News h₀ L s.heap news) (T : Top hd.view_39 lo mean mg mb h₀) (hk : cs.kind = .function)
   (hdp : dp + 2 < recursionLimit) (hu : un + 90 < cLine) (hl : h₀.IsList S vs.toArray) (hi : IntsAre vs ns) (hn : ns.length ≤ 63)
   (ret : ∀ D us k h' tk', IntsAre us (drawnF ns) → Fr h₀ L h' m → News h₀ L h' ((D, listOf us.toArray k) :: news) → (∀ p ∈ news, p.1 < D) → Q (.ref D) {s with heap := h', toks := tk'}) :
   wpAny (model PySem.Challenge.rw_sr0038_01.row.prog w) (ktrTop dp un gd cn cs L a ccd cl outer) (call (.ref 111) [.ref S]) Q E s := by
  refine wpAny_call ?_
  k_dflt (refine' code_def ?k1 ?k2 ?k3 ?k4 ?k5 ?kA ?kF ?kK ?k6 ?k7 ?k8 ?k9 ?kB ?_ ?c2 ?c3 ?c4 ?c5; (case kA => exact rfl); (case kF => exact rfl); (case kK => assumption); (case k1 => k_asm); (case k2 => k_asm); (case k3 => k_asm); (case k4 => k_asm); (case k5 => k_asm); (case k6 => k_is); (case k7 => k_is); (case k8 => exact Nat.lt_of_le_of_lt (Nat.le_add_right dp _) hdp); (case k9 => (refine' kp_binds ?kx ?ke; (case kx => k_in); (case ke => exact fun _ => rfl))); (case c5 => decide); (case kB => exact locs rfl); (case c2 => exact rfl); (case c3 => exact rfl); (case c4 => exact rfl); k_whole; intro g' L' h' FG' F' N' B' X' T'; (try dsimp only); (try k_lift B'); (try k_fold))
  have hl2 : g'.IsList S vs.toArray := hl.at fun o e => FG'.keep S o e
  k_with "CompSrc" => refine Stop.mk ?_
  k_steps
  rename (_ < _ ∧ AllLt _ _) => l2
  rename IntsAre _ (List.take 7 ns) => hI2
  refine Stop.to ?_
  rename Fr g' _ _ _ => F2
  rename News g' _ _ _ => N2
  have hwl := hI2.length
  have hwl7 : (ns.take 7).length ≤ 7 := List.length_take_le _ _
  refine LCg.CompSrc.ledger rfl F2 N2 (.head _) (by rw [sizeLine_eq, List.size_toArray]; omega) (fun gg => ?_)
  refine rest_all (S := LCg.SrcAt _ _ _) _ (.inr ⟨_, .head _, rfl, _, rfl⟩) (fun i v => ∃ t, v = .int (Int.fmod ((ns.take 7).getD i 0) 1000000) t) (fun j ys v I2 oI2 C2 oC2 D2 m₂ h5 tk5 E5 hj hPv hoC hm₂ F6 N6 off6 ne6 => ?_) (fun ys hyl hys => ?_)
  · obtain ⟨tv, hv⟩ := hI2.get j ((ns.take 7).getD j 0) (by
      have : j < (ns.take 7).length := by rw [List.size_toArray] at hj; omega
      rw [List.getD_eq_getElem?_getD, List.getElem?_eq_getElem this]; rfl)
    have e : v = .int ((ns.take 7).getD j 0) tv := by
      have q : _ = some v := hPv
      rw [List.getElem?_toArray, hv] at q
      exact (Option.some.inj q).symm
    subst e
    k_steps
    exact ⟨_, _, rfl, ⟨_, rfl⟩, F6, N6⟩
  · intro D3 h6 tk6 F6 N6 off6
    have hyl2 : ys.length = (ns.take 7).length := by rw [hyl, List.size_toArray, hwl]
    have hys2 : IntsAre ys ((ns.take 7).map (fun x => Int.fmod x 1000000)) := by
      have q := intsAre_of (f := fun i => Int.fmod ((ns.take 7).getD i 0) 1000000) (ns.take 7).length ys 0 hyl2 (fun i v hv => by rw [Nat.zero_add]; exact hys i v hv)
      have e : (List.range' 0 (ns.take 7).length).map (fun i => Int.fmod ((ns.take 7).getD i 0) 1000000) = (ns.take 7).map (fun x => Int.fmod x 1000000) := by
        apply List.ext_getElem
        · simp
        · intro j h1 h2
          simp only [List.getElem_map, List.getElem_range', Nat.zero_add, Nat.one_mul]
          rw [List.getD_eq_getElem?_getD, List.getElem?_eq_getElem (by simpa using h2)]
          rfl
      rw [e] at q
      exact q
    have hll : ((ns.take 7).map (fun x => Int.fmod x 1000000)).length = (ns.take 7).length := List.length_map _
    k_with "subscriptTail Name Slice ref ref" => refine Stop.mk ?_
    k_steps
    refine Stop.to ?_
    refine' kmk_slice_ints (ns := [0, 2, 6, 8, 1, 2, 3]) ?yF ?yN ?yl ?yp ?yq ?yi ?ym ?yc ?_ ?ys ?yt ?yz
    case yF => k_asm
    case yN => k_asm
    case yl => kmk_list
    case yp => kmk_part
    case yq => kmk_part
    case yi => l_ints
    case ym => exact kmk_from (by l_ints) (Int.natCast_nonneg _)
    case yc => exact List.length_drop ..
    case ys => with_unfolding_all rfl
    case yt => kmk_pure
    case yz => kmk_size
    intro D' ws' h' F' N' l1 hI' hC' hL'
    k_steps
    rename Fr h₀ L _ _ => kF
    rename News h₀ L _ _ => kN
    rename IntsAre _ (_ ++ _) => hIf
    rename (D' < _ ∧ _) => l9
    have e9 : ((((ns.take 7).map (fun x => Int.fmod x 1000000)).length : Nat) : Int).toNat = (ns.take 7).length := by rw [Int.toNat_natCast, hll]
    rw [e9] at hIf
    replace hIf := IntsAre.to hIf (show _ = drawnF ns from rfl)
    refine ret _ _ 0 _ _ hIf kF (News.sub kN ?_) (kst_ltOf l9.2.2.2.2)
    intro p hp
    rcases List.mem_cons.mp hp with rfl | hp
    · exact .head _
    · exact .tail _ (.tail _ (.tail _ (.tail _ (.tail _ hp))))
end Mine
end

-- Hu
section
open PySem
namespace Mine
noncomputable def f6 : UInt64 := 0x4018000000000000
noncomputable def f1 : UInt64 := 0x3ff0000000000000
noncomputable def f2 : UInt64 := 0x4000000000000000
noncomputable def f4 : UInt64 := 0x4010000000000000
/-- the quotient of two ints, as '/' makes it -/
noncomputable def fr (a b : Nat) : UInt64 := Float64.ofFrac (decide ((a : Int) < 0) != decide ((b : Int) < 0)) (a : Int).natAbs (b : Int).natAbs
noncomputable def hTr (x : UInt64) : Int := match Float64.decode x with | .fin sg m e => Float64.truncOf sg m e | _ => 0
noncomputable def isFin (x : UInt64) : Bool := match Float64.decode x with | .fin _ _ _ => true | _ => false
noncomputable def pF (s v : UInt64) : UInt64 := Float64.mul v (Float64.sub f1 s)
noncomputable def fF (h : UInt64) : UInt64 := Float64.sub (Float64.mul h f6) (Float64.ofInt (hTr (Float64.mul h f6)))
noncomputable def qF (h s v : UInt64) : UInt64 := Float64.mul v (Float64.sub f1 (Float64.mul s (fF h)))
noncomputable def tF (h s v : UInt64) : UInt64 := Float64.mul v (Float64.sub f1 (Float64.mul s (Float64.sub f1 (fF h))))
noncomputable def hsvF (h s v : UInt64) : UInt64 × UInt64 × UInt64 :=
  match (Int.fmod (hTr (Float64.mul h f6)) 6) with
  | 0 => (v, tF h s v, pF s v)
  | 1 => (qF h s v, v, pF s v)
  | 2 => (pF s v, v, tF h s v)
  | 3 => (pF s v, qF h s v, v)
  | 4 => (tF h s v, pF s v, v)
  | _ => (v, pF s v, qF h s v)
noncomputable def mx3 (a b c : UInt64) : UInt64 := if (Float64.cmp b a == some .gt) then (if (Float64.cmp c b == some .gt) then c else b) else (if (Float64.cmp c a == some .gt) then c else a)
noncomputable def mn3 (a b c : UInt64) : UInt64 := if (Float64.cmp b a == some .lt) then (if (Float64.cmp c b == some .lt) then c else b) else (if (Float64.cmp c a == some .lt) then c else a)
noncomputable def rgF (r g b : UInt64) : UInt64 := Float64.sub (mx3 r g b) (mn3 r g b)
noncomputable def cF (r g b x : UInt64) : UInt64 := Float64.div (Float64.sub (mx3 r g b) x) (rgF r g b)
noncomputable def hu0 (r g b : UInt64) : UInt64 :=
  if (Float64.cmp r (mx3 r g b) == some .eq) then Float64.sub (cF r g b b) (cF r g b g)
  else if (Float64.cmp g (mx3 r g b) == some .eq) then Float64.sub (Float64.add f2 (cF r g b r)) (cF r g b b)
  else Float64.sub (Float64.add f4 (cF r g b g)) (cF r g b r)
noncomputable def hueF (r g b : UInt64) : UInt64 := (Float64.divmod (Float64.div (hu0 r g b) f6) f1).snd
noncomputable def satF (r g b : UInt64) : UInt64 := Float64.div (rgF r g b) (mx3 r g b)
/-- what the walks of the two defs ask, and what they give, at one colour -/
noncomputable def hueOk (k a b : Nat) : Bool :=
  let h := fr k 16; let s := fr a 4; let v := fr b 4
  let p := hsvF h s v
  !(Float64.cmp s 0 == some .eq) && isFin (Float64.mul h f6) && decide (0 ≤ hTr (Float64.mul h f6) ∧ hTr (Float64.mul h f6) < 100) &&
  !(Float64.cmp (mn3 p.1 p.2.1 p.2.2) (mx3 p.1 p.2.1 p.2.2) == some .eq) && !Float64.isZero (mx3 p.1 p.2.1 p.2.2) && !Float64.isZero (rgF p.1 p.2.1 p.2.2) &&
  hueF p.1 p.2.1 p.2.2 == fr (k % 16) 16 && satF p.1 p.2.1 p.2.2 == s && mx3 p.1 p.2.1 p.2.2 == v
set_option maxRecDepth 100000 in
theorem hue_11 : ∀ k < 31, hueOk k 1 1 = true := by decide +kernel
set_option maxRecDepth 100000 in
theorem hue_12 : ∀ k < 31, hueOk k 1 2 = true := by decide +kernel
set_option maxRecDepth 100000 in
theorem hue_13 : ∀ k < 31, hueOk k 1 3 = true := by decide +kernel
set_option maxRecDepth 100000 in
theorem hue_14 : ∀ k < 31, hueOk k 1 4 = true := by decide +kernel
set_option maxRecDepth 100000 in
theorem hue_21 : ∀ k < 31, hueOk k 2 1 = true := by decide +kernel
set_option maxRecDepth 100000 in
theorem hue_22 : ∀ k < 31, hueOk k 2 2 = true := by decide +kernel
set_option maxRecDepth 100000 in
theorem hue_23 : ∀ k < 31, hueOk k 2 3 = true := by decide +kernel
set_option maxRecDepth 100000 in
theorem hue_24 : ∀ k < 31, hueOk k 2 4 = true := by decide +kernel
set_option maxRecDepth 100000 in
theorem hue_31 : ∀ k < 31, hueOk k 3 1 = true := by decide +kernel
set_option maxRecDepth 100000 in
theorem hue_32 : ∀ k < 31, hueOk k 3 2 = true := by decide +kernel
set_option maxRecDepth 100000 in
theorem hue_33 : ∀ k < 31, hueOk k 3 3 = true := by decide +kernel
set_option maxRecDepth 100000 in
theorem hue_34 : ∀ k < 31, hueOk k 3 4 = true := by decide +kernel
set_option maxRecDepth 100000 in
theorem hue_41 : ∀ k < 31, hueOk k 4 1 = true := by decide +kernel
set_option maxRecDepth 100000 in
theorem hue_42 : ∀ k < 31, hueOk k 4 2 = true := by decide +kernel
set_option maxRecDepth 100000 in
theorem hue_43 : ∀ k < 31, hueOk k 4 3 = true := by decide +kernel
set_option maxRecDepth 100000 in
theorem hue_44 : ∀ k < 31, hueOk k 4 4 = true := by decide +kernel
theorem up4 {P : Nat → Prop} (h1 : P 1) (h2 : P 2) (h3 : P 3) (h4 : P 4) {a : Nat} (ha : a < 5) (h0 : 0 < a) : P a :=
  lt_up (P := fun a => 0 < a → P a) (lt4 (P := fun a => 0 < a → P a) (fun h => absurd h (Nat.lt_irrefl 0)) (fun _ => h1) (fun _ => h2) (fun _ => h3)) (fun _ => h4) ha h0
theorem hue_1 {b : Nat} (hb : b < 5) (h : 0 < b) : ∀ k < 31, hueOk k 1 b = true := up4 (P := fun b => ∀ k < 31, hueOk k 1 b = true) hue_11 hue_12 hue_13 hue_14 hb h
theorem hue_2 {b : Nat} (hb : b < 5) (h : 0 < b) : ∀ k < 31, hueOk k 2 b = true := up4 (P := fun b => ∀ k < 31, hueOk k 2 b = true) hue_21 hue_22 hue_23 hue_24 hb h
theorem hue_3 {b : Nat} (hb : b < 5) (h : 0 < b) : ∀ k < 31, hueOk k 3 b = true := up4 (P := fun b => ∀ k < 31, hueOk k 3 b = true) hue_31 hue_32 hue_33 hue_34 hb h
theorem hue_4 {b : Nat} (hb : b < 5) (h : 0 < b) : ∀ k < 31, hueOk k 4 b = true := up4 (P := fun b => ∀ k < 31, hueOk k 4 b = true) hue_41 hue_42 hue_43 hue_44 hb h
theorem hueOk_all : ∀ a < 5, 0 < a → ∀ b < 5, 0 < b → ∀ k < 31, hueOk k a b = true := fun _ ha h b hb hb0 => up4 (P := fun a => ∀ k < 31, hueOk k a b = true) (hue_1 hb hb0) (hue_2 hb hb0) (hue_3 hb hb0) (hue_4 hb hb0) ha h
end Mine
end

-- Mx
section
open PySem PySem.W PyProof.Rows
namespace Mine
theorem cmpF_gt {prog : Program} {w : World} {A : Around} {P : Nat → Value → Prop} (val : Nat → UInt64) (hval : ∀ i v, P i v → ∃ t, v = .float (val i) t) :
    CmpOf prog w A .Gt P (fun i j => Float64.cmp (val i) (val j) == some .gt) := fun i j vi vj s Q E hi hj h => by
  obtain ⟨t, rfl⟩ := hval i vi hi
  obtain ⟨u, rfl⟩ := hval j vj hj
  exact richCompare_gives (op := .Gt) (typeIs_float s _ t) (typeIs_float s _ u) F.slot_float_gt F.entry_float_gt (F.args_float_gt_2 _ _) (AutoFloatG4.float___gt___float_float_0 _ t _ u) (fun x => nomatch x) h
theorem cmpF_lt {prog : Program} {w : World} {A : Around} {P : Nat → Value → Prop} (val : Nat → UInt64) (hval : ∀ i v, P i v → ∃ t, v = .float (val i) t) :
    CmpOf prog w A .Lt P (fun i j => Float64.cmp (val i) (val j) == some .lt) := fun i j vi vj s Q E hi hj h => by
  obtain ⟨t, rfl⟩ := hval i vi hi
  obtain ⟨u, rfl⟩ := hval j vj hj
  exact richCompare_gives (op := .Lt) (typeIs_float s _ t) (typeIs_float s _ u) F.slot_float_lt F.entry_float_lt (F.args_float_lt_2 _ _) (AutoFloatG5.float___lt___float_float_0 _ t _ u) (fun x => nomatch x) h
noncomputable def at3 (a b c : UInt64) (i : Nat) : UInt64 := match i with | 0 => a | 1 => b | _ => c
theorem at3_of {a b c : UInt64} {t u x : Tok} {i : Nat} {v : Value} (h : (#[.float a t, .float b u, .float c x] : Array Value)[i]? = some v) : ∃ t', v = .float (at3 a b c i) t' ∧ (t' = t ∨ t' = u ∨ t' = x) := by
  rcases i with _ | _ | _ | i
  · exact ⟨t, (by simpa using h.symm : v = .float a t), .inl rfl⟩
  · exact ⟨u, (by simpa using h.symm : v = .float b u), .inr (.inl rfl)⟩
  · exact ⟨x, (by simpa using h.symm : v = .float c x), .inr (.inr rfl)⟩
  · simp at h
theorem best_mx (a b c : UInt64) : at3 a b c (argBest (fun i j => Float64.cmp (at3 a b c i) (at3 a b c j) == some .gt) 2) = mx3 a b c := by
  unfold mx3
  simp only [argBest]
  by_cases h1 : (Float64.cmp (at3 a b c 1) (at3 a b c 0) == some .gt) = true
  · have h1' : (Float64.cmp b a == some .gt) = true := h1
    simp only [h1, h1', if_true, Bool.false_eq_true, if_false]
    by_cases h2 : (Float64.cmp (at3 a b c 2) (at3 a b c 1) == some .gt) = true
    · have h2' : (Float64.cmp c b == some .gt) = true := h2
      simp only [h2, h2', if_true, Bool.false_eq_true, if_false]
      rfl
    · have h2' : ¬ (Float64.cmp c b == some .gt) = true := h2
      rw [Bool.not_eq_true] at h2 h2'
      simp only [h2, h2', Bool.false_eq_true, if_false]
      rfl
  · have h1' : ¬ (Float64.cmp b a == some .gt) = true := h1
    rw [Bool.not_eq_true] at h1 h1'
    simp only [h1, h1', Bool.false_eq_true, if_false]
    by_cases h2 : (Float64.cmp (at3 a b c 2) (at3 a b c 0) == some .gt) = true
    · have h2' : (Float64.cmp c a == some .gt) = true := h2
      simp only [h2, h2', if_true, Bool.false_eq_true, if_false]
      rfl
    · have h2' : ¬ (Float64.cmp c a == some .gt) = true := h2
      rw [Bool.not_eq_true] at h2 h2'
      simp only [h2, h2', Bool.false_eq_true, if_false]
      rfl
theorem best_mn (a b c : UInt64) : at3 a b c (argBest (fun i j => Float64.cmp (at3 a b c i) (at3 a b c j) == some .lt) 2) = mn3 a b c := by
  unfold mn3
  simp only [argBest]
  by_cases h1 : (Float64.cmp (at3 a b c 1) (at3 a b c 0) == some .lt) = true
  · have h1' : (Float64.cmp b a == some .lt) = true := h1
    simp only [h1, h1', if_true, Bool.false_eq_true, if_false]
    by_cases h2 : (Float64.cmp (at3 a b c 2) (at3 a b c 1) == some .lt) = true
    · have h2' : (Float64.cmp c b == some .lt) = true := h2
      simp only [h2, h2', if_true, Bool.false_eq_true, if_false]
      rfl
    · have h2' : ¬ (Float64.cmp c b == some .lt) = true := h2
      rw [Bool.not_eq_true] at h2 h2'
      simp only [h2, h2', Bool.false_eq_true, if_false]
      rfl
  · have h1' : ¬ (Float64.cmp b a == some .lt) = true := h1
    rw [Bool.not_eq_true] at h1 h1'
    simp only [h1, h1', Bool.false_eq_true, if_false]
    by_cases h2 : (Float64.cmp (at3 a b c 2) (at3 a b c 0) == some .lt) = true
    · have h2' : (Float64.cmp c a == some .lt) = true := h2
      simp only [h2, h2', if_true, Bool.false_eq_true, if_false]
      rfl
    · have h2' : ¬ (Float64.cmp c a == some .lt) = true := h2
      rw [Bool.not_eq_true] at h2 h2'
      simp only [h2, h2', Bool.false_eq_true, if_false]
      rfl
section
variable {prog : Program} {w : World} {A : Around} {E : Value → Shared → Prop} {s : Shared} {h₀ : Heap} {L : Addr} {m : Str → Option Value} {news : List (Addr × Obj)}
theorem max3f {a b c : UInt64} {t u x : Tok} {Q : Value → Shared → Prop} (hh : A.handled = none) (F : Fr h₀ L s.heap m) (N : News h₀ L s.heap news) (k1 : t ≠ 0) (k2 : u ≠ 0) (k3 : x ≠ 0)
    (h : ∀ h' tk t', t' ≠ 0 → Fr h₀ L h' m → News h₀ L h' news → Q (.float (mx3 a b c) t') { s with heap := h', toks := tk }) :
    wpAny (model prog w) A (call (.builtin "max") [.float a t, .float b u, .float c x]) Q E s := by
  have hT : (s.heap.push { cls := .type "tuple", data := .seq #[.float a t, .float b u, .float c x] }).IsTuple s.heap.objs.size #[.float a t, .float b u, .float c x] := ⟨_, Heap.get?_push_size _ rfl, rfl, 0, by simp⟩
  refine call_max_three (wpAny_pyIter_tuple hT ?_)
  have hsz : (s.heap.push { cls := .type "tuple", data := .seq #[.float a t, .float b u, .float c x] }).objs.size = s.heap.objs.size + 1 := Heap.size_push ..
  refine ⟨_, [_, s.heap.objs.size], [_], _, _, _, _, rfl, Walks.tuple (A := A.in1) hh _ s.heap.objs.size (by rw [hsz]; exact Nat.ne_of_lt (Nat.lt_succ_self _)) #[.float a t, .float b u, .float c x],
    ⟨⟨_, Heap.get?_push_size _ rfl, rfl, rfl⟩, hT.push _⟩, fun d hd => ?_, by simp, cmpF_gt (at3 a b c) (fun _ _ h => let ⟨t, e, _⟩ := at3_of h; ⟨t, e⟩), fun v h' tk hP hk => ?_⟩
  · show d < ((s.heap.push _).push _).objs.size
    rw [Heap.size_push, hsz]
    rcases List.mem_cons.mp hd with rfl | hd
    · rw [hsz]; exact Nat.lt_succ_self _
    · rcases List.mem_cons.mp hd with rfl | hd
      · exact Nat.lt_succ_of_lt (Nat.lt_succ_self _)
      · cases hd
  · have hold : ∀ d o, s.heap.get? d = some o → h'.get? d = some o := fun d o e => by
      refine hk d o (fun hm => ?_) (Heap.get?_push_of_some _ (Heap.get?_push_of_some _ e))
      rcases List.mem_cons.mp hm with e1 | hm
      · have := Heap.lt_size e; rw [e1, hsz] at this; exact Nat.lt_irrefl _ (Nat.lt_of_succ_lt this)
      · cases hm
    rw [show (#[Value.float a t, Value.float b u, Value.float c x] : Array Value).size - 1 = 2 from rfl] at hP
    obtain ⟨t', e, hk'⟩ := at3_of hP
    rw [best_mx] at e
    subst e
    exact h h' tk t' (by rcases hk' with rfl | rfl | rfl <;> assumption) (F.grownK hold) (N.grown hold)
theorem min3f {a b c : UInt64} {t u x : Tok} {Q : Value → Shared → Prop} (hh : A.handled = none) (F : Fr h₀ L s.heap m) (N : News h₀ L s.heap news) (k1 : t ≠ 0) (k2 : u ≠ 0) (k3 : x ≠ 0)
    (h : ∀ h' tk t', t' ≠ 0 → Fr h₀ L h' m → News h₀ L h' news → Q (.float (mn3 a b c) t') { s with heap := h', toks := tk }) :
    wpAny (model prog w) A (call (.builtin "min") [.float a t, .float b u, .float c x]) Q E s := by
  have hT : (s.heap.push { cls := .type "tuple", data := .seq #[.float a t, .float b u, .float c x] }).IsTuple s.heap.objs.size #[.float a t, .float b u, .float c x] := ⟨_, Heap.get?_push_size _ rfl, rfl, 0, by simp⟩
  refine call_min_three (wpAny_pyIter_tuple hT ?_)
  have hsz : (s.heap.push { cls := .type "tuple", data := .seq #[.float a t, .float b u, .float c x] }).objs.size = s.heap.objs.size + 1 := Heap.size_push ..
  refine ⟨_, [_, s.heap.objs.size], [_], _, _, _, _, rfl, Walks.tuple (A := A.in1) hh _ s.heap.objs.size (by rw [hsz]; exact Nat.ne_of_lt (Nat.lt_succ_self _)) #[.float a t, .float b u, .float c x],
    ⟨⟨_, Heap.get?_push_size _ rfl, rfl, rfl⟩, hT.push _⟩, fun d hd => ?_, by simp, cmpF_lt (at3 a b c) (fun _ _ h => let ⟨t, e, _⟩ := at3_of h; ⟨t, e⟩), fun v h' tk hP hk => ?_⟩
  · show d < ((s.heap.push _).push _).objs.size
    rw [Heap.size_push, hsz]
    rcases List.mem_cons.mp hd with rfl | hd
    · rw [hsz]; exact Nat.lt_succ_self _
    · rcases List.mem_cons.mp hd with rfl | hd
      · exact Nat.lt_succ_of_lt (Nat.lt_succ_self _)
      · cases hd
  · have hold : ∀ d o, s.heap.get? d = some o → h'.get? d = some o := fun d o e => by
      refine hk d o (fun hm => ?_) (Heap.get?_push_of_some _ (Heap.get?_push_of_some _ e))
      rcases List.mem_cons.mp hm with e1 | hm
      · have := Heap.lt_size e; rw [e1, hsz] at this; exact Nat.lt_irrefl _ (Nat.lt_of_succ_lt this)
      · cases hm
    rw [show (#[Value.float a t, Value.float b u, Value.float c x] : Array Value).size - 1 = 2 from rfl] at hP
    obtain ⟨t', e, hk'⟩ := at3_of hP
    rw [best_mn] at e
    subst e
    exact h h' tk t' (by rcases hk' with rfl | rfl | rfl <;> assumption) (F.grownK hold) (N.grown hold)
end
end Mine
end

-- Tk
section
open PySem PySem.W PyProof.Rows
namespace Mine
theorem toks_setGen (s : Shared) (g : Nat) (x : GenState) : (s.setGen g x).toks = s.toks := rfl
theorem runs_toks {M : Model} {Γ : Ctx} {p : Pos} {t : Sem Fin} {fs : List Frame} {s : Shared} {e : End} {s' : Shared} (h : Runs M Γ p t fs s e s') : s.toks ≤ s'.toks := by
  induction h with
  | fresh _ ih => exact Nat.le_trans (Nat.le_succ _) ih
  | done | raise | yield => exact Nat.le_refl _
  | _ => first | assumption | ((try simp only [toks_setGen] at *); omega)
theorem wakes_toks {M : Model} {Γ : Ctx} {p : Pos} {g : Nat} {r : Resume} {s : Shared} {res : GenResult} {s' : Shared} (h : Wakes M Γ p g r s res s') : s.toks ≤ s'.toks := by
  unfold Wakes at h
  split at h
  · cases h
  · split at h
    · obtain ⟨e₁, s₁, hr, _, _, rfl⟩ := h
      have := runs_toks hr
      simpa only [toks_setGen] using this
    · obtain ⟨_, rfl⟩ := h
      exact Nat.le_refl _
    · obtain ⟨_, rfl⟩ := h
      exact Nat.le_refl _
  · obtain ⟨e₁, s₁, hr, _, _, rfl⟩ := h
    have := runs_toks hr
    simpa only [toks_setGen] using this
  · obtain ⟨_, rfl⟩ := h
    exact Nat.le_refl _
  · obtain ⟨_, rfl⟩ := h
    exact Nat.le_refl _
theorem wp_toks {α : Type} {M : Model} {Γ : Ctx} {E : Value → Pos → Shared → Prop} (t : Sem α) {n : Nat} : ∀ {Q : α → Pos → Shared → Prop} {p : Pos} {s : Shared}, n ≤ s.toks →
    Sem.wp M Γ t (fun a p' s' => n ≤ s'.toks → Q a p' s') E p s → Sem.wp M Γ t Q E p s := by
  induction t with
  | pure x => exact fun hn h => h hn
  | raise v => exact fun _ h => h
  | unsupported | finish | yield | fork | await | register => exact fun _ h => h
  | fresh k ih => exact fun hn h => ih _ (Nat.le_trans hn (Nat.le_succ _)) h
  | rule _ k ih | «at» _ k ih | alloc _ k ih | loadIfAlive _ k ih | point _ k ih | ask k ih | os _ _ k ih | handled _ k ih | newGen _ k ih | stack k ih | thread k ih => exact fun hn h => ih _ hn h
  | load a _ k ih | genState a k ih => exact fun hn ⟨o, ho, h⟩ => ⟨o, ho, ih _ hn h⟩
  | update a _ f k ih | choose _ _ k ih => exact fun hn ⟨ha, h⟩ => ⟨ha, ih _ hn h⟩
  | call c h g l k ih => exact fun hn ⟨r, s', hr, hR⟩ => ⟨r, s', hr, ih r (Nat.le_trans hn (runs_toks hr)) hR⟩
  | resume g r l k ih => exact fun hn ⟨res, s', hw, h⟩ => ⟨res, s', hw, ih _ (Nat.le_trans hn (wakes_toks hw)) h⟩
/-- the counter of tokens never falls -/
theorem toks_up {α : Type} {M : Model} {A : Around} {t : Sem α} {Q : α → Shared → Prop} {E : Value → Shared → Prop} {s : Shared} (n : Nat) (hn : n ≤ s.toks)
    (h : wpAny M A t (fun a s' => n ≤ s'.toks → Q a s') E s) : wpAny M A t Q E s := fun Γ p hΓ => wp_toks t hn (h Γ p hΓ)
theorem gen_toks {α : Type} {M : Model} {A : Around} {t : Sem α} {Q : α → Shared → Prop} {E : Value → Shared → Prop} {hp : Heap} {g : Array GenState} {d : Drawn} {o : OsState} {X Y : Nat} (n : Nat) (hn : n ≤ X + Y)
    (h : ∀ tk, n ≤ tk → wpAny M A t Q E ⟨hp, g, d, tk, o⟩) : wpAny M A t Q E ⟨hp, g, d, X + Y, o⟩ := h _ hn
theorem gen_toksP {α : Type} {M : Model} {A : Around} {t : Sem α} {Q : α → Shared → Prop} {E : Value → Shared → Prop} {hp : Heap} {g : Array GenState} {d : Drawn} {o : OsState} {s1 : Shared} (n : Nat) (hn : n ≤ s1.toks)
    (h : ∀ tk, n ≤ tk → wpAny M A t Q E ⟨hp, g, d, tk, o⟩) : wpAny M A t Q E ⟨hp, g, d, s1.toks, o⟩ := h _ hn
theorem noneBooked {w : World} {h : Heap} (X : (hd.heap_39 w.params).In h) (e : nsOkIn (hd.heap_39 w.params) cStatics = true) (q : nsIn (hd.heap_39 w.params) cStatics sharingNotToldKey = some none) : NoneBooked h :=
  ⟨_, .of_isNs (isNs_of_in X e), nsMap_none_of_in X e q⟩
end Mine
end

-- Tk2
section
open PySem PySem.W PyProof.Rows
set_option Elab.async false
example : PySem.Challenge.rw_sr0038_01 = PySem.Challenge.rw_sr0038_01 ∧ Mine.hd.heap_39 = Mine.hd.heap_39 := by
  k_fill
  exact ⟨rfl, rfl⟩
namespace Mine
set_option maxRecDepth 100000 in
theorem booked {w : World} {h : Heap} (X : (hd.heap_39 w.params).In h) : NoneBooked h := noneBooked X (by kernel_rfl) (by k_is)
end Mine
end

-- C9
section
open PySem PySem.W PyProof.Rows
set_option Elab.async false
set_option linter.unusedVariables false
example : PySem.Challenge.rw_sr0038_01 = PySem.Challenge.rw_sr0038_01 ∧ Mine.hd.heap_39 = Mine.hd.heap_39 := by
  k_fill
  exact ⟨rfl, rfl⟩

namespace Mine
theorem fin_of {x : UInt64} (h : isFin x = true) : ∃ sg m e, Float64.decode x = .fin sg m e ∧ hTr x = Float64.truncOf sg m e := by
  unfold isFin at h
  unfold hTr
  split at h
  · rename_i sg m e hd
    exact ⟨sg, m, e, hd, rfl⟩
  · cases h
noncomputable def hsvJ (j : Int) (h s v : UInt64) : UInt64 × UInt64 × UInt64 :=
  match j with
  | 0 => (v, tF h s v, pF s v)
  | 1 => (qF h s v, v, pF s v)
  | 2 => (pF s v, v, tF h s v)
  | 3 => (pF s v, qF h s v, v)
  | 4 => (tF h s v, pF s v, v)
  | _ => (v, pF s v, qF h s v)
theorem hsvF_eq {h s v : UInt64} {i : Int} (hi : hTr (Float64.mul h f6) = i) : hsvF h s v = hsvJ (Int.fmod i 6) h s v := by
  subst hi
  rfl
theorem hsvJ_eq {h s v : UInt64} {i j : Int} (hj : Int.fmod i 6 = j) : hsvJ (Int.fmod i 6) h s v = hsvJ j h s v := by
  rw [hj]
theorem sixN : ∀ n < 6, n = 0 ∨ n = 1 ∨ n = 2 ∨ n = 3 ∨ n = 4 ∨ n = 5 := by decide
theorem six {x : Int} (h0 : 0 ≤ x) (h6 : x < 6) (n0 : x ≠ 0) (n1 : x ≠ 1) (n2 : x ≠ 2) (n3 : x ≠ 3) (n4 : x ≠ 4) (n5 : x ≠ 5) : False := by
  obtain ⟨n, rfl⟩ := Int.eq_ofNat_of_zero_le h0
  rcases sixN n (Int.ofNat_lt.mp h6) with e | e | e | e | e | e
  · exact n0 (by rw [e]; rfl)
  · exact n1 (by rw [e]; rfl)
  · exact n2 (by rw [e]; rfl)
  · exact n3 (by rw [e]; rfl)
  · exact n4 (by rw [e]; rfl)
  · exact n5 (by rw [e]; rfl)
example : True := by
  k_with_none
  trivial
set_option maxRecDepth 100000 in
set_option maxHeartbeats 8000000 in
theorem hsv {w : World} {mean mg mb} {dp un gd cn cs a ccd cl outer A₀ base h₀ L m s} {Q E : Value → Shared → Prop} {hb sb vb : UInt64} {t1 t2 t3 : Tok} {news} (h3 : t3 ≠ 0)
   (B : Below A₀ base outer h₀) (F : Fr h₀ L s.heap m) (X : (hd.heap_39 w.params).In h₀) (N : News h₀ L s.heap news) (T : Top hd.view_39 lo mean mg mb h₀) (hk : cs.kind = .function)
   (hdp : dp + 1 < recursionLimit) (hu : un + 80 < cLine) (hs0 : (Float64.cmp sb 0 == some .eq) = false) (hfi : isFin (Float64.mul hb f6) = true) (hti : 0 ≤ hTr (Float64.mul hb f6) ∧ hTr (Float64.mul hb f6) < 100)
   (ret : ∀ D ta tb tc h' tk', ta ≠ 0 → tb ≠ 0 → tc ≠ 0 → Fr h₀ L h' m → News h₀ L h' ((D, tup [.float (hsvF hb sb vb).1 ta, .float (hsvF hb sb vb).2.1 tb, .float (hsvF hb sb vb).2.2 tc]) :: news) → (∀ p ∈ news, p.1 < D) → Q (.ref D) {s with heap := h', toks := tk'}) :
   wpAny (model PySem.Challenge.rw_sr0038_01.row.prog w) (ktrTop dp un gd cn cs L a ccd cl outer) (call (.ref 55) [.float hb t1, .float sb t2, .float vb t3]) Q E s := by
  refine wpAny_call ?_
  k_dflt (refine' code_def ?k1 ?k2 ?k3 ?k4 ?k5 ?kA ?kF ?kK ?k6 ?k7 ?k8 ?k9 ?kB ?_ ?c2 ?c3 ?c4 ?c5; (case kA => exact rfl); (case kF => exact rfl); (case kK => assumption); (case k1 => k_asm); (case k2 => k_asm); (case k3 => k_asm); (case k4 => k_asm); (case k5 => k_asm); (case k6 => k_is); (case k7 => k_is); (case k8 => exact Nat.lt_of_le_of_lt (Nat.le_add_right dp _) hdp); (case k9 => (refine' kp_binds ?kx ?ke; (case kx => k_in); (case ke => exact fun _ => rfl))); (case c5 => decide); (case kB => exact locs rfl); (case c2 => exact rfl); (case c3 => exact rfl); (case c4 => exact rfl); k_whole; intro g' L' h' FG' F' N' B' X' T'; (try dsimp only); (try k_lift B'); (try k_fold))
  k_with "compareOp Eq float float" => refine Stop.mk ?_
  k_with "call type:int" => refine Stop.mk ?_
  k_steps
  refine Stop.to ?_
  refine AutoFloatOps.eq_0 ?_
  rw [show (Float64.cmp sb _ == some .eq) = false from hs0]
  k_steps
  refine Stop.to ?_
  refine hideG fun GG hGG => ?_
  obtain ⟨sg, mm, ee, hdec, htr⟩ := fin_of hfi
  refine hGG ?_
  clear hGG GG
  refine call_int_float hdec ?_
  rw [← htr]
  generalize hi : hTr (Float64.mul hb f6) = i at hti
  clear hdec htr hfi
  have hm : 0 ≤ Int.fmod i 6 ∧ Int.fmod i 6 < 6 := by
    rw [Int.fmod_eq_emod_of_nonneg _ (by decide)]
    exact ⟨Int.emod_nonneg _ (by decide), Int.emod_lt_of_pos _ (by decide)⟩
  k_steps
  all_goals first
    | (exfalso; with_reducible exact six hm.1 hm.2 (by assumption) (by assumption) (by assumption) (by assumption) (by assumption) (by assumption))
    | (exfalso; omega)
    | (rename Fr h₀ L _ _ => kF
       rename News h₀ L _ _ => kN
       rename (∀ p ∈ news, p.1 < _) => l1
       with_reducible rename i.fmod 6 = _ => hj
       have hv := (hsvF_eq (s := sb) (v := vb) hi).trans (hsvJ_eq (h := hb) (s := sb) (v := vb) hj)
       rw [hv] at ret
       subst hi
       refine ret _ _ _ _ _ _ ?_ ?_ ?_ kF kN l1 <;> first | exact h3 | exact Nat.succ_ne_zero _)
end Mine
end

-- C10
section
open PySem PySem.W PyProof.Rows
set_option Elab.async false
set_option linter.unusedVariables false
example : PySem.Challenge.rw_sr0038_01 = PySem.Challenge.rw_sr0038_01 ∧ Mine.hd.heap_39 = Mine.hd.heap_39 := by
  k_fill
  exact ⟨rfl, rfl⟩

namespace Mine
theorem modF {prog : Program} {w : World} {A : Around} {E Q : Value → Shared → Prop} {s : Shared} {a b : UInt64} {t u : Tok} (hb : ¬ Float64.isZero b = true) (h : ∀ ta, ta = s.toks → Q (.float (Float64.divmod a b).snd ta) { s with toks := ta + 1 }) :
    wpAny (model prog w) A (binaryOp .Mod (.float a t) (.float b u)) Q E s := AutoFloatOps.mod_1 hb (h _ rfl)
theorem hu0_a {r g b : UInt64} (he : (Float64.cmp r (mx3 r g b) == some Ordering.eq) = true) : hu0 r g b = Float64.sub (cF r g b b) (cF r g b g) := by
  unfold hu0
  rw [if_pos he]
theorem hu0_b {r g b : UInt64} (he : (Float64.cmp r (mx3 r g b) == some Ordering.eq) = false) (he2 : (Float64.cmp g (mx3 r g b) == some Ordering.eq) = true) : hu0 r g b = Float64.sub (Float64.add f2 (cF r g b r)) (cF r g b b) := by
  unfold hu0
  rw [if_neg (by rw [he]; decide), if_pos he2]
theorem hu0_c {r g b : UInt64} (he : (Float64.cmp r (mx3 r g b) == some Ordering.eq) = false) (he2 : (Float64.cmp g (mx3 r g b) == some Ordering.eq) = false) : hu0 r g b = Float64.sub (Float64.add f4 (cF r g b g)) (cF r g b r) := by
  unfold hu0
  rw [if_neg (by rw [he]; decide), if_neg (by rw [he2]; decide)]
example : True := by
  k_with_none
  trivial
set_option maxRecDepth 100000 in
set_option maxHeartbeats 8000000 in
theorem rgb {w : World} {mean mg mb} {dp un gd cn cs a ccd cl outer A₀ base h₀ L m s} {Q E : Value → Shared → Prop} {r g b : UInt64} {t1 t2 t3 : Tok} {news} (h0 : 0 < s.toks) (k1 : t1 ≠ 0) (k2 : t2 ≠ 0) (k3 : t3 ≠ 0)
   (B : Below A₀ base outer h₀) (F : Fr h₀ L s.heap m) (X : (hd.heap_39 w.params).In h₀) (N : News h₀ L s.heap news) (T : Top hd.view_39 lo mean mg mb h₀) (hk : cs.kind = .function)
   (hdp : dp + 1 < recursionLimit) (hu : un + 80 < cLine) (hne : (Float64.cmp (mn3 r g b) (mx3 r g b) == some .eq) = false) (hz1 : Float64.isZero (mx3 r g b) = false) (hz2 : Float64.isZero (rgF r g b) = false)
   (ret : ∀ D ta tb tc h' tk', ta ≠ 0 → tb ≠ 0 → tc ≠ 0 → s.toks ≤ ta → ta < tk' → Fr h₀ L h' m → News h₀ L h' ((D, tup [.float (hueF r g b) ta, .float (satF r g b) tb, .float (mx3 r g b) tc]) :: news) → (∀ p ∈ news, p.1 < D) → Q (.ref D) {s with heap := h', toks := tk'}) :
   wpAny (model PySem.Challenge.rw_sr0038_01.row.prog w) (ktrTop dp un gd cn cs L a ccd cl outer) (call (.ref 48) [.float r t1, .float g t2, .float b t3]) Q E s := by
  refine wpAny_call ?_
  k_dflt (refine' code_def ?k1 ?k2 ?k3 ?k4 ?k5 ?kA ?kF ?kK ?k6 ?k7 ?k8 ?k9 ?kB ?_ ?c2 ?c3 ?c4 ?c5; (case kA => exact rfl); (case kF => exact rfl); (case kK => assumption); (case k1 => k_asm); (case k2 => k_asm); (case k3 => k_asm); (case k4 => k_asm); (case k5 => k_asm); (case k6 => k_is); (case k7 => k_is); (case k8 => exact Nat.lt_of_le_of_lt (Nat.le_add_right dp _) hdp); (case k9 => (refine' kp_binds ?kx ?ke; (case kx => k_in); (case ke => exact fun _ => rfl))); (case c5 => decide); (case kB => exact locs rfl); (case c2 => exact rfl); (case c3 => exact rfl); (case c4 => exact rfl); k_whole; intro g' L' h' FG' F' N' B' X' T'; (try dsimp only); (try k_lift B'); (try k_fold))
  k_with "compareOp Eq float float" => refine Stop.mk ?_
  k_with "execs cons" => (first | (refine gen_toks s.toks (show s.toks ≤ _ + _ by (try dsimp only); first | ((repeat (first | exact Nat.le_refl _ | assumption | refine Nat.le_succ_of_le ?_)); done) | omega) ?_; intro tk htk) | (refine gen_toksP s.toks (by (try dsimp only); first | ((repeat (first | exact Nat.le_refl _ | assumption | refine Nat.le_succ_of_le ?_)); done) | omega) ?_; intro tk htk))
  k_with "execs nil" => (first | (refine gen_toks s.toks (show s.toks ≤ _ + _ by (try dsimp only); first | ((repeat (first | exact Nat.le_refl _ | assumption | refine Nat.le_succ_of_le ?_)); done) | omega) ?_; intro tk htk) | (refine gen_toksP s.toks (by (try dsimp only); first | ((repeat (first | exact Nat.le_refl _ | assumption | refine Nat.le_succ_of_le ?_)); done) | omega) ?_; intro tk htk))
  k_with "call builtin:max" => refine Stop.mk ?_
  k_with "call builtin:min" => refine Stop.mk ?_
  k_with "binaryOp Div float float" => refine Stop.mk ?_
  k_with "binaryOp Mod float float" => refine Stop.mk ?_
  k_steps
  refine Stop.to ?_
  rename Fr g' _ _ _ => F1
  rename News g' _ _ _ => N1
  refine toks_up s.toks (by (try dsimp only); first | ((repeat (first | exact Nat.le_refl _ | assumption | refine Nat.le_succ_of_le ?_)); done) | omega) (max3f rfl F1 N1 k1 k2 k3 (fun h2 tk2 t2 kt2 F2 N2 htk2 => ?_))
  dsimp only at htk2 ⊢
  k_steps
  refine Stop.to ?_
  rename Fr g' _ _ _ => F1
  rename News g' _ _ _ => N1
  refine toks_up s.toks (by (try dsimp only); first | ((repeat (first | exact Nat.le_refl _ | assumption | refine Nat.le_succ_of_le ?_)); done) | omega) (min3f rfl F1 N1 k1 k2 k3 (fun h3 tk3 t3 kt3 F3 N3 htk3 => ?_))
  dsimp only at htk3 ⊢
  k_steps
  refine Stop.to ?_
  refine AutoFloatOps.eq_0 ?_
  rw [hne]
  k_steps
  refine Stop.to ?_
  refine truediv_float_or rfl (fun hz => absurd hz (by rw [hz1]; decide)) (fun _ => ?_)
  k_steps
  refine Stop.to ?_
  refine truediv_float_or rfl (fun hz => absurd (show Float64.isZero (rgF r g b) = true from hz) (by rw [hz2]; decide)) (fun _ => ?_)
  k_steps
  refine Stop.to ?_
  refine truediv_float_or rfl (fun hz => absurd (show Float64.isZero (rgF r g b) = true from hz) (by rw [hz2]; decide)) (fun _ => ?_)
  k_steps
  refine Stop.to ?_
  refine truediv_float_or rfl (fun hz => absurd (show Float64.isZero (rgF r g b) = true from hz) (by rw [hz2]; decide)) (fun _ => ?_)
  k_steps
  refine Stop.to ?_
  refine AutoFloatOps.eq_0 ?_
  cases he : (Float64.cmp r (mx3 r g b) == some Ordering.eq) with
  | true =>
    k_steps
    refine Stop.to ?_
    refine truediv_float_or rfl (fun hz => absurd (show Float64.isZero f6 = true from hz) (by decide +kernel)) (fun _ => ?_)
    k_steps
    refine Stop.to ?_
    refine modF (by decide +kernel) (fun ta hta => ?_)
    have hlo : s.toks ≤ ta := by first | (rw [hta]; assumption) | (rw [hta]; dsimp only; omega)
    clear hta
    k_with "execs cons" => (first | (refine gen_toks (ta + 1) (show ta + 1 ≤ _ + _ by (try dsimp only); first | ((repeat (first | exact Nat.le_refl _ | assumption | refine Nat.le_succ_of_le ?_)); done) | omega) ?_; intro tk htk) | (refine gen_toksP (ta + 1) (by (try dsimp only); first | ((repeat (first | exact Nat.le_refl _ | assumption | refine Nat.le_succ_of_le ?_)); done) | omega) ?_; intro tk htk))
    k_with "execs nil" => (first | (refine gen_toks (ta + 1) (show ta + 1 ≤ _ + _ by (try dsimp only); first | ((repeat (first | exact Nat.le_refl _ | assumption | refine Nat.le_succ_of_le ?_)); done) | omega) ?_; intro tk htk) | (refine gen_toksP (ta + 1) (by (try dsimp only); first | ((repeat (first | exact Nat.le_refl _ | assumption | refine Nat.le_succ_of_le ?_)); done) | omega) ?_; intro tk htk))
    k_steps
    rename Fr h₀ L _ _ => kF
    rename News h₀ L _ _ => kN
    rename (∀ p ∈ news, p.1 < _) => l1
    have hu9 := hu0_a (r := r) (g := g) (b := b) he
    unfold hueF at ret
    rw [hu9] at ret
    refine ret _ _ _ _ _ _ ?_ ?_ ?_ hlo ?_ kF kN l1 <;> first | assumption | exact Nat.succ_ne_zero _ | exact Nat.ne_of_gt (Nat.lt_of_lt_of_le h0 (by assumption)) | omega
  | false =>
    k_steps
    refine Stop.to ?_
    refine AutoFloatOps.eq_0 ?_
    cases he2 : (Float64.cmp g (mx3 r g b) == some Ordering.eq) with
    | true =>
      k_steps
      refine Stop.to ?_
      refine truediv_float_or rfl (fun hz => absurd (show Float64.isZero f6 = true from hz) (by decide +kernel)) (fun _ => ?_)
      k_steps
      refine Stop.to ?_
      refine modF (by decide +kernel) (fun ta hta => ?_)
      have hlo : s.toks ≤ ta := by first | (rw [hta]; assumption) | (rw [hta]; dsimp only; omega)
      clear hta
      k_with "execs cons" => (first | (refine gen_toks (ta + 1) (show ta + 1 ≤ _ + _ by (try dsimp only); first | ((repeat (first | exact Nat.le_refl _ | assumption | refine Nat.le_succ_of_le ?_)); done) | omega) ?_; intro tk htk) | (refine gen_toksP (ta + 1) (by (try dsimp only); first | ((repeat (first | exact Nat.le_refl _ | assumption | refine Nat.le_succ_of_le ?_)); done) | omega) ?_; intro tk htk))
      k_with "execs nil" => (first | (refine gen_toks (ta + 1) (show ta + 1 ≤ _ + _ by (try dsimp only); first | ((repeat (first | exact Nat.le_refl _ | assumption | refine Nat.le_succ_of_le ?_)); done) | omega) ?_; intro tk htk) | (refine gen_toksP (ta + 1) (by (try dsimp only); first | ((repeat (first | exact Nat.le_refl _ | assumption | refine Nat.le_succ_of_le ?_)); done) | omega) ?_; intro tk htk))
      k_steps
      rename Fr h₀ L _ _ => kF
      rename News h₀ L _ _ => kN
      rename (∀ p ∈ news, p.1 < _) => l1
      have hu9 := hu0_b (r := r) (g := g) (b := b) he he2
      unfold hueF at ret
      rw [hu9] at ret
      refine ret _ _ _ _ _ _ ?_ ?_ ?_ hlo ?_ kF kN l1 <;> first | assumption | exact Nat.succ_ne_zero _ | exact Nat.ne_of_gt (Nat.lt_of_lt_of_le h0 (by assumption)) | omega
    | false =>
      k_steps
      refine Stop.to ?_
      refine truediv_float_or rfl (fun hz => absurd (show Float64.isZero f6 = true from hz) (by decide +kernel)) (fun _ => ?_)
      k_steps
      refine Stop.to ?_
      refine modF (by decide +kernel) (fun ta hta => ?_)
      have hlo : s.toks ≤ ta := by first | (rw [hta]; assumption) | (rw [hta]; dsimp only; omega)
      clear hta
      k_with "execs cons" => (first | (refine gen_toks (ta + 1) (show ta + 1 ≤ _ + _ by (try dsimp only); first | ((repeat (first | exact Nat.le_refl _ | assumption | refine Nat.le_succ_of_le ?_)); done) | omega) ?_; intro tk htk) | (refine gen_toksP (ta + 1) (by (try dsimp only); first | ((repeat (first | exact Nat.le_refl _ | assumption | refine Nat.le_succ_of_le ?_)); done) | omega) ?_; intro tk htk))
      k_with "execs nil" => (first | (refine gen_toks (ta + 1) (show ta + 1 ≤ _ + _ by (try dsimp only); first | ((repeat (first | exact Nat.le_refl _ | assumption | refine Nat.le_succ_of_le ?_)); done) | omega) ?_; intro tk htk) | (refine gen_toksP (ta + 1) (by (try dsimp only); first | ((repeat (first | exact Nat.le_refl _ | assumption | refine Nat.le_succ_of_le ?_)); done) | omega) ?_; intro tk htk))
      k_steps
      rename Fr h₀ L _ _ => kF
      rename News h₀ L _ _ => kN
      rename (∀ p ∈ news, p.1 < _) => l1
      have hu9 := hu0_c (r := r) (g := g) (b := b) he he2
      unfold hueF at ret
      rw [hu9] at ret
      refine ret _ _ _ _ _ _ ?_ ?_ ?_ hlo ?_ kF kN l1 <;> first | assumption | exact Nat.succ_ne_zero _ | exact Nat.ne_of_gt (Nat.lt_of_lt_of_le h0 (by assumption)) | omega
end Mine
end

-- Tc
section
open PySem PySem.W PyProof.Rows
set_option linter.unusedVariables false
namespace Mine
section
variable {prog : Program} {w : World} {A : Around} {E : Value → Shared → Prop} {s : Shared}
theorem eqBool_fne {x y : UInt64} {t u : Tok} {Q : Bool → Shared → Prop} (hxy : (x == y) = false) (ht : t ≠ 0) (hu : u ≠ 0) (htu : t ≠ u) (hc : (Float64.cmp x y == some .eq) = false) (h : Q false s) :
    wpAny (model prog w) A (eqBool (.float x t) (.float y u)) Q E s := by
  unfold eqBool
  try with_reducible refine wpAny_holding ?_
  show wpAny _ _ (if (Value.float x t == Value.float y u) = true then _ else _) Q E s
  have hab : ¬ (Value.float x t == Value.float y u) = true := by
    intro e
    have := eq_of_beq e
    injection this with e1 e2
    exact htu e2
  rw [if_neg hab]
  refine wpAny_bind ?_
  refine wpAny_of_eq (show isSame (.float x t) (.float y u) = pure false from ?_) ?_
  · show isSame.created (x == y && !Float64.isNaN x) t u = pure false
    unfold isSame.created
    rw [if_neg (by simp [ht, hu]), if_neg (by simpa using htu), if_pos (by simp [hxy])]
  · simp only [Bool.false_eq_true, if_false]
    refine wpAny_bind (richCompare_gives (op := .Eq) (typeIs_float s x t) (typeIs_float s y u) F.slot_float_eq F.entry_float_eq (F.args_float_eq_2 _ _) (AutoFloatG5.float___eq___float_float_0 x t y u) (fun x => nomatch x) ?_)
    show wpAny _ _ (truthOfDropped (.bool (Float64.cmp x y == some .eq))) _ _ _
    rw [hc]
    exact wpAny_truthy_bool h
theorem eqBool_feq {x : UInt64} {t u : Tok} {Q : Bool → Shared → Prop} (ht : t ≠ 0) (hu : u ≠ 0) (hb : NoneBooked s.heap) (hn : Float64.isNaN x = false) (hc : (Float64.cmp x x == some .eq) = true) (h : Q true s) :
    wpAny (model prog w) A (eqBool (.float x t) (.float x u)) Q E s := by
  unfold eqBool
  try with_reducible refine wpAny_holding ?_
  show wpAny _ _ (if (Value.float x t == Value.float x u) = true then _ else _) Q E s
  by_cases hab : (Value.float x t == Value.float x u) = true
  · rw [if_pos hab]
    exact wpAny_bind (wpAny_rule (wpAny_pure h))
  · rw [if_neg hab]
    have htu : t ≠ u := by
      rintro rfl
      exact hab (by simp)
    have fin : wpAny (model prog w) A (richCompare .Eq (.float x t) (.float x u) >>= fun r => truthOfDropped r) Q E s := by
      refine wpAny_bind (richCompare_gives (op := .Eq) (typeIs_float s x t) (typeIs_float s x u) F.slot_float_eq F.entry_float_eq (F.args_float_eq_2 _ _) (AutoFloatG5.float___eq___float_float_0 x t x u) (fun x => nomatch x) ?_)
      show wpAny _ _ (truthOfDropped (.bool (Float64.cmp x x == some .eq))) _ _ _
      rw [hc]
      exact wpAny_truthy_bool h
    refine wpAny_bind ?_
    show wpAny _ _ (isSame.created (x == x && !Float64.isNaN x) t u) _ _ _
    unfold isSame.created
    rw [if_neg (by simp [ht, hu]), if_neg (by simpa using htu), if_neg (by simp [hn])]
    refine wpAny_bind (wpAny_sharingNotTold_none hb ?_)
    rw [if_neg Bool.false_ne_true]
    refine wpAny_bind (wpAny_sharingNotTold_none hb ?_)
    rw [if_neg Bool.false_ne_true]
    refine wpAny_bind (wpAny_rule (wpAny_bind (wpAny_askSetting (wpAny_pure ?_))))
    split
    · exact wpAny_pure h
    · exact fin
theorem tupLt_tree {x y : UInt64} {t u : Tok} {a b : Addr} {r1 r2 : List Value} {oa ob : Obj} {na nb : Nat} {P : Fin → Shared → Prop} (ha : s.heap.get? a = some oa) (hb : s.heap.get? b = some ob)
    (hTb : s.TypeIs (.ref b) "tuple") (hda : oa.data = .seq (.float x t :: r1).toArray na) (hdb : ob.data = .seq (.float y u :: r2).toArray nb)
    (hxy : (x == y) = false) (ht : t ≠ 0) (hu : u ≠ 0) (htu : t ≠ u) (hc : (Float64.cmp x y == some .eq) = false) (h : P (.done (.ret (.bool (Float64.cmp x y == some .lt)))) s) :
    wpAny (model prog w) A (Builtin.«tuple.__lt__» ⟨[.ref a, .ref b], []⟩) P E s := by
  show wpAny _ _ (isInstance (.ref b) (.type "tuple") >>= _) _ _ s
  refine wpAny_bind (wpAny_isInstance hTb isSubtype_tuple_tuple ?_)
  simp only [Bool.not_true, Bool.false_eq_true, if_false]
  refine wpAny_bind (wpAny_tupleItemsOf ha hda ?_)
  refine wpAny_bind (wpAny_tupleItemsOf hb hdb ?_)
  refine wpAny_bind ?_
  simp only [List.toList_toArray, List.zip_cons_cons, List.forIn_cons]
  refine wpAny_bind (wpAny_bind (eqBool_fne hxy ht hu htu hc ?_))
  simp only [Bool.not_false, if_true]
  refine wpAny_bind (wpAny_rule (wpAny_bind ?_))
  refine richCompare_gives (op := .Lt) (typeIs_float s x t) (typeIs_float s y u) F.slot_float_lt F.entry_float_lt (F.args_float_lt_2 _ _) (AutoFloatG5.float___lt___float_float_0 x t y u) (fun x => nomatch x) ?_
  exact wpAny_pure (wpAny_pure (wpAny_pure h))
theorem tupLt {x y : UInt64} {t u : Tok} {a b : Addr} {r1 r2 : List Value} {oa ob : Obj} {na nb : Nat} {Q : Value → Shared → Prop} (ha : s.heap.get? a = some oa) (hb : s.heap.get? b = some ob)
    (hca : oa.cls = .type "tuple") (hcb : ob.cls = .type "tuple") (hda : oa.data = .seq (.float x t :: r1).toArray na) (hdb : ob.data = .seq (.float y u :: r2).toArray nb) (hun : A.units < cLine)
    (hxy : (x == y) = false) (ht : t ≠ 0) (hu : u ≠ 0) (htu : t ≠ u) (hc : (Float64.cmp x y == some .eq) = false) (h : Q (.bool (Float64.cmp x y == some .lt)) s) :
    wpAny (model prog w) A (compareOp .Lt (.ref a) (.ref b)) Q E s := by
  have hTa : s.TypeIs (.ref a) "tuple" := ⟨_, ha, hca⟩
  have hTb : s.TypeIs (.ref b) "tuple" := ⟨_, hb, hcb⟩
  show wpAny _ _ (richCompare .Lt (.ref a) (.ref b)) _ _ _
  exact wpAny_richCompare_same_room (op := .Lt) hTa hTb F.slot_tuple_lt
      (wpAny_call_entry F.slot_tuple_lt hTa F.entry_tuple_lt (tupLt_tree ha hb hTb hda hdb hxy ht hu htu hc ⟨_, rfl, (fun e => nomatch e), h⟩) (F.args_tuple_lt_2 _ _)) hun
end
end Mine
end

-- Te
section
open PySem PySem.W PyProof.Rows PySem.SeqAt
set_option linter.unusedVariables false
namespace Mine
/-- a float that is its own equal -/
noncomputable def Self (x : UInt64) : Prop := Float64.isNaN x = false ∧ (Float64.cmp x x == some .eq) = true
/-- v is a tuple of three floats in the heap h -/
noncomputable def HueAt (h : Heap) (v : Value) (x y z : UInt64) (n : Nat) : Prop := ∃ a t1 t2 t3, v = .ref a ∧ h.get? a = some (tup [.float x t1, .float y t2, .float z t3]) ∧ t1 ≠ 0 ∧ t2 ≠ 0 ∧ t3 ≠ 0 ∧ t1 < n
section
variable {prog : Program} {w : World} {A : Around} {E : Value → Shared → Prop} {s : Shared}
theorem eqAt_self {x : UInt64} {t u : Tok} (ht : t ≠ 0) (hu : u ≠ 0) (hb : NoneBooked s.heap) (hx : Self x) : EqAt A s (.float x t) (.float x u) true :=
  fun prog w E Q hq => eqBool_feq ht hu hb hx.1 hx.2 hq
theorem eqAt_hue {v u : Value} {x y z : UInt64} {n m : Nat} (hb : NoneBooked s.heap) (hv : HueAt s.heap v x y z n) (hw : HueAt s.heap u x y z m) (hun : A.units < cLine) (hx : Self x) (hy : Self y) (hz : Self z) : EqAt A s v u true := by
  obtain ⟨a, t1, t2, t3, rfl, ga, k1, k2, k3, _⟩ := hv
  obtain ⟨b, u1, u2, u3, rfl, gb, l1, l2, l3, _⟩ := hw
  by_cases hab : a = b
  · subst hab
    exact EqAt.same _
  · have := RcAt.tuples (A := A) (s := s) (l := a) (b := b) (items := #[.float x t1, .float y t2, .float z t3]) (items2 := #[.float x u1, .float y u2, .float z u3]) (e := fun _ => true)
      ⟨_, ga, rfl, 0, rfl⟩ ⟨_, gb, rfl, 0, rfl⟩ hun (fun j h1 h2 => by
        have h1' : j < 3 := h1
        rcases j with _ | _ | _ | j
        · exact eqAt_self k1 l1 hb hx
        · exact eqAt_self k2 l2 hb hy
        · exact eqAt_self k3 l3 hb hz
        · exact absurd (Nat.lt_of_add_lt_add_right (show j + 3 < 0 + 3 from h1')) (Nat.not_lt_zero j))
    exact EqAt.of_refs hab this
theorem rows_ne {l b : Addr} {vs us : List Value} {hs : List UInt64} {y z : UInt64} {n m : Nat} {Q : Value → Shared → Prop} (hb : NoneBooked s.heap) (hl : s.heap.IsList l vs.toArray) (hm : s.heap.IsList b us.toArray) (hvl : vs.length = hs.length) (hul : us.length = hs.length)
    (hv : ∀ (j : Nat) (v : Value) (x : UInt64), vs[j]? = some v → hs[j]? = some x → HueAt s.heap v x y z n) (hw : ∀ (j : Nat) (v : Value) (x : UInt64), us[j]? = some v → hs[j]? = some x → HueAt s.heap v x y z m)
    (hun : A.units + 8 < cLine) (hx : ∀ x ∈ hs, Self x) (hy : Self y) (hz : Self z) (h : Q (.bool false) s) : wpAny (model prog w) A (compareOp .NotEq (.ref l) (.ref b)) Q E s := by
  show wpAny _ _ (richCompare .NotEq (.ref l) (.ref b)) _ _ _
  refine RcNeAt.lists (e := fun _ => true) hl hm (by simp [hvl, hul]) (by omega) (fun j h1 h2 => ?_) prog w E Q ?_
  · have j1 : j < vs.length := by simpa using h1
    have j2 : j < us.length := by simpa using h2
    have j3 : j < hs.length := hvl ▸ j1
    refine eqAt_hue hb (hv j _ _ (by simp [j1]) (List.getElem?_eq_getElem j3)) (hw j _ _ (by simp [j2]) (List.getElem?_eq_getElem j3)) ?_ (hx _ (List.getElem_mem j3)) hy hz
    show A.units + 1 < cLine
    omega
  · have e : (List.range vs.toArray.size).all (fun _ => true) = true := by simp
    rw [e]
    exact h
end
end Mine
end

-- Cm
section
open PySem PySem.W PyProof.Rows
set_option linter.unusedVariables false
namespace Mine
theorem cmpLt_ints {w : World} {news : List (Addr × Obj)} {x : Int} {tx : Tok} {vs : List Value} {ns : List Int} {k : Nat} (hi : IntsAre vs ns) (hk : ∀ (i : Nat) (n : Int), ns[i]? = some n → decide (x < n) = decide (k ≤ i)) :
    CmpLt w news (.int x tx) vs k := by
  intro i v A Q E s' hv _ _ hQ
  have hl : i < ns.length := by
    rw [← hi.length]
    exact (List.getElem?_eq_some_iff.mp hv).1
  obtain ⟨tv, e⟩ := hi.get i (ns[i]) (List.getElem?_eq_getElem hl)
  rw [e] at hv
  cases hv
  refine compareOp_gives (op := .Lt) (typeIs_int s' _ tx) (typeIs_int s' _ tv) F.slot_int_lt F.entry_int_lt (F.args_int_lt_2 _ _) (gives_int_lt _ _ tx tv) (fun x => nomatch x) ?_
  show Q (.bool (decide (x < ns[i]))) s'
  rw [hk i _ (List.getElem?_eq_getElem hl)]
  exact hQ s'.toks
/-- v is a tuple of three floats of the ledger, its first float's token between n and m -/
noncomputable def HueIn (news : List (Addr × Obj)) (v : Value) (x y z : UInt64) (n m : Nat) : Prop := ∃ a t1 t2 t3, v = .ref a ∧ (a, tup [.float x t1, .float y t2, .float z t3]) ∈ news ∧ t1 ≠ 0 ∧ t2 ≠ 0 ∧ t3 ≠ 0 ∧ n ≤ t1 ∧ t1 < m
theorem HueIn.at {h₀ h : Heap} {L : Addr} {news : List (Addr × Obj)} {v : Value} {x y z : UInt64} {n m : Nat} (N : News h₀ L h news) (H : HueIn news v x y z n m) : HueAt h v x y z m := by
  obtain ⟨a, t1, t2, t3, rfl, hm, k1, k2, k3, _, k5⟩ := H
  exact ⟨a, t1, t2, t3, rfl, (N _ hm).1, k1, k2, k3, k5⟩
theorem HueIn.mono {news news' : List (Addr × Obj)} {v : Value} {x y z : UInt64} {n m m' : Nat} (H : HueIn news v x y z n m) (hs : ∀ p ∈ news, p ∈ news') (hm : m ≤ m') : HueIn news' v x y z n m' := by
  obtain ⟨a, t1, t2, t3, rfl, h1, k1, k2, k3, k4, k5⟩ := H
  exact ⟨a, t1, t2, t3, rfl, hs _ h1, k1, k2, k3, k4, Nat.lt_of_lt_of_le k5 hm⟩
theorem cmpLt_hues {w : World} {news : List (Addr × Obj)} {xv : Value} {x y z : UInt64} {vs : List Value} {hs : List UInt64} {n m : Nat} {k : Nat} (hx : HueIn news xv x y z n m) (hvl : vs.length = hs.length)
    (hv : ∀ (j : Nat) (v : Value) (c : UInt64), vs[j]? = some v → hs[j]? = some c → HueIn news v c y z 1 n)
    (hk : ∀ (i : Nat) (c : UInt64), hs[i]? = some c → (x == c) = false ∧ (Float64.cmp x c == some .eq) = false ∧ (Float64.cmp x c == some .lt) = decide (k ≤ i)) :
    CmpLt w news xv vs k := by
  intro i v A Q E s' hvi hnews hun hQ
  have hl : i < hs.length := by
    rw [← hvl]
    exact (List.getElem?_eq_some_iff.mp hvi).1
  obtain ⟨e1, e2, e3⟩ := hk i _ (List.getElem?_eq_getElem hl)
  obtain ⟨b, u1, u2, u3, rfl, hb, l1, l2, l3, l4, l5⟩ := hv i v _ hvi (List.getElem?_eq_getElem hl)
  obtain ⟨a, t1, t2, t3, rfl, ha, k1, k2, k3, k4, k5⟩ := hx
  refine tupLt (hnews _ ha) (hnews _ hb) rfl rfl rfl rfl (by omega) e1 k1 l1 (fun e => ?_) e2 ?_
  · rw [e] at k4
    exact absurd l5 (Nat.not_lt.mpr k4)
  · rw [e3]
    exact hQ s'.toks
end Mine
end

-- C11
section
open PySem PySem.W PyProof.Rows
set_option Elab.async false
set_option linter.unusedVariables false
example : PySem.Challenge.rw_sr0038_01 = PySem.Challenge.rw_sr0038_01 ∧ Mine.hd.heap_39 = Mine.hd.heap_39 := by
  k_fill
  exact ⟨rfl, rfl⟩

namespace Mine
/-- the first empty hue -/
noncomputable def lowN (t : Nat) : Nat := ((List.range 16).find? (fun j => t / 2 ^ j % 2 != 1)).getD 16
noncomputable def maskAt (ms : List Nat) (t p : Nat) : Nat := ms.getD ((lowN t + 16 - p) % 16) 0
noncomputable def waysF : Nat → List Nat → List Nat → Nat → Nat
  | 0, _, _, t => if t = 65535 then 1 else 0
  | n + 1, ms, ps, t => if t = 65535 then 1 else ps.foldl (fun acc p => if t &&& maskAt ms t p = 0 then acc + waysF n ms ps (t + maskAt ms t p) else acc) 0
noncomputable def lowOk (t : Nat) : Bool := decide (lowN t < 16) && (t / 2 ^ lowN t % 2 != 1) && (List.range (lowN t)).all (fun j => t / 2 ^ j % 2 == 1)
noncomputable def waysOk : Nat → List Nat → List Nat → Nat → Bool
  | 0, _, _, t => t == 65535
  | n + 1, ms, ps, t => t == 65535 || (decide (t < 65535) && lowOk t && ps.all (fun p => decide (p < 16) && decide (maskAt ms t p < 65536) && (t &&& maskAt ms t p != 0 || waysOk n ms ps (t + maskAt ms t p))))
theorem waysOk_un {n : Nat} {ms ps : List Nat} {t : Nat} (h : waysOk (n + 1) ms ps t = true) (ht : t ≠ 65535) :
    t < 65535 ∧ lowN t < 16 ∧ t / 2 ^ lowN t % 2 ≠ 1 ∧ (∀ j < lowN t, t / 2 ^ j % 2 = 1) ∧ ∀ p ∈ ps, p < 16 ∧ maskAt ms t p < 65536 ∧ (t &&& maskAt ms t p = 0 → waysOk n ms ps (t + maskAt ms t p) = true) := by
  unfold waysOk at h
  simp only [Bool.or_eq_true, Bool.and_eq_true, beq_iff_eq, decide_eq_true_eq, List.all_eq_true, lowOk, bne_iff_ne, ne_eq, List.mem_range] at h
  rcases h with h | ⟨⟨h1, ⟨h2, h3⟩, h4⟩, h5⟩
  · exact absurd h ht
  · refine ⟨h1, h2, h3, h4, fun p hp => ?_⟩
    obtain ⟨⟨q1, q2⟩, q3⟩ := h5 p hp
    exact ⟨q1, q2, fun h => q3.resolve_left (fun hn => hn h)⟩
theorem bit_int (t j : Nat) : Int.fmod (Int.fdiv (t : Int) (2 ^ ((j : Nat) : Int).toNat)) 2 = ((t / 2 ^ j % 2 : Nat) : Int) := by
  rw [Int.toNat_natCast, Int.fdiv_eq_ediv_of_nonneg _ (Int.pow_nonneg (by decide)), Int.fmod_eq_emod_of_nonneg _ (by decide)]
  simp
theorem pow_ne (j : Nat) : ((2 : Int) ^ ((j : Nat) : Int).toNat) ≠ 0 := Int.pow_ne_zero (by decide)
theorem upd5 {m : Str → Option Value} {x a b c d e : Str} {v va vb vc vd ve : Value} (ha : m a = some va) (hb : m b = some vb) (hc : m c = some vc) (hd : m d = some vd) (he : m e = some ve) :
    (fun y => if y = x then some v else m y) = fun y => if y = x then some v else if y = a then some va else if y = b then some vb else if y = c then some vc else if y = d then some vd else if y = e then some ve else m y := by
  funext y
  by_cases h0 : y = x
  · rw [if_pos h0, if_pos h0]
  rw [if_neg h0, if_neg h0]
  by_cases h1 : y = a
  · rw [if_pos h1, h1, ha]
  rw [if_neg h1]
  by_cases h2 : y = b
  · rw [if_pos h2, h2, hb]
  rw [if_neg h2]
  by_cases h3 : y = c
  · rw [if_pos h3, h3, hc]
  rw [if_neg h3]
  by_cases h4 : y = d
  · rw [if_pos h4, h4, hd]
  rw [if_neg h4]
  by_cases h5 : y = e
  · rw [if_pos h5, h5, he]
  rw [if_neg h5]
noncomputable def wayStep (n : Nat) (ms ps : List Nat) (t : Nat) (acc : Int) (p : Nat) : Int := if t &&& maskAt ms t p = 0 then acc + waysF n ms ps (t + maskAt ms t p) else acc
theorem waysF_un {n : Nat} {ms ps : List Nat} {t : Nat} (ht : t ≠ 65535) : ((waysF (n + 1) ms ps t : Nat) : Int) = ps.foldl (wayStep n ms ps t) 0 := by
  unfold waysF
  rw [if_neg ht]
  have key : ∀ (l : List Nat) (acc : Nat), ((l.foldl (fun acc p => if t &&& maskAt ms t p = 0 then acc + waysF n ms ps (t + maskAt ms t p) else acc) acc : Nat) : Int) = l.foldl (wayStep n ms ps t) (acc : Int) := by
    intro l
    induction l with
    | nil => intro acc; rfl
    | cons p l ih =>
      intro acc
      rw [List.foldl_cons, List.foldl_cons, ih]
      congr 1
      unfold wayStep
      split
      · exact Int.natCast_add _ _
      · rfl
  exact key ps 0
theorem maskIxN : ∀ (j : Nat), j < 16 → ∀ (p : Nat), p < 16 → (((j : Int) - (p : Int)) % 16).toNat = (j + 16 - p) % 16 := by decide +kernel
theorem maskIx {t p j : Nat} (hj : j = lowN t) (hl : lowN t < 16) (hp : p < 16) : (Int.fmod ((j : Int) - (p : Int)) 16).toNat = (lowN t + 16 - p) % 16 := by
  rw [Int.fmod_eq_emod_of_nonneg _ (by decide), hj]
  exact maskIxN _ hl _ hp
theorem bitAnd_nat (a b : Nat) : Builtin.bitAnd (a : Int) (b : Int) = ((a &&& b : Nat) : Int) := by
  rw [bitAnd_pp (Int.natCast_nonneg _) (Int.natCast_nonneg _), Int.toNat_natCast, Int.toNat_natCast]
set_option genSizeOf false in
set_option genInjectivity false in
structure WsS where
  a : Int
  ta : Tok
example : True := by
  k_with_none
  trivial
set_option maxRecDepth 100000 in
set_option maxHeartbeats 8000000 in
theorem ways1 {w : World} {mean mg mb} {Mk P : Addr} {dp un gd cn cs a ccd cl outer A₀ base h₀ L m s} {Q E : Value → Shared → Prop} {tt : Tok} {news}
   (B : Below A₀ base outer h₀) (F : Fr h₀ L s.heap m) (X : (hd.heap_39 w.params).In h₀) (N : News h₀ L s.heap news) (T : Top hd.view_39 lo mean mg mb h₀) (hk : cs.kind = .function)
   (hdp : dp + 2 < recursionLimit) (hu : un + 90 < cLine)
   (ret : ∀ t' h' tk', Fr h₀ L h' m → News h₀ L h' news → Q (.int 1 t') {s with heap := h', toks := tk'}) :
   wpAny (model PySem.Challenge.rw_sr0038_01.row.prog w) (ktrTop dp un gd cn cs L a ccd cl outer) (call (.ref 130) [.ref Mk, .ref P, .int 65535 tt]) Q E s := by
  refine wpAny_call ?_
  k_dflt (refine' code_def ?k1 ?k2 ?k3 ?k4 ?k5 ?kA ?kF ?kK ?k6 ?k7 ?k8 ?k9 ?kB ?_ ?c2 ?c3 ?c4 ?c5; (case kA => exact rfl); (case kF => exact rfl); (case kK => assumption); (case k1 => k_asm); (case k2 => k_asm); (case k3 => k_asm); (case k4 => k_asm); (case k5 => k_asm); (case k6 => k_is); (case k7 => k_is); (case k8 => exact Nat.lt_of_le_of_lt (Nat.le_add_right dp _) hdp); (case k9 => (refine' kp_binds ?kx ?ke; (case kx => k_in); (case ke => exact fun _ => rfl))); (case c5 => decide); (case kB => exact locs rfl); (case c2 => exact rfl); (case c3 => exact rfl); (case c4 => exact rfl); k_whole; intro g' L' h' FG' F' N' B' X' T'; (try dsimp only); (try k_lift B'); (try k_fold))
  k_steps
  exact ret _ _ _ (by assumption) (by assumption)
example : True := by
  k_with_none
  trivial
set_option maxRecDepth 100000 in
set_option maxHeartbeats 8000000 in
theorem ways {w : World} {mean mg mb} {msv psv : List Value} {ms ps : List Nat} {Mk P : Addr} {km kp : Nat} (hms : IntsAre msv (ms.map Int.ofNat)) (hps : IntsAre psv (ps.map Int.ofNat)) (hml : ms.length = 16) (hpl : ps.length = 4) : ∀ (n : Nat) {dp un gd cn cs a ccd cl outer A₀ base h₀ L m s} {Q E : Value → Shared → Prop} {t : Nat} {tt : Tok} {news}
   (B : Below A₀ base outer h₀) (F : Fr h₀ L s.heap m) (X : (hd.heap_39 w.params).In h₀) (N : News h₀ L s.heap ((Mk, listOf msv.toArray km) :: (P, listOf psv.toArray kp) :: news)) (T : Top hd.view_39 lo mean mg mb h₀) (hk : cs.kind = .function)
   (hdp : dp + n + 2 < recursionLimit) (hu : un + 8 * n + 90 < cLine) (hok : waysOk n ms ps t = true)
   (ret : ∀ t' h' tk', Fr h₀ L h' m → News h₀ L h' ((Mk, listOf msv.toArray km) :: (P, listOf psv.toArray kp) :: news) → Q (.int (waysF n ms ps t) t') {s with heap := h', toks := tk'}),
   wpAny (model PySem.Challenge.rw_sr0038_01.row.prog w) (ktrTop dp un gd cn cs L a ccd cl outer) (call (.ref 130) [.ref Mk, .ref P, .int t tt]) Q E s := by
  intro n
  induction n with
  | zero =>
    intro dp un gd cn cs a ccd cl outer A₀ base h₀ L m s Q E t tt news B F X N T hk hdp hu hok ret
    have ht : t = 65535 := by simpa [waysOk] using hok
    subst ht
    exact ways1 B F X N T hk (show dp + 2 < recursionLimit from hdp) (show un + 90 < cLine from hu) (fun t' h' tk' F' N' => ret t' h' tk' F' N')
  | succ n ih =>
  intro dp un gd cn cs a ccd cl outer A₀ base h₀ L m s Q E t tt news B F X N T hk hdp hu hok ret
  by_cases h65 : t = 65535
  · subst h65
    have e : waysF (n + 1) ms ps 65535 = 1 := by
      unfold waysF
      rfl
    rw [e] at ret
    exact ways1 B F X N T hk (Nat.lt_of_le_of_lt (Nat.add_le_add_right (Nat.le_add_right dp (n + 1)) 2) hdp) (Nat.lt_of_le_of_lt (Nat.add_le_add_right (Nat.le_add_right un _) 90) hu) (fun t' h' tk' F' N' => ret t' h' tk' F' N')
  have h65' : ¬ ((t : Int) = 65535) := fun e => h65 (Int.ofNat_inj.mp e)
  refine hideG fun GG hGG => ?_
  obtain ⟨ht5, hlow, hb0, hb1, hall⟩ := waysOk_un hok h65
  refine hGG ?_
  clear hGG GG
  have h66 : ((t : Int) == 65535) = false := by simpa using h65'
  have hun := waysF_un (n := n) (ms := ms) (ps := ps) h65
  clear h65
  refine wpAny_call ?_
  k_dflt (refine' code_def ?k1 ?k2 ?k3 ?k4 ?k5 ?kA ?kF ?kK ?k6 ?k7 ?k8 ?k9 ?kB ?_ ?c2 ?c3 ?c4 ?c5; (case kA => exact rfl); (case kF => exact rfl); (case kK => assumption); (case k1 => k_asm); (case k2 => k_asm); (case k3 => k_asm); (case k4 => k_asm); (case k5 => k_asm); (case k6 => k_is); (case k7 => k_is); (case k8 => exact Nat.lt_of_le_of_lt (Nat.le_trans (Nat.le_add_right dp _) (Nat.le_add_right _ _)) hdp); (case k9 => (refine' kp_binds ?kx ?ke; (case kx => k_in); (case ke => exact fun _ => rfl))); (case c5 => decide); (case kB => exact locs rfl); (case c2 => exact rfl); (case c3 => exact rfl); (case c4 => exact rfl); k_whole; intro g' L' h' FG' F' N' B' X' T'; (try dsimp only); (try k_lift B'); (try k_fold))
  k_with "exec While Compare cons nil" => refine Stop.mk ?_
  k_with "exec For Name Name cons nil" => refine Stop.mk ?_
  k_steps
  refine Stop.to ?_
  rename Fr g' L' _ _ => F1
  rename News g' L' _ _ => N1
  refine' ksw_while (σ := WsS) (fun _ => (Mk, listOf msv.toArray km) :: (P, listOf psv.toArray kp) :: news) (fun c => [(Str.ofString "at", .int c.a c.ta)]) (fun _ => True) [] (fun c => ∃ j : Nat, c.a = j ∧ j ≤ lowN t) (fun c => lowN t - c.a.toNat) ⟨0, ?tl⟩ F1 N1 trivial (List.forall_mem_cons.mpr ⟨rfl, List.forall_mem_nil _⟩) ⟨0, rfl, Nat.zero_le _⟩ ?_
  clear F1 N1
  rintro ⟨a, ta⟩ u h1 tk1 _ ⟨j, ha, hj⟩ F1 N1
  dsimp only at ha hj F1 N1
  subst ha
  have hj16 : (j : Int) ≤ 1000000 := Int.ofNat_le.mpr (Nat.le_trans (Nat.le_of_lt (Nat.lt_of_le_of_lt hj hlow)) (by decide))
  have hj0 : 0 ≤ (j : Int) := Int.natCast_nonneg j
  have hj9 : (j : Int) < 9000 := Int.ofNat_lt.mpr (Nat.lt_trans (Nat.lt_of_le_of_lt hj hlow) (by decide))
  have hne := pow_ne j
  k_steps
  · have hq : Int.fmod (Int.fdiv (t : Int) (2 ^ ((j : Nat) : Int).toNat)) 2 = 1 := by assumption
    rw [bit_int] at hq
    have hjl : j < lowN t := by
      rcases Nat.lt_or_ge j (lowN t) with h | h
      · exact h
      · exfalso
        have e : j = lowN t := Nat.le_antisymm hj h
        rw [e] at hq
        exact hb0 (by exact_mod_cast hq)
    refine ksw_end ⟨(j : Int) + 1, _⟩ (by assumption) (by assumption) (by exact fun _ h => h) trivial (by exact List.forall_mem_cons.mpr ⟨rfl, List.forall_mem_nil _⟩) (by intro z h2 h3; have a := h2 _ (.head _); dsimp only at a; simp only [kstB, if_neg a, h3, Bool.false_eq_true, if_false]) ?_ ?_
    · exact ⟨j + 1, by simp, hjl⟩
    · dsimp only
      exact Nat.sub_lt_sub_left hjl (Nat.lt_succ_self j)
  · have hq : Int.fmod (Int.fdiv (t : Int) (2 ^ ((j : Nat) : Int).toNat)) 2 ≠ 1 := by assumption
    rw [bit_int] at hq
    have hjl : j = lowN t := by
      rcases Nat.lt_or_ge j (lowN t) with h | h
      · exact absurd (congrArg Int.ofNat (hb1 j h)) hq
      · exact Nat.le_antisymm hj h
    clear hq hb1 hb0
    refine Stop.to ?_
    rename Fr g' L' _ _ => F1
    rename News g' L' _ _ => N1
    refine For_my0 (fun i m₁ g₁ led => g₁ = g' ∧ led = (Mk, listOf msv.toArray km) :: (P, listOf psv.toArray kp) :: news ∧ (∃ tw, m₁ (Str.ofString "ways") = some (.int ((ps.take i).foldl (wayStep n ms ps t) 0) tw)) ∧ m₁ (Str.ofString "masks") = some (.ref Mk) ∧ m₁ (Str.ofString "places") = some (.ref P) ∧
      m₁ (Str.ofString "taken") = some (.int t tt) ∧ m₁ (Str.ofString "at") = some (.int j ta)) F1 N1 rfl rfl rfl (fun Q' hQ' => ?_) (.tail _ (.head _)) ⟨rfl, rfl, ⟨_, rfl⟩, rfl, rfl, rfl, rfl⟩ ?_ ?_
    · k_steps
      exact hQ'
    · intro i v m₁ g₁ led h tk I io hv hPT hPl off hio F3 N3
      refine hideG fun GG hGG => ?_
      obtain ⟨rfl, rfl, ⟨tw, hw⟩, hm, hp, ht, ha⟩ := hPT
      refine hGG ?_
      clear hGG GG
      clear F1 N1
      have hi : i < ps.length := by
        have := (List.getElem?_eq_some_iff.mp hv).1
        rw [hps.length, List.length_map] at this
        exact this
      obtain ⟨tp, e⟩ := hps.get i (ps[i] : Int) (by rw [List.getElem?_map, List.getElem?_eq_getElem hi]; rfl)
      rw [e] at hv
      cases hv
      obtain ⟨q1, q2, q3⟩ := hall ps[i] (List.getElem_mem hi)
      rw [upd5 hw hm hp ht ha] at F3
      generalize hp0 : ps[i] = p at *
      have e2 : (ps.take (i + 1)).foldl (wayStep n ms ps t) 0 = wayStep n ms ps t ((ps.take i).foldl (wayStep n ms ps t) 0) p := by
        rw [List.take_add_one, List.getElem?_eq_getElem hi, hp0, List.foldl_append]
        rfl
      k_with "subscriptTail Name BinOp ref int" => refine Stop.mk ?_
      k_with "call ref" => refine Stop.mk ?_
      k_steps
      refine Stop.to ?_
      obtain ⟨tm, em⟩ := hms.get ((lowN t + 16 - p) % 16) (maskAt ms t p : Int) (by
        rw [List.getElem?_map, List.getElem?_eq_getElem (show (lowN t + 16 - p) % 16 < ms.length by rw [hml]; exact Nat.mod_lt _ (by decide))]
        unfold maskAt
        rw [List.getD_eq_getElem?_getD, List.getElem?_eq_getElem (show (lowN t + 16 - p) % 16 < ms.length by rw [hml]; exact Nat.mod_lt _ (by decide))]
        rfl)
      have hix := maskIx hjl hlow q1
      have hix0 : 0 ≤ Int.fmod ((j : Int) - (p : Int)) 16 ∧ Int.fmod ((j : Int) - (p : Int)) 16 < 16 := by
        rw [Int.fmod_eq_emod_of_nonneg _ (by decide)]
        exact ⟨Int.emod_nonneg _ (by decide), Int.emod_lt_of_pos _ (by decide)⟩
      refine item_list (items := msv.toArray) (by is_list) hix0.1 (Int.lt_trans hix0.2 (by decide)) (by rw [hix]; simpa using em) ?_
      clear em hix hix0
      generalize hmk : maskAt ms t p = mk at *
      k_steps
      · refine Stop.to ?_
        have hz : Builtin.bitAnd (t : Int) (mk : Int) = 0 := by assumption
        rw [bitAnd_nat] at hz
        have hz' : t &&& mk = 0 := by exact_mod_cast hz
        rename Fr g₁ _ _ _ => F4
        rename News g₁ _ _ _ => N4
        rw [(Int.natCast_add t mk).symm]
        have N5 : News g₁ L' _ ((Mk, listOf msv.toArray km) :: (P, listOf psv.toArray kp) :: (I, io) :: news) := News.sub N4 (fun q hq => by
          rcases List.mem_cons.mp hq with rfl | hq
          · exact .tail _ (.head _)
          · rcases List.mem_cons.mp hq with rfl | hq
            · exact .tail _ (.tail _ (.head _))
            · rcases List.mem_cons.mp hq with rfl | hq
              · exact .head _
              · exact .tail _ (.tail _ (.tail _ hq)))
        clear N4
        refine ih B' F4 X' N5 T' rfl (show dp + 1 + n + 2 < recursionLimit by rw [Nat.add_assoc dp 1 n, Nat.add_comm 1 n]; exact hdp) (show un + 3 + 8 * n + 90 < cLine by omega) (q3 hz') (fun t5 h5 tk5 F5 N6 => ?_)
        clear F4 N5
        dsimp only
        k_steps
        rename Fr g₁ _ _ _ => F7
        rename News g₁ _ _ _ => N7
        refine ⟨_, _, _, g₁, (Mk, listOf msv.toArray km) :: (P, listOf psv.toArray kp) :: news, rfl, F7, News.sub N7 (fun q hq => ?_), .tail _ (.head _), off, rfl, rfl, ?_, rfl, rfl, rfl, rfl⟩
        · rcases List.mem_cons.mp hq with rfl | hq
          · exact .tail _ (.tail _ (.head _))
          · rcases List.mem_cons.mp hq with rfl | hq
            · exact .head _
            · rcases List.mem_cons.mp hq with rfl | hq
              · exact .tail _ (.head _)
              · exact .tail _ (.tail _ (.tail _ hq))
        · rw [e2]
          unfold wayStep
          rw [hmk, if_pos hz']
          exact ⟨_, rfl⟩
      · have hz : Builtin.bitAnd (t : Int) (mk : Int) ≠ 0 := by assumption
        rw [bitAnd_nat] at hz
        have hz' : ¬ (t &&& mk = 0) := fun e => hz (by rw [e]; rfl)
        rename Fr g₁ _ _ _ => F7
        rename News g₁ _ _ _ => N7
        refine ⟨_, _, _, g₁, (Mk, listOf msv.toArray km) :: (P, listOf psv.toArray kp) :: news, rfl, F7, N7, .tail _ (.head _), off, rfl, rfl, ?_, rfl, rfl, rfl, rfl⟩
        rw [e2]
        unfold wayStep
        rw [hmk, if_neg hz']
        exact ⟨tw, rfl⟩
    · intro m₁ g₁ led h tk hPT hPl F3 N3
      refine hideG fun GG hGG => ?_
      obtain ⟨rfl, rfl, ⟨tw, hw⟩, hm, hp, ht, ha⟩ := hPT
      refine hGG ?_
      clear hGG GG
      clear F1 N1
      have e1 : m₁ = fun y => if y = Str.ofString "ways" then some (.int ((ps.take psv.length).foldl (wayStep n ms ps t) 0) tw) else m₁ y := by
        funext y
        by_cases h2 : y = Str.ofString "ways"
        · rw [if_pos h2, h2, hw]
        · rw [if_neg h2]
      rw [e1] at F3
      clear e1
      have e3 : (ps.take psv.length).foldl (wayStep n ms ps t) 0 = ((waysF (n + 1) ms ps t : Nat) : Int) := by
        rw [hun, hps.length, List.length_map, List.take_length]
      rw [e3] at F3
      dsimp only
      k_steps
      exact ret _ _ _ (by assumption) (by assumption)
end Mine
end

-- Pl
section
open PySem PySem.W
set_option linter.unusedVariables false
namespace Mine
/-- where a number belongs in a sorted list -/
noncomputable def cnt (l : List Nat) (x : Nat) : Nat := l.countP (fun y => decide (y < x))
noncomputable def insN (l : List Nat) (x : Nat) : List Nat := l.take (cnt l x) ++ x :: l.drop (cnt l x)
noncomputable def levN (l : List Nat) (x : Nat) : List Nat := if (l.drop (cnt l x)).take 1 = [x] then l else insN l x
/-- the gaps of four places, as the law lists them -/
noncomputable def gapsN (a b c d : Nat) : List Nat := [d - c, a + 16 - d, b - a, c - b]
noncomputable def lvNat (k : Nat) : Nat := if k % 2 = 1 then 0 else if k % 4 = 2 then 1 else if k % 8 = 4 then 2 else 3
noncomputable def wayList (a b c d : Nat) : List Nat := gapsN a b c d ++ [(d - c) + (a + 16 - d), (a + 16 - d) + (b - a)]
noncomputable def levels (a b c d : Nat) : List Nat := (wayList a b c d).foldl (fun l w => levN l (lvNat w)) []
noncomputable def turnStep (ls : List Nat) (ts : List Nat) (l : Nat) : List Nat := if cnt ls l = cnt ls (l + 1) then ts ++ ts.map (· + 2 ^ l) else ts
noncomputable def turns (ls : List Nat) : List Nat := (List.range 4).foldl (turnStep ls) [0]
noncomputable def pairs (ts ps : List Nat) : List Nat := ts.flatMap (fun t => ps.map (fun p => p + t))
noncomputable def covered (ts ps : List Nat) : List Nat := (pairs ts ps).map (· % 16)
noncomputable def rowN (ts ps : List Nat) : List Nat := (covered ts ps).foldl insN []
noncomputable def rowWant (ts ps : List Nat) : List Nat := (List.range 16).filter (fun x => (covered ts ps).contains x)
noncomputable def distinct : List Nat → Bool
  | [] => true
  | x :: l => !l.contains x && distinct l
noncomputable def masksN (ps : List Nat) : List Nat := (List.range 16).map (fun t => (ps.map (fun p => 2 ^ ((p + t) % 16))).foldl (· + ·) 0)
noncomputable def dueN (ls : List Nat) : Nat := 2 ^ ((ls.map (fun l => 2 ^ (l - cnt ls l))).foldl (· + ·) 0) / 4
end Mine
end

-- Sn
section
set_option linter.unusedVariables false
namespace Mine
theorem cnt_lt {y x : Nat} {l : List Nat} (h : y < x) : cnt (y :: l) x = cnt l x + 1 := by
  unfold cnt
  rw [List.countP_cons_of_pos (by simpa using h)]
theorem cnt_ge {y x : Nat} {l : List Nat} (h : ¬ y < x) : cnt (y :: l) x = cnt l x := by
  unfold cnt
  rw [List.countP_cons_of_neg (by simpa using h)]
theorem cnt_zero {x : Nat} : ∀ {l : List Nat}, (∀ y ∈ l, x ≤ y) → cnt l x = 0
  | [], _ => rfl
  | y :: l, h => by
    rw [cnt_ge (Nat.not_lt.mpr (h y (.head _)))]
    exact cnt_zero (fun z hz => h z (.tail _ hz))
theorem cnt_le (l : List Nat) (x : Nat) : cnt l x ≤ l.length := List.countP_le_length
/-- in a sorted list, the numbers below x come first -/
theorem cnt_spec {x : Nat} : ∀ {l : List Nat}, l.Pairwise (· < ·) → ∀ (i y : Nat), l[i]? = some y → (y < x ↔ i < cnt l x)
  | [], _, i, y, h => by simp at h
  | z :: l, hp, i, y, h => by
    rw [List.pairwise_cons] at hp
    by_cases hz : z < x
    · rw [cnt_lt hz]
      match i, h with
      | 0, h =>
        have : z = y := by simpa using h
        exact ⟨fun _ => Nat.succ_pos _, fun _ => this ▸ hz⟩
      | i + 1, h =>
        have := cnt_spec (x := x) hp.2 i y (by simpa using h)
        exact this.trans Nat.succ_lt_succ_iff.symm
    · rw [cnt_ge hz, cnt_zero (fun w hw => Nat.le_trans (Nat.not_lt.mp hz) (Nat.le_of_lt (hp.1 w hw)))]
      match i, h with
      | 0, h =>
        have : z = y := by simpa using h
        rw [← this]
        exact ⟨fun h => absurd h hz, fun h => absurd h (Nat.lt_irrefl _)⟩
      | i + 1, h =>
        have hm : y ∈ l := List.mem_of_getElem? (show l[i]? = some y by simpa using h)
        exact ⟨fun h => absurd (Nat.lt_trans (hp.1 y hm) h) hz, fun h => absurd h (Nat.not_lt_zero _)⟩
theorem insN_cons_lt {y x : Nat} {l : List Nat} (h : y < x) : insN (y :: l) x = y :: insN l x := by
  unfold insN
  rw [cnt_lt h]
  rfl
theorem insN_cons_ge {y x : Nat} {l : List Nat} (hp : (y :: l).Pairwise (· < ·)) (h : x ≤ y) : insN (y :: l) x = x :: y :: l := by
  unfold insN
  rw [List.pairwise_cons] at hp
  rw [cnt_ge (Nat.not_lt.mpr h), cnt_zero (fun w hw => Nat.le_trans h (Nat.le_of_lt (hp.1 w hw)))]
  rfl
theorem mem_insN {l : List Nat} {x z : Nat} : z ∈ insN l x ↔ z = x ∨ z ∈ l := by
  unfold insN
  rw [List.mem_append, List.mem_cons]
  constructor
  · rintro (h | h | h)
    · exact .inr (List.mem_of_mem_take h)
    · exact .inl h
    · exact .inr (List.mem_of_mem_drop h)
  · rintro (h | h)
    · exact .inr (.inl h)
    · rw [← List.take_append_drop (cnt l x) l, List.mem_append] at h
      rcases h with h | h
      · exact .inl h
      · exact .inr (.inr h)
theorem insN_sorted {x : Nat} : ∀ {l : List Nat}, l.Pairwise (· < ·) → x ∉ l → (insN l x).Pairwise (· < ·)
  | [], _, _ => by
    show [x].Pairwise (· < ·)
    exact List.pairwise_singleton _ _
  | y :: l, hp, hx => by
    by_cases h : y < x
    · rw [insN_cons_lt h, List.pairwise_cons]
      have hp' := List.pairwise_cons.mp hp
      refine ⟨fun z hz => ?_, insN_sorted hp'.2 (fun hm => hx (.tail _ hm))⟩
      rcases mem_insN.mp hz with rfl | hz
      · exact h
      · exact hp'.1 z hz
    · have hne : x ≠ y := fun e => hx (e ▸ .head _)
      rw [insN_cons_ge hp (Nat.not_lt.mp h), List.pairwise_cons]
      refine ⟨fun z hz => ?_, hp⟩
      rcases List.mem_cons.mp hz with rfl | hz
      · exact Nat.lt_of_le_of_ne (Nat.not_lt.mp h) hne
      · exact Nat.lt_of_le_of_lt (Nat.not_lt.mp h) ((List.pairwise_cons.mp hp).1 z hz)
theorem insN_len (l : List Nat) (x : Nat) : (insN l x).length = l.length + 1 := by
  unfold insN
  have := cnt_le l x
  simp only [List.length_append, List.length_cons, List.length_take, List.length_drop]
  rw [Nat.min_eq_left this, ← Nat.add_assoc, Nat.add_sub_cancel' this]
theorem cast_cmp {l : List Nat} {x : Nat} (hp : l.Pairwise (· < ·)) (hx : x ∉ l) : ∀ (i : Nat) (n : Int), (l.map Int.ofNat)[i]? = some n → decide ((x : Int) < n) = decide (cnt l x ≤ i) := by
  intro i n h
  rw [List.getElem?_map, Option.map_eq_some_iff] at h
  obtain ⟨y, hy, rfl⟩ := h
  have h1 := cnt_spec (x := x) hp i y hy
  have h2 : y ≠ x := fun e => hx (e ▸ List.mem_of_getElem? hy)
  have : ((x : Int) < Int.ofNat y) ↔ cnt l x ≤ i := by
    exact ⟨fun h => Nat.not_lt.mp (fun e => absurd (h1.mpr e) (Nat.lt_asymm (Int.ofNat_lt.mp h))), fun h => Int.ofNat_lt.mpr (Nat.lt_of_le_of_ne (Nat.not_lt.mp (fun e => absurd (h1.mp e) (Nat.not_lt.mpr h))) (Ne.symm h2))⟩
  simp only [this]
theorem map_ins (l : List Nat) (x : Nat) : (insN l x).map Int.ofNat = (l.map Int.ofNat).take (cnt l x) ++ (x : Int) :: (l.map Int.ofNat).drop (cnt l x) := by
  unfold insN
  rw [List.map_append, List.map_cons, List.map_take, List.map_drop]
  rfl
end Mine
end

-- Po
section
open PySem PySem.W PyProof.Rows
set_option linter.unusedVariables false
namespace Mine
theorem kl_cut_at : ∀ (l : List Value) (k : Nat) (h : k < l.length), kl_cut l k = some (l.take k, l[k], l.drop (k + 1))
  | [], k, h => absurd h (Nat.not_lt_zero _)
  | x :: r, 0, h => rfl
  | x :: r, k + 1, h => by
    unfold kl_cut
    rw [kl_cut_at r k (Nat.lt_of_succ_lt_succ h)]
    rfl
theorem seqIndex_at {i : Int} {n : Nat} (h0 : 0 ≤ i) (h1 : i < n) : seqIndex? i n = some i.toNat := by
  unfold seqIndex?
  simp only [if_neg (show ¬ i < 0 by omega)]
  rw [if_pos (by simp [h0, h1])]
end Mine
end

-- Dr
section
open PySem PySem.W PyProof.Rows
set_option linter.unusedVariables false
namespace Mine
theorem drawnF_len (ns : List Int) : (drawnF ns).length = 7 := by
  unfold drawnF
  simp only [List.length_append, List.length_map, List.length_drop, List.length_take, List.length_cons, List.length_nil]
  omega
theorem ints_uncons {vs : List Value} {n : Int} {ns : List Int} (h : IntsAre vs (n :: ns)) : ∃ t vs', vs = .int n t :: vs' ∧ IntsAre vs' ns := by
  cases h with
  | cons _ _ h2 => exact ⟨_, _, rfl, h2⟩
theorem ints_unnil {vs : List Value} (h : IntsAre vs []) : vs = [] := by
  cases h
  rfl
theorem len_cons {α : Type} {l : List α} {n : Nat} (h : l.length = n + 1) : ∃ x r, l = x :: r ∧ r.length = n := by
  cases l with
  | nil => exact nomatch h
  | cons x r => exact ⟨x, r, rfl, Nat.succ.inj h⟩
theorem int_one {vs : List Value} {ns : List Int} {k : Nat} (h : IntsAre vs ns) (hl : ns.length = k + 1) : ∃ d t vs' ns', vs = .int d t :: vs' ∧ IntsAre vs' ns' ∧ ns'.length = k := by
  cases h with
  | nil => exact nomatch hl
  | cons _ _ h2 => exact ⟨_, _, _, _, rfl, h2, Nat.succ.inj hl⟩
theorem int_nil {vs : List Value} {ns : List Int} (h : IntsAre vs ns) (hl : ns.length = 0) : vs = [] := by
  cases h with
  | nil => rfl
  | cons _ _ _ => exact nomatch hl
theorem seven {vs : List Value} {ns : List Int} (h : IntsAre vs ns) (hl : ns.length = 7) : ∃ d0 d1 d2 d3 d4 d5 d6 t0 t1 t2 t3 t4 t5 t6, vs = [.int d0 t0, .int d1 t1, .int d2 t2, .int d3 t3, .int d4 t4, .int d5 t5, .int d6 t6] := by
  refine hideG fun G hG => ?_
  obtain ⟨d0, t0, v0, n0, rfl, h, hl⟩ := int_one h hl
  obtain ⟨d1, t1, v1, n1, rfl, h, hl⟩ := int_one h hl
  obtain ⟨d2, t2, v2, n2, rfl, h, hl⟩ := int_one h hl
  obtain ⟨d3, t3, v3, n3, rfl, h, hl⟩ := int_one h hl
  obtain ⟨d4, t4, v4, n4, rfl, h, hl⟩ := int_one h hl
  obtain ⟨d5, t5, v5, n5, rfl, h, hl⟩ := int_one h hl
  obtain ⟨d6, t6, v6, n6, rfl, h, hl⟩ := int_one h hl
  obtain rfl := int_nil h hl
  exact hG ⟨_, _, _, _, _, _, _, _, _, _, _, _, _, _, rfl⟩
end Mine
end

-- Li
section
open PySem PySem.W PyProof.Rows
set_option linter.unusedVariables false
namespace Mine
theorem ints_take : ∀ {vs : List Value} {ns : List Int} (k : Nat), IntsAre vs ns → IntsAre (vs.take k) (ns.take k)
  | _, _, 0, _ => .nil
  | _, _, _ + 1, .nil => .nil
  | _, _, k + 1, .cons n t h => .cons n t (ints_take k h)
theorem ints_drop : ∀ {vs : List Value} {ns : List Int} (k : Nat), IntsAre vs ns → IntsAre (vs.drop k) (ns.drop k)
  | _, _, 0, h => h
  | _, _, _ + 1, .nil => .nil
  | _, _, k + 1, .cons n t h => ints_drop k h
theorem ints_app {vs ws : List Value} {ns ms : List Int} (a : IntsAre vs ns) (h : IntsAre ws ms) : IntsAre (vs ++ ws) (ns ++ ms) := by
  induction a with
  | nil => exact h
  | cons n t _ ih => exact .cons n t ih
theorem ints_ins {vs : List Value} {l : List Nat} {x : Nat} {t : Tok} (h : IntsAre vs (l.map Int.ofNat)) : IntsAre (vs.take (cnt l x) ++ .int (x : Int) t :: vs.drop (cnt l x)) ((insN l x).map Int.ofNat) := by
  rw [map_ins]
  exact ints_app (ints_take _ h) (.cons _ _ (ints_drop _ h))
theorem ints_cut {vs : List Value} {l : List Nat} {k : Nat} (h : IntsAre vs (l.map Int.ofNat)) : IntsAre (vs.take k ++ vs.drop (k + 1)) ((l.take k ++ l.drop (k + 1)).map Int.ofNat) := by
  rw [List.map_append, List.map_take, List.map_drop]
  exact ints_app (ints_take _ h) (ints_drop _ h)
theorem cut_sub {l : List Nat} {k x : Nat} (h : x ∈ l.take k ++ l.drop (k + 1)) : x ∈ l := by
  rcases List.mem_append.mp h with h | h
  · exact List.mem_of_mem_take h
  · exact List.mem_of_mem_drop h
theorem cut_len {l : List Nat} {k : Nat} (h : k < l.length) : (l.take k ++ l.drop (k + 1)).length + 1 = l.length := by
  rw [List.length_append, List.length_take, List.length_drop, Nat.min_eq_left (Nat.le_of_lt h), Nat.add_assoc, ← Nat.sub_sub, Nat.sub_add_cancel (Nat.sub_pos_of_lt h)]
  exact Nat.add_sub_cancel' (Nat.le_of_lt h)
theorem cut_nodup {l : List Nat} {k : Nat} (h : l.Nodup) : (l.take k ++ l.drop (k + 1)).Nodup := by
  refine List.Nodup.sublist ?_ h
  conv => rhs; rw [← List.take_append_drop k l]
  refine List.Sublist.append (List.Sublist.refl _) ?_
  rw [← List.drop_drop]
  exact List.drop_sublist 1 _
theorem cut_ne {l : List Nat} {k : Nat} (hk : k < l.length) (h : l.Nodup) {x : Nat} (hx : x ∈ l.take k ++ l.drop (k + 1)) : x ≠ l[k] := by
  intro e
  subst e
  have h2 : (l.take k ++ l[k] :: l.drop (k + 1)).Nodup := by
    rw [List.getElem_cons_drop, List.take_append_drop]
    exact h
  rw [List.nodup_append] at h2
  obtain ⟨h3, h4, h5⟩ := h2
  rcases List.mem_append.mp hx with hx | hx
  · exact h5 _ hx _ (.head _) rfl
  · exact (List.nodup_cons.mp h4).1 hx
/-- four places in their order -/
theorem four {pvs : List Value} {pl : List Nat} (h : IntsAre pvs (pl.map Int.ofNat)) (hl : pl.length = 4) (hs : pl.Pairwise (· < ·)) (h16 : ∀ x ∈ pl, x < 16) :
    ∃ a b c d ta tb tc td, pvs = [.int ((a : Nat) : Int) ta, .int ((b : Nat) : Int) tb, .int ((c : Nat) : Int) tc, .int ((d : Nat) : Int) td] ∧ a < b ∧ b < c ∧ c < d ∧ d < 16 ∧ pl = [a, b, c, d] := by
  refine hideG fun G hG => ?_
  obtain ⟨a, l1, rfl, hl1⟩ := len_cons hl
  obtain ⟨b, l2, rfl, hl2⟩ := len_cons hl1
  obtain ⟨c, l3, rfl, hl3⟩ := len_cons hl2
  obtain ⟨d, l4, rfl, hl4⟩ := len_cons hl3
  obtain rfl := List.eq_nil_of_length_eq_zero hl4
  obtain ⟨t0, v0, rfl, g1⟩ := ints_uncons h
  obtain ⟨t1, v1, rfl, g2⟩ := ints_uncons g1
  obtain ⟨t2, v2, rfl, g3⟩ := ints_uncons g2
  obtain ⟨t3, v3, rfl, g4⟩ := ints_uncons g3
  obtain rfl := ints_unnil g4
  have s1 := List.pairwise_cons.mp hs
  have s2 := List.pairwise_cons.mp s1.2
  have s3 := List.pairwise_cons.mp s2.2
  exact hG ⟨a, b, c, d, t0, t1, t2, t3, rfl, s1.1 b (.head _), s2.1 c (.head _), s3.1 d (.head _), h16 d (.tail _ (.tail _ (.tail _ (.head _)))), rfl⟩
end Mine
end

-- Li2
section
open PySem PySem.W PyProof.Rows
set_option linter.unusedVariables false
namespace Mine
theorem lv_nat : ∀ k : Nat, k < 16 → 1 ≤ k → lv k = lvNat k := by decide +kernel
theorem lvNat_lt (k : Nat) : lvNat k < 4 := by
  unfold lvNat
  split
  · decide
  split
  · decide
  split <;> decide
theorem wayN : q4 (fun a b c d => (wayList a b c d).all (fun x => decide (1 ≤ x ∧ x < 16))) = true := by decide +kernel
theorem way_range {a b c d : Nat} (hab : a < b) (hbc : b < c) (hcd : c < d) (hd : d < 16) : ∀ x ∈ wayList a b c d, 1 ≤ x ∧ x < 16 := fun x hx =>
  of_decide_eq_true (List.all_eq_true.mp (q4_un wayN hab hbc hcd hd) x hx)
theorem way_ints {a b c d : Nat} {v0 v1 v2 v3 v4 v5 : Tok} (hab : a < b) (hbc : b < c) (hcd : c < d) (hd : d < 16) :
    IntsAre [Value.int ((d : Int) - c) v0, .int ((a : Int) + 16 - d) v1, .int ((b : Int) - a) v2, .int ((c : Int) - b) v3, .int ([(d : Int) - c, (a : Int) + 16 - d, (b : Int) - a, (c : Int) - b].getD (Int.toNat 0) 0 + [(d : Int) - c, (a : Int) + 16 - d, (b : Int) - a, (c : Int) - b].getD (Int.toNat 1) 0) v4, .int ([(d : Int) - c, (a : Int) + 16 - d, (b : Int) - a, (c : Int) - b].getD (Int.toNat 1) 0 + [(d : Int) - c, (a : Int) + 16 - d, (b : Int) - a, (c : Int) - b].getD (Int.toNat 2) 0) v5] ((wayList a b c d).map Int.ofNat) := by
  have e0 : ((d : Int) - c) = Int.ofNat (d - c) := (Int.ofNat_sub (Nat.le_of_lt hcd)).symm
  have e1 : ((a : Int) + 16 - d) = Int.ofNat (a + 16 - d) := (Int.ofNat_sub (n := a + 16) (Nat.le_of_lt (Nat.lt_of_lt_of_le hd (Nat.le_add_left 16 a)))).symm
  have e2 : ((b : Int) - a) = Int.ofNat (b - a) := (Int.ofNat_sub (Nat.le_of_lt hab)).symm
  have e3 : ((c : Int) - b) = Int.ofNat (c - b) := (Int.ofNat_sub (Nat.le_of_lt hbc)).symm
  have e4 : ([(d : Int) - c, (a : Int) + 16 - d, (b : Int) - a, (c : Int) - b].getD (Int.toNat 0) 0 + [(d : Int) - c, (a : Int) + 16 - d, (b : Int) - a, (c : Int) - b].getD (Int.toNat 1) 0) = Int.ofNat ((d - c) + (a + 16 - d)) := by
    show ((d : Int) - c) + ((a : Int) + 16 - d) = (((d - c) + (a + 16 - d) : Nat) : Int)
    rw [e0, e1]
    rfl
  have e5 : ([(d : Int) - c, (a : Int) + 16 - d, (b : Int) - a, (c : Int) - b].getD (Int.toNat 1) 0 + [(d : Int) - c, (a : Int) + 16 - d, (b : Int) - a, (c : Int) - b].getD (Int.toNat 2) 0) = Int.ofNat ((a + 16 - d) + (b - a)) := by
    show ((a : Int) + 16 - d) + ((b : Int) - a) = (((a + 16 - d) + (b - a) : Nat) : Int)
    rw [e1, e2]
    rfl
  rw [e4, e5, e0, e1, e2, e3]
  exact .cons _ _ (.cons _ _ (.cons _ _ (.cons _ _ (.cons _ _ (.cons _ _ .nil)))))
theorem getD_lo {l : List Nat} {x : Nat} (hp : l.Pairwise (· < ·)) : ∀ i < cnt l x, (l.map Int.ofNat).getD i 0 < (x : Int) := by
  intro i hi
  have hl : i < l.length := Nat.lt_of_lt_of_le hi (cnt_le _ _)
  have := (cnt_spec (x := x) hp i l[i] (List.getElem?_eq_getElem hl)).mpr hi
  rw [List.getD_eq_getElem?_getD, List.getElem?_map, List.getElem?_eq_getElem hl]
  exact Int.ofNat_lt.mpr this
theorem getD_hi {l : List Nat} {x : Nat} (hp : l.Pairwise (· < ·)) : ∀ i, cnt l x ≤ i → i < (l.map Int.ofNat).length → ¬ (l.map Int.ofNat).getD i 0 < (x : Int) := by
  intro i hi hl
  rw [List.length_map] at hl
  have := mt (cnt_spec (x := x) hp i l[i] (List.getElem?_eq_getElem hl)).mp (Nat.not_lt.mpr hi)
  rw [List.getD_eq_getElem?_getD, List.getElem?_map, List.getElem?_eq_getElem hl]
  exact fun e => this (Int.ofNat_lt.mp e)
theorem upd1 {m : Str → Option Value} {x a : Str} {v va : Value} (ha : m a = some va) :
    (fun y => if y = x then some v else m y) = fun y => if y = x then some v else if y = a then some va else m y := by
  funext y
  by_cases h0 : y = x
  · rw [if_pos h0, if_pos h0]
  rw [if_neg h0, if_neg h0]
  by_cases h1 : y = a
  · rw [if_pos h1, h1, ha]
  rw [if_neg h1]
theorem map1 {m : Str → Option Value} {a : Str} {va : Value} (ha : m a = some va) : m = fun y => if y = a then some va else m y := by
  funext y
  by_cases h1 : y = a
  · rw [if_pos h1, h1, ha]
  rw [if_neg h1]
theorem news_swap {h₀ h : Heap} {L : Addr} {x y : Addr × Obj} {R : List (Addr × Obj)} (N : News h₀ L h (x :: y :: R)) : News h₀ L h (y :: x :: R) :=
  News.sub N (fun p hp => by
    rcases List.mem_cons.mp hp with rfl | hp
    · exact .tail _ (.head _)
    · rcases List.mem_cons.mp hp with rfl | hp
      · exact .head _
      · exact .tail _ (.tail _ hp))
theorem levN_spec {l : List Nat} {x : Nat} (hp : l.Pairwise (· < ·)) : ((l.drop (cnt l x)).take 1 = [x] ∧ levN l x = l) ∨ ((l.drop (cnt l x)).take 1 ≠ [x] ∧ levN l x = insN l x ∧ x ∉ l) := by
  by_cases h : (l.drop (cnt l x)).take 1 = [x]
  · exact .inl ⟨h, by unfold levN; rw [if_pos h]⟩
  · refine .inr ⟨h, by unfold levN; rw [if_neg h], fun hm => ?_⟩
    obtain ⟨i, hi, e⟩ := List.getElem_of_mem hm
    have h1 := cnt_spec (x := x) hp i x (by rw [List.getElem?_eq_getElem hi, e])
    have hc : cnt l x < l.length := by omega
    have h2 := cnt_spec (x := x) hp (cnt l x) l[cnt l x] (List.getElem?_eq_getElem hc)
    have hle : l[cnt l x] ≤ x := by
      rcases Nat.lt_or_ge (cnt l x) i with h3 | h3
      · have := List.pairwise_iff_getElem.mp hp (cnt l x) i hc hi h3
        omega
      · have : i = cnt l x := by omega
        subst this
        omega
    have hE : l[cnt l x] = x := by omega
    apply h
    rw [List.drop_eq_getElem_cons hc, hE]
    rfl
end Mine
namespace Mine
theorem intsAre_map {g : Nat → Nat} {ts : List Nat} {ys : List Value} (hl : ys.length = ts.length) (h : ∀ (i : Nat) (v : Value), ys[i]? = some v → ∃ t, v = .int ((g (ts.getD i 0) : Nat) : Int) t) : IntsAre ys ((ts.map g).map Int.ofNat) := by
  have q := intsAre_of (f := fun i => ((g (ts.getD i 0) : Nat) : Int)) ts.length ys 0 hl (fun i v hv => by rw [Nat.zero_add]; exact h i v hv)
  have e : (List.range' 0 ts.length).map (fun i => ((g (ts.getD i 0) : Nat) : Int)) = (ts.map g).map Int.ofNat := by
    apply List.ext_getElem
    · simp
    · intro j h1 h2
      simp only [List.getElem_map, List.getElem_range', Nat.zero_add, Nat.one_mul]
      rw [List.getD_eq_getElem?_getD, List.getElem?_eq_getElem (by simpa using h2)]
      rfl
  rw [e] at q
  exact q
theorem ints_at {vs : List Value} {ts : List Nat} (h : IntsAre vs (ts.map Int.ofNat)) {j : Nat} {v : Value} (hv : vs[j]? = some v) : ∃ t, v = .int ((ts.getD j 0 : Nat) : Int) t ∧ j < ts.length := by
  have hl : j < ts.length := by
    have := (List.getElem?_eq_some_iff.mp hv).1
    have h2 := h.length
    rw [List.length_map] at h2
    rw [h2] at this
    exact this
  obtain ⟨t, e⟩ := h.get j ((ts.getD j 0 : Nat) : Int) (by
    rw [List.getElem?_map, List.getD_eq_getElem?_getD, List.getElem?_eq_getElem hl]; rfl)
  rw [hv] at e
  exact ⟨t, Option.some.inj e, hl⟩
theorem turnStep_len {ls ts : List Nat} {i : Nat} (h : ts.length ≤ 2 ^ i) : (turnStep ls ts i).length ≤ 2 ^ (i + 1) := by
  unfold turnStep
  rw [Nat.pow_succ]
  split
  · rw [List.length_append, List.length_map, Nat.mul_two]
    exact Nat.add_le_add h h
  · exact Nat.le_trans h (Nat.le_mul_of_pos_right _ (by decide))
end Mine
end

-- Rn
section
open PySem PySem.W PyProof.Rows PySem.Spec PySem.Calls
set_option Elab.async false
set_option linter.unusedVariables false
namespace Mine
section
variable {prog : Program} {w : World} {A : Around} {E : Value → Shared → Prop} {Q : Flow → Shared → Prop} {s : Shared} {env : Env} {x : Str} {px pos : Pos} {body : List PySem.Stmt}
/-- how a turn over a range ends -/
noncomputable def RngEnd (s : Shared) (L I : Addr) (io : Obj) (J : (Str → Option Value) → Heap → List (Addr × Obj) → Prop) (Q : Flow → Shared → Prop) (f : Flow) (s₃ : Shared) : Prop :=
  match f with
  | .brk => Q .next s₃
  | .ret v => Q (.ret v) s₃
  | _ => ∃ h' tk' m' g' news', s₃ = { s with heap := h', toks := tk' } ∧ Fr g' L h' m' ∧ News g' L h' ((I, io) :: news') ∧ (∀ p ∈ news', p.1 ≠ I) ∧ J m' g' news'
/-- a loop over range(n); the turn begins with the storing of its number -/
theorem For_rng {r : Addr} {n : Nat} {t₀ u₀ v₀ : Tok} {m : Str → Option Value} {g : Heap} {news : List (Addr × Obj)} (J : Nat → (Str → Option Value) → Heap → List (Addr × Obj) → Prop)
    (hh : A.handled = none) (hr : IsRange s.heap r 0 n 1 t₀ u₀ v₀) (hsmall : Builtin.Range.small 0 n 1 = true) (hn : Builtin.Range.rangeSize 0 n 1 = (n : Int))
    (F : Fr g env.locals s.heap m) (N : News g env.locals s.heap news) (hJ : J 0 m g news)
    (turn : ∀ i t m₁ g₁ news₁ h tk I, i < n → J i m₁ g₁ news₁ → (∀ p ∈ news₁, p.1 ≠ I) → Fr g₁ env.locals h m₁ → News g₁ env.locals h ((I, itR ((i + 1 : Nat) : Int) ((n : Int) - ((i + 1 : Nat) : Int))) :: news₁) →
      wpAny (model prog w) A (storeName env x (.int ((i : Nat) : Int) t)) (fun _ s' => wpAny (model prog w) A (execs body env) (RngEnd s env.locals I (itR ((i + 1 : Nat) : Int) ((n : Int) - ((i + 1 : Nat) : Int))) (J (i + 1)) Q) E s') E { s with heap := h, toks := tk })
    (done : ∀ m₁ g₁ news₁ h tk, J n m₁ g₁ news₁ → Fr g₁ env.locals h m₁ → News g₁ env.locals h news₁ → Q .next { s with heap := h, toks := tk })
    (hg : ∀ it v, letOwnedTupleGo (.Name x px) it v = pure () := by intro _ _; rfl)
    (hE : PassesOwn (model prog w) A env E := by passes_own) :
    wpAny (model prog w) A (pyIter (.ref r)) (fun it s₂ => codeAny (model prog w) A (.forLoop (.Name x px) it body [] env) (fun r s' => match r with | .ok f => Q f s' | .error e => cameBackBy (model prog w) A env E e s') s₂) E s := by
  refine hideG fun GG hGG => ?_
  obtain ⟨h, gs, dr, tk, os⟩ := s
  refine hGG ?_
  clear hGG GG
  dsimp only at F N hr ⊢
  refine wpAny_pyIter_range (s := ⟨h, gs, dr, tk, os⟩) hr hsmall ?_
  rw [hn]
  dsimp only
  have hnew : g.get? h.objs.size = none := next_is_new F
  refine codeAny_forLoop
    (fun k s' => ∃ i m₁ g₁ news₁ h₁ tk₁, s' = ⟨h₁, gs, dr, tk₁, os⟩ ∧ i ≤ n ∧ k = n + 1 - i ∧ Fr g₁ env.locals h₁ m₁ ∧ News g₁ env.locals h₁ ((h.objs.size, itR ((i : Nat) : Int) ((n : Int) - ((i : Nat) : Int))) :: news₁) ∧
      (∀ p ∈ news₁, p.1 ≠ h.objs.size) ∧ J i m₁ g₁ news₁) ?_ (n + 1)
    ⟨0, m, g, news, _, _, rfl, Nat.zero_le _, rfl, F.push _, ?_, fun p hp => Nat.ne_of_lt (Heap.lt_size (N p hp).1), hJ⟩ (hg _)
  · intro k s' hPT
    refine hideG fun GG hGG => ?_
    obtain ⟨i, m₁, g₁, news₁, h₁, tk₁, rfl, hi, rfl, F₁, N₁, off, hJ₁⟩ := hPT
    refine hGG ?_
    clear hGG GG
    have nI := N₁ _ (.head _)
    have hit : IsRangeIter h₁ h.objs.size ((i : Nat) : Int) ((n : Int) - ((i : Nat) : Int)) 1 := nI.1
    by_cases hlt : i < n
    · refine wpAny_pyNext_range_item (s := ⟨h₁, gs, dr, tk₁, os⟩) hit (Int.sub_pos_of_lt (Int.ofNat_lt.mpr hlt)) fun h₂ hit₂ hs₂ => ?_
      have F₂ := F₁.change hs₂ nI.2.1 nI.2.2
      have N₂ : News g₁ env.locals h₂ ((h.objs.size, itR ((i + 1 : Nat) : Int) ((n : Int) - ((i + 1 : Nat) : Int))) :: news₁) := by
        intro p hp
        rcases List.mem_cons.mp hp with rfl | hp
        · refine ⟨?_, nI.2.1, nI.2.2⟩
          have e1 : ((i + 1 : Nat) : Int) = ((i : Nat) : Int) + 1 := rfl
          have e2 : (n : Int) - (((i : Nat) : Int) + 1) = (n : Int) - ((i : Nat) : Int) - 1 := (Int.sub_sub _ _ _).symm
          rw [e1, e2]
          exact hit₂
        · have z := N₁ p (.tail _ hp)
          exact ⟨(hs₂.2 _ (off p hp)).trans z.1, z.2⟩
      refine wpAny_assign_Name (wpAny_passesOwn hE (wpAny_mono (turn i tk₁ m₁ g₁ news₁ h₂ (tk₁ + 1) h.objs.size hlt hJ₁ off F₂ N₂) (fun u s₃ hu => ?_) fun _ _ e => e))
      refine wpAny_passesOwn hE (wpAny_mono hu (fun f s₃ hf => ?_) fun _ _ e => e)
      cases f with
      | brk => exact hf
      | ret v => exact hf
      | next =>
        refine hideG fun GG hGG => ?_
        obtain ⟨h₄, tk₄, m₄, g₄, news₄, rfl, F₄, N₄, off₄, J₄⟩ := hf
        refine hGG ?_
        clear hGG GG
        exact ⟨n + 1 - (i + 1), Nat.sub_lt_sub_left (Nat.lt_succ_of_lt hlt) (Nat.lt_succ_self i), i + 1, m₄, g₄, news₄, h₄, tk₄, rfl, hlt, rfl, F₄, N₄, off₄, J₄⟩
      | cont =>
        refine hideG fun GG hGG => ?_
        obtain ⟨h₄, tk₄, m₄, g₄, news₄, rfl, F₄, N₄, off₄, J₄⟩ := hf
        refine hGG ?_
        clear hGG GG
        exact ⟨n + 1 - (i + 1), Nat.sub_lt_sub_left (Nat.lt_succ_of_lt hlt) (Nat.lt_succ_self i), i + 1, m₄, g₄, news₄, h₄, tk₄, rfl, hlt, rfl, F₄, N₄, off₄, J₄⟩
    · obtain rfl : i = n := Nat.le_antisymm hi (Nat.not_lt.mp hlt)
      refine wpAny_pyNext_range_end (s := ⟨h₁, gs, dr, tk₁, os⟩) hh hit (Int.le_of_eq (Int.sub_self _)) fun h₂ he₂ => ?_
      refine wpAny_execs_nil (done m₁ g₁ news₁ h₂ tk₁ hJ₁ ?_ ?_)
      · exact ⟨F₁.ns.at' fun o e => he₂ _ o (Ne.symm nI.2.1) e, fun b o e => he₂ b o (fun z => by have := nI.2.2; rw [← z, e] at this; cases this) (F₁.keep b o e), F₁.above⟩
      · exact fun p hp => ⟨he₂ _ _ (off p hp) (N₁ p (.tail _ hp)).1, (N₁ p (.tail _ hp)).2⟩
  · have := News.push F N (itR ((0 : Nat) : Int) ((n : Int) - ((0 : Nat) : Int)))
    exact (by simpa [itR] using this)
end
end Mine
end

-- Ft
section
namespace Mine
end Mine
end

-- Dv
section
open PySem PySem.W PyProof.Rows PySem.Spec PySem.Calls
set_option Elab.async false
set_option linter.unusedVariables false
namespace Mine
section
variable {prog : Program} {w : World} {A : Around} {E : Value → Shared → Prop} {s : Shared}
theorem div_nat {a b : Nat} {t u : Tok} {Q : Value → Shared → Prop} (hA : A.handled = none) (hb : b ≠ 0) (ha : a < 100) (h : Q (.float (fr a b) s.toks) { s with toks := s.toks + 1 }) : wpAny (model prog w) A (binaryOp .Div (.int ((a : Nat) : Int) t) (.int ((b : Nat) : Int) u)) Q E s :=
  Flt.div_ii_fits hA (Nat.lt_trans (show a < 2 ^ 7 by omega) (Nat.pow_lt_pow_right (by decide) (by decide))) (fun e => absurd e (by omega)) (fun _ _ => h)
end
theorem quarter (x : Int) : ∃ k : Nat, 0 < k ∧ k < 5 ∧ 1 + x.fmod 4 = ((k : Nat) : Int) := by
  have h0 : 0 ≤ x.fmod 4 := by rw [Int.fmod_eq_emod_of_nonneg _ (by decide)]; exact Int.emod_nonneg _ (by decide)
  have h1 : x.fmod 4 < 4 := by rw [Int.fmod_eq_emod_of_nonneg _ (by decide)]; exact Int.emod_lt_of_pos _ (by decide)
  exact ⟨(1 + x.fmod 4).toNat, by omega, by omega, by omega⟩
theorem news_pick2 {h₀ h : Heap} {L : Addr} {news : List (Addr × Obj)} (is : List Nat) (k : Nat) (N : News h₀ L h news) : News h₀ L h (is.filterMap (news[·]?) ++ news.drop k) :=
  News.sub N (fun p hp => by
    rcases List.mem_append.mp hp with hp | hp
    · obtain ⟨i, _, e⟩ := List.mem_filterMap.mp hp
      exact List.mem_of_getElem? e
    · exact List.mem_of_mem_drop hp)
/-- the order of two sixteenths -/
theorem fr_cmp : ∀ i < 16, ∀ j < 16, i ≠ j → ((fr i 16 == fr j 16) = false ∧ (Float64.cmp (fr i 16) (fr j 16) == some .eq) = false ∧ (Float64.cmp (fr i 16) (fr j 16) == some .lt) = decide (i < j)) := by decide +kernel
theorem fr_self : ∀ i < 16, Self (fr i 16) := by unfold Self; decide +kernel
theorem fr4_self : ∀ i < 5, Self (fr i 4) := by unfold Self; decide +kernel
end Mine
end

-- Rw
section
open PySem PySem.W PyProof.Rows
set_option Elab.async false
set_option linter.unusedVariables false
namespace Mine
noncomputable def RowInv (Row : Addr) (y z : UInt64) (l : List Nat) (rvs : List Value) (extra : List (Addr × Obj)) (tk : Nat) : Prop :=
  rvs.length = (l.foldl insN []).length ∧ (∀ (j : Nat) (v : Value) (c : UInt64), rvs[j]? = some v → ((l.foldl insN []).map (fun k => fr k 16))[j]? = some c → HueIn extra v c y z 1 tk) ∧ (∀ p ∈ extra, @LT.lt Nat _ Row p.1)
/-- the row, turn by turn -/
noncomputable def RowO (Row T : Addr) (y z : UInt64) (g : Heap) (Rf : List (Addr × Obj) → List (Addr × Obj)) (ts ps : List Nat) (i : Nat) (m₁ : Str → Option Value) (g₁ : Heap) (led : List (Addr × Obj)) (tk : Nat) : Prop :=
  g₁ = g ∧ ∃ rvs kr extra, led = (Row, listOf (List.toArray rvs) kr) :: Rf extra ∧ RowInv Row y z (covered (ts.take i) ps) rvs extra tk ∧ m₁ (Str.ofString "row") = some (.ref Row) ∧ m₁ (Str.ofString "turns") = some (.ref T)
/-- the row within a turn, place by place -/
noncomputable def RowI (Row T I1 : Addr) (y z : UInt64) (g : Heap) (Rf : List (Addr × Obj) → List (Addr × Obj)) (ts ps : List Nat) (i t : Nat) (tt : Tok) (j : Nat) (m₁ : Str → Option Value) (g₁ : Heap) (led : List (Addr × Obj)) (tk : Nat) : Prop :=
  g₁ = g ∧ ∃ rvs kr extra, led = (Row, listOf (List.toArray rvs) kr) :: Rf extra ∧ RowInv Row y z (covered (ts.take i) ps ++ (ps.take j).map (fun p => (p + t) % 16)) rvs extra tk ∧ (∀ p ∈ extra, p.1 ≠ I1) ∧
    m₁ (Str.ofString "turn") = some (.int ((t : Nat) : Int) tt) ∧ m₁ (Str.ofString "row") = some (.ref Row) ∧ m₁ (Str.ofString "turns") = some (.ref T)
theorem covered_succ {ts ps : List Nat} {i t : Nat} (h : ts[i]? = some t) : covered (ts.take (i + 1)) ps = covered (ts.take i) ps ++ ps.map (fun p => (p + t) % 16) := by
  unfold covered pairs
  rw [List.take_add_one, h]
  simp [List.flatMap_append, List.map_append, Function.comp_def]
theorem mem_fold {x : Nat} : ∀ (l m : List Nat), x ∈ l.foldl insN m ↔ x ∈ l ∨ x ∈ m
  | [], m => by simp
  | y :: l, m => by
    rw [List.foldl_cons, mem_fold l, mem_insN, List.mem_cons]
    constructor
    · rintro (h | h | h)
      · exact .inl (.inr h)
      · exact .inl (.inl h)
      · exact .inr h
    · rintro ((h | h) | h)
      · exact .inr (.inl h)
      · exact .inl h
      · exact .inr (.inr h)
theorem fold_sorted : ∀ (l m : List Nat), (m ++ l).Nodup → m.Pairwise (· < ·) → (l.foldl insN m).Pairwise (· < ·)
  | [], m, _, h => h
  | y :: l, m, hn, h => by
    rw [List.foldl_cons]
    have h1 : y ∉ m := by
      intro hm
      exact (List.nodup_append.mp hn).2.2 y hm y (.head _) rfl
    refine fold_sorted l (insN m y) ?_ (insN_sorted h h1)
    rw [List.nodup_append] at hn ⊢
    obtain ⟨n1, n2, n3⟩ := hn
    have n2' := List.nodup_cons.mp n2
    refine ⟨?_, n2'.2, fun p hp q hq e => ?_⟩
    · exact (insN_sorted h h1).imp (fun h e => by omega)
    · subst e
      rcases mem_insN.mp hp with e | hp
      · subst e
        exact n2'.1 hq
      · exact n3 p hp p (.tail _ hq) rfl
theorem fold_len : ∀ (l m : List Nat), (l.foldl insN m).length = l.length + m.length
  | [], m => by simp
  | y :: l, m => by
    rw [List.foldl_cons, fold_len l, insN_len, List.length_cons]
    omega
end Mine
end

-- Lw
section
open PySem PySem.W PyProof.Rows
set_option Elab.async false
set_option linter.unusedVariables false
namespace Mine
theorem distinct_nodup : ∀ {l : List Nat}, distinct l = true → l.Nodup
  | [], _ => .nil
  | x :: l, h => by
    unfold distinct at h
    rw [Bool.and_eq_true] at h
    exact List.nodup_cons.mpr ⟨fun hm => by have := h.1; simp [hm] at this, distinct_nodup h.2⟩
end Mine
namespace Mine
theorem RowInv.mono {Row : Addr} {y z : UInt64} {l : List Nat} {rvs : List Value} {extra : List (Addr × Obj)} {n m : Nat} (h : RowInv Row y z l rvs extra n) (hm : n ≤ m) : RowInv Row y z l rvs extra m :=
  ⟨h.1, fun j v c h1 h2 => (h.2.1 j v c h1 h2).mono (fun _ hp => hp) hm, h.2.2⟩
theorem covered_app (t1 t2 ps : List Nat) : covered (t1 ++ t2) ps = covered t1 ps ++ covered t2 ps := by
  unfold covered pairs
  rw [List.flatMap_append, List.map_append]
theorem res_new {ts ps : List Nat} {i j t p : Nat} (hnd : (covered ts ps).Nodup) (ht : ts[i]? = some t) (hp : ps[j]? = some p) :
    ((covered (ts.take i) ps ++ (ps.take j).map (fun p => (p + t) % 16)) ++ [(p + t) % 16]).Nodup := by
  refine List.Nodup.sublist ?_ hnd
  conv => rhs; rw [← List.take_append_drop (i + 1) ts, covered_app, covered_succ ht]
  rw [List.append_assoc]
  conv => rhs; rw [List.append_assoc]
  refine List.Sublist.append (List.Sublist.refl _) ?_
  refine List.Sublist.trans ?_ (List.sublist_append_left _ _)
  rw [← List.map_singleton (f := fun p => (p + t) % 16) (a := p), ← List.map_append]
  refine List.Sublist.map _ ?_
  have e : ps.take j ++ [p] = ps.take (j + 1) := by
    rw [List.take_add_one, hp]
    rfl
  rw [e]
  exact List.take_sublist _ _
theorem hue_un {k a b : Nat} (ha : 0 < a) (ha5 : a < 5) (hb : 0 < b) (hb5 : b < 5) (hk : k < 31) :
    (Float64.cmp (fr a 4) 0 == some .eq) = false ∧ isFin (Float64.mul (fr k 16) f6) = true ∧ (0 ≤ hTr (Float64.mul (fr k 16) f6) ∧ hTr (Float64.mul (fr k 16) f6) < 100) ∧
    ∀ r g bb, hsvF (fr k 16) (fr a 4) (fr b 4) = (r, g, bb) → (Float64.cmp (mn3 r g bb) (mx3 r g bb) == some .eq) = false ∧ Float64.isZero (mx3 r g bb) = false ∧ Float64.isZero (rgF r g bb) = false ∧
      hueF r g bb = fr (k % 16) 16 ∧ satF r g bb = fr a 4 ∧ mx3 r g bb = fr b 4 := by
  have h := hueOk_all a ha5 ha b hb5 hb k hk
  unfold hueOk at h
  simp only [Bool.and_eq_true, Bool.not_eq_true', decide_eq_true_eq, beq_iff_eq] at h
  obtain ⟨⟨⟨⟨⟨⟨⟨⟨h1, h2⟩, h3⟩, h4⟩, h5⟩, h6⟩, h7⟩, h8⟩, h9⟩ := h
  refine ⟨h1, h2, h3, fun r g bb e => ?_⟩
  rw [e] at h4 h5 h6 h7 h8 h9
  exact ⟨h4, h5, h6, h7, h8, h9⟩
theorem map_insN {l : List Nat} {x : Nat} {f : Nat → UInt64} : (insN l x).map f = (l.map f).take (cnt l x) ++ f x :: (l.map f).drop (cnt l x) := by
  unfold insN
  rw [List.map_append, List.map_cons, List.map_take, List.map_drop]
/-- the row with one more in it -/
theorem RowInv.step {Row : Addr} {y z : UInt64} {l : List Nat} {rvs : List Value} {extra extra' : List (Addr × Obj)} {n m r : Nat} {v : Value} (h : RowInv Row y z l rvs extra n) (hn : n ≤ m) (hs : ∀ p ∈ extra, p ∈ extra') (hx : HueIn extra' v (fr r 16) y z 1 m)
    (ho : ∀ p ∈ extra', @LT.lt Nat _ Row p.1) : RowInv Row y z (l ++ [r]) (rvs.take (cnt (l.foldl insN []) r) ++ v :: rvs.drop (cnt (l.foldl insN []) r)) extra' m := by
  obtain ⟨h1, h2, h3⟩ := h
  have hc := cnt_le (l.foldl insN []) r
  have e : (l ++ [r]).foldl insN [] = insN (l.foldl insN []) r := by rw [List.foldl_append]; rfl
  refine ⟨?_, fun j u c hu hcj => ?_, ho⟩
  · rw [e, insN_len]
    simp only [List.length_append, List.length_cons, List.length_take, List.length_drop]
    rw [h1, Nat.min_eq_left hc, ← Nat.add_assoc, Nat.add_sub_cancel' hc]
  · rw [e, map_insN] at hcj
    generalize hk : cnt (l.foldl insN []) r = k at hu hcj hc
    have l1 : (rvs.take k).length = k := by rw [List.length_take, h1]; exact Nat.min_eq_left hc
    have l2 : (((l.foldl insN []).map (fun k => fr k 16)).take k).length = k := by rw [List.length_take, List.length_map]; exact Nat.min_eq_left hc
    by_cases hj : j < k
    · rw [List.getElem?_append_left (by first | (rw [l1]; exact hj) | (rw [l2]; exact hj)), List.getElem?_take_of_lt hj] at hu hcj
      exact (h2 j u c hu hcj).mono hs hn
    · rw [List.getElem?_append_right (by rw [l1]; exact Nat.not_lt.mp hj), l1] at hu
      rw [List.getElem?_append_right (by rw [l2]; exact Nat.not_lt.mp hj), l2] at hcj
      obtain ⟨q, hq⟩ : ∃ q, q = j - k := ⟨_, rfl⟩
      rw [← hq] at hu hcj
      match q, hu, hcj with
      | 0, hu, hcj =>
        cases Option.some.inj hu
        cases Option.some.inj hcj
        exact hx
      | q + 1, hu, hcj =>
        rw [List.getElem?_cons_succ, List.getElem?_drop] at hu hcj
        exact (h2 _ u c hu hcj).mono hs hn
theorem fr_before {l : List Nat} {r : Nat} (hs : l.Pairwise (· < ·)) (h16 : ∀ x ∈ l, x < 16) (hr : r < 16) (hn : r ∉ l) : ∀ (i : Nat) (c : UInt64), (l.map (fun k => fr k 16))[i]? = some c →
    (fr r 16 == c) = false ∧ (Float64.cmp (fr r 16) c == some .eq) = false ∧ (Float64.cmp (fr r 16) c == some .lt) = decide (cnt l r ≤ i) := by
  intro i c h
  rw [List.getElem?_map, Option.map_eq_some_iff] at h
  obtain ⟨y, hy, rfl⟩ := h
  have hm := List.mem_of_getElem? hy
  have hne : r ≠ y := fun e => hn (e ▸ hm)
  obtain ⟨q1, q2, q3⟩ := fr_cmp r hr y (h16 y hm) hne
  refine ⟨q1, q2, ?_⟩
  rw [q3]
  have := cnt_spec (x := r) hs i y hy
  have h2 : (r < y) ↔ cnt l r ≤ i := ⟨fun h => Nat.not_lt.mp (fun e => absurd (this.mpr e) (Nat.lt_asymm h)), fun h => Nat.lt_of_le_of_ne (Nat.not_lt.mp (fun e => absurd (this.mp e) (Nat.not_lt.mpr h))) hne⟩
  simp only [h2]
end Mine
end

-- Lc2
section
open PySem PySem.W PyProof.Rows PySem.Spec PySem.Calls
set_option Elab.async false
set_option linter.unusedVariables false
namespace Mine
section
variable {prog : Program} {w : World} {A : Around} {E : Value → Shared → Prop} {R : Result → Shared → Prop} {s : Shared}
theorem compTurn0 (elt t0 i0 t1 i1 : Expr) (scope : Scope) (pos : Pos) (it acc : Value) (env : Env) :
    compTurn (.ListComp elt [⟨t0, i0, [], 0⟩, ⟨t1, i1, [], 0⟩] scope pos) 0 it acc env = (standAt i0.pos >>= fun _ => pyNext it >>= fun r => match r with
      | none => pure (.done .next)
      | some v => letOwnedTupleGo t0 it v >>= fun _ => assign t0 env v >>= fun _ =>
        eval i1 env >>= fun x => standAt i1.pos >>= fun _ => foldedSetIterable i1 env x >>= fun x => holding [x] (pyIter x) >>= fun y =>
          runOwn (.compStart (.ListComp elt [⟨t0, i0, [], 0⟩, ⟨t1, i1, [], 0⟩] scope pos) 1 y acc env) env >>= fun _ =>
          again (.compLoop (.ListComp elt [⟨t0, i0, [], 0⟩, ⟨t1, i1, [], 0⟩] scope pos) 0 it acc env)) := by rfl
theorem compTurn1 (elt t0 i0 t1 i1 : Expr) (scope : Scope) (pos : Pos) (it acc : Value) (env : Env) :
    compTurn (.ListComp elt [⟨t0, i0, [], 0⟩, ⟨t1, i1, [], 0⟩] scope pos) 1 it acc env = (standAt i1.pos >>= fun _ => pyNext it >>= fun r => match r with
      | none => pure (.done .next)
      | some v => letOwnedTupleGo t1 it v >>= fun _ => assign t1 env v >>= fun _ =>
        (eval elt env >>= fun x => call (.builtin "list.append") [acc, x] >>= fun _ => pure ()) >>= fun _ =>
          again (.compLoop (.ListComp elt [⟨t0, i0, [], 0⟩, ⟨t1, i1, [], 0⟩] scope pos) 1 it acc env)) := by rfl
theorem loop1 {elt t0 i0 t1 i1 : Expr} {scope : Scope} {pos : Pos} {it acc : Value} {env : Env} (I : Nat → Shared → Prop)
    (turn : ∀ n s, I n s → wpAny (model prog w) A (pyNext it) (fun r s₁ => match r with
      | none => R (.ok .next) s₁
      | some v => wpAny (model prog w) A (assign t1 env v) (fun _ s₂ => wpAny (model prog w) A (eval elt env) (fun x s₃ =>
          wpAny (model prog w) A (call (.builtin "list.append") [acc, x]) (fun _ s₄ => ∃ m, m < n ∧ I m s₄) (notedBy (model prog w) A env fun e s' => R (.error e) s') s₃)
          (notedBy (model prog w) A env fun e s' => R (.error e) s') s₂) (notedBy (model prog w) A env fun e s' => R (.error e) s') s₁) (notedBy (model prog w) A env fun e s' => R (.error e) s') s)
    (n : Nat) (h : I n s) (ht : ∀ v, letOwnedTupleGo t1 it v = pure () := by intro _; rfl) :
    codeAny (model prog w) A (.compLoop (.ListComp elt [⟨t0, i0, [], 0⟩, ⟨t1, i1, [], 0⟩] scope pos) 1 it acc env) R s := by
  refine codeAny_loop rfl I (fun n s hI => ?_) n h
  show wpAny _ _ ((compTurn (.ListComp elt [⟨t0, i0, [], 0⟩, ⟨t1, i1, [], 0⟩] scope pos) 1 it acc env).onRaise (fun x => do noteFrame x env; theTreesLotGoes x)) _ _ s
  refine wpAny_noted ?_
  rw [compTurn1]
  refine wpAny_bind (wpAny_standAt (wpAny_bind (wpAny_mono (turn n s hI) (fun r s₁ h₁ => ?_) fun _ _ h' => h')))
  cases r with
  | none => exact wpAny_pure h₁
  | some v =>
    refine wpAny_bind (wpAny_of_eq (ht v) ?_)
    exact wpAny_bind (wpAny_mono h₁ (fun _ s₂ h₂ => wpAny_bind (wpAny_bind (wpAny_mono h₂ (fun x s₃ h₃ => wpAny_bind (wpAny_mono h₃
      (fun _ s₄ h₄ => wpAny_pure (wpAny_pure ⟨rfl, h₄⟩)) fun _ _ h' => h')) fun _ _ h' => h'))) fun _ _ h' => h')
theorem start1 {elt t0 i0 t1 i1 : Expr} {scope : Scope} {pos : Pos} {it acc : Value} {env : Env}
    (h0 : codeAny (model prog w) A (.compLoop (.ListComp elt [⟨t0, i0, [], 0⟩, ⟨t1, i1, [], 0⟩] scope pos) 1 it acc env) R s)
    (h : wpAny (model prog w) A (pyIter it) (fun it' s' => codeAny (model prog w) A (.compLoop (.ListComp elt [⟨t0, i0, [], 0⟩, ⟨t1, i1, [], 0⟩] scope pos) 1 it' acc env) R s')
      (notedBy (model prog w) A env fun x s' => R (.error x) s') s) :
    codeAny (model prog w) A (.compStart (.ListComp elt [⟨t0, i0, [], 0⟩, ⟨t1, i1, [], 0⟩] scope pos) 1 it acc env) R s := by
  refine codeAny_of_tree ?_
  show wpAny _ _ ((compStart (.ListComp elt [⟨t0, i0, [], 0⟩, ⟨t1, i1, [], 0⟩] scope pos) 1 it acc env).onRaise (fun x => do noteFrame x env; standAt theWindowsPlace)) _ _ s
  refine wpAny_notedAt ?_
  unfold compStart
  show wpAny _ _ (ask >>= _) _ _ s
  refine wpAny_bind (wpAny_askSetting (wpAny_ite ?_))
  split
  · first
      | exact wpAny_bind (wpAny_pure (wpAny_pure (And.intro rfl h0)))
      | exact wpAny_pure (And.intro rfl h0)
  · first
      | exact wpAny_bind (wpAny_rule (wpAny_bind (wpAny_standAt (wpAny_bind (wpAny_mono h (fun it' s' h' => wpAny_pure (And.intro rfl h')) fun _ _ x => x)))))
      | (refine wpAny_bind (wpAny_rule ?_); show wpAny _ _ (standAt i1.pos >>= _) _ _ s; exact wpAny_bind (wpAny_standAt (wpAny_bind (wpAny_mono h (fun it' s' h' => wpAny_pure (And.intro rfl h')) fun _ _ x => x))))
theorem loop0 {elt t0 i0 t1 i1 : Expr} {scope : Scope} {pos : Pos} {it acc : Value} {env : Env} (I : Nat → Shared → Prop)
    (hs : ∀ x, foldedSetIterable i1 env x = pure x)
    (turn : ∀ n s, I n s → wpAny (model prog w) A (pyNext it) (fun r s₁ => match r with
      | none => R (.ok .next) s₁
      | some v => wpAny (model prog w) A (assign t0 env v) (fun _ s₂ => wpAny (model prog w) A (eval i1 env) (fun x s₃ => wpAny (model prog w) A (pyIter x) (fun y s₄ =>
          codeAny (model prog w) A (.compStart (.ListComp elt [⟨t0, i0, [], 0⟩, ⟨t1, i1, [], 0⟩] scope pos) 1 y acc env) (fun r s' => match r with | .ok f => ∃ m, m < n ∧ I m s' | .error e => cameBackBy (model prog w) A env (notedBy (model prog w) A env fun e s' => R (.error e) s') e s') s₄)
          (notedBy (model prog w) A env fun e s' => R (.error e) s') s₃) (notedBy (model prog w) A env fun e s' => R (.error e) s') s₂) (notedBy (model prog w) A env fun e s' => R (.error e) s') s₁) (notedBy (model prog w) A env fun e s' => R (.error e) s') s)
    (n : Nat) (h : I n s) (ht : ∀ v, letOwnedTupleGo t0 it v = pure () := by intro _; rfl) :
    codeAny (model prog w) A (.compLoop (.ListComp elt [⟨t0, i0, [], 0⟩, ⟨t1, i1, [], 0⟩] scope pos) 0 it acc env) R s := by
  refine codeAny_loop rfl I (fun n s hI => ?_) n h
  show wpAny _ A ((compTurn (.ListComp elt [⟨t0, i0, [], 0⟩, ⟨t1, i1, [], 0⟩] scope pos) 0 it acc env).onRaise (fun x => do noteFrame x env; theTreesLotGoes x)) _ _ s
  refine wpAny_noted ?_
  rw [compTurn0]
  refine wpAny_bind (wpAny_standAt (wpAny_bind (wpAny_mono (turn n s hI) (fun r s₁ h₁ => ?_) fun _ _ h' => h')))
  cases r with
  | none => exact wpAny_pure h₁
  | some v =>
    refine wpAny_bind (wpAny_of_eq (ht v) ?_)
    refine wpAny_bind (wpAny_mono h₁ (fun _ s₂ h₂ => ?_) fun _ _ h' => h')
    refine wpAny_bind (wpAny_mono h₂ (fun x s₃ h₃ => ?_) fun _ _ h' => h')
    refine wpAny_bind (wpAny_standAt (wpAny_bind (wpAny_of_eq (hs x) (wpAny_bind (wpAny_holding (wpAny_mono h₃ (fun y s₄ h₄ => ?_) fun _ _ h' => h'))))))
    refine wpAny_bind (wpAny_runOwn (codeAny_mono h₄ (fun r s' hr => ?_)))
    cases r with
    | ok f => exact wpAny_pure ⟨rfl, hr⟩
    | error e => exact hr
end
end Mine
namespace Mine
open PyProof.Rows.LCg
section
variable {prog : Program} {w : World} {A : Around} {E : Value → Shared → Prop} {s : Shared} {h₀ : Heap} {L : Addr} {m : Str → Option Value} {env : Env}
/-- the frame, the comprehension's letters and the ledger stand in h -/
noncomputable def Wd (h₀ : Heap) (L C : Addr) (m : Str → Option Value) (nws : List (Addr × Obj)) (h : Heap) (mc : Str → Option Value) : Prop :=
  Fr h₀ L h m ∧ h.Ns C mc ∧ News h₀ L h nws
theorem Wd.but {C X : Addr} {nws : List (Addr × Obj)} {h h' : Heap} {mc : Str → Option Value} (W : Wd h₀ L C m nws h mc) (hb : ∀ b o, b ≠ X → h.get? b = some o → h'.get? b = some o) (hL : X ≠ L) (hC : X ≠ C) (hn : ∀ p ∈ nws, p.1 ≠ X) (h0 : h₀.get? X = none) :
    Wd h₀ L C m nws h' mc :=
  ⟨⟨W.1.ns.at' fun o e => hb _ o (Ne.symm hL) e, fun b o e => hb b o (fun z => by rw [z, h0] at e; cases e) (W.1.keep b o e), W.1.above⟩, W.2.1.at' fun o e => hb _ o (Ne.symm hC) e, fun p hp => ⟨hb _ _ (hn p hp) (W.2.2 p hp).1, (W.2.2 p hp).2⟩⟩
end
end Mine
namespace Mine
open PyProof.Rows.LCg
section
variable {prog : Program} {w : World} {A : Around} {E : Value → Shared → Prop} {s : Shared} {h₀ : Heap} {L : Addr} {m : Str → Option Value} {env : Env}
theorem ints_snoc {ys : List Value} {l : List Nat} {x : Nat} {t : Tok} (h : IntsAre ys (l.map Int.ofNat)) : IntsAre (ys ++ [.int ((x : Nat) : Int) t]) ((l ++ [x]).map Int.ofNat) := by
  rw [List.map_append]
  exact ints_app h (.cons _ _ .nil)
theorem ints_len {ys : List Value} {l : List Nat} (h : IntsAre ys (l.map Int.ofNat)) : ys.length = l.length := by
  rw [h.length, List.length_map]
theorem inner2 {elt i0 i1 : Expr} {x0 x1 : Str} {p0 p1 pos : Pos} {scope : Scope} {cl : List (Str × Addr)} {C D P I2 : Addr} {pv ys : List Value} {np : Nat} {ps base : List Nat} {g : Nat → Nat} {news : List (Addr × Obj)} {mc : Str → Option Value} {v0 : Option Value} {R : Result → Shared → Prop}
    (hh : A.handled = none) (hx1 : scope.names.lookup x1 = some .local) (hkind : scope.kind = .function) (h01 : x0 ≠ x1)
    (hiP : IntsAre pv (ps.map Int.ofNat)) (hP : (P, listOf pv.toArray np) ∈ news) (hsz : base.length + ps.length ≤ sizeLine)
    (d1 : I2 ≠ L) (d2 : I2 ≠ C) (d3 : I2 ≠ D) (d4 : C ≠ L) (d5 : C ≠ D) (d6 : D ≠ L) (off : ∀ p ∈ news, p.1 ≠ I2 ∧ p.1 ≠ C ∧ p.1 ≠ D) (n1 : h₀.get? I2 = none) (n2 : h₀.get? C = none) (n3 : h₀.get? D = none)
    (hit : s.heap.IsListIter I2 P 0) (W : Wd h₀ L C m ((D, lst ys) :: news) s.heap mc) (hys : IntsAre ys (base.map Int.ofNat)) (hm0 : mc x0 = v0)
    (step : ∀ h tk mc' b u oC (Q' : Value → Shared → Prop) (E' : Value → Shared → Prop), b ∈ ps → NsObj oC mc' → mc' x0 = v0 → mc' x1 = some (.int ((b : Nat) : Int) u) → Fr h₀ L h m → News h₀ L h ((C, oC) :: news) → (∀ tk' t, Q' (.int ((g b : Nat) : Int) t) { s with heap := h, toks := tk' }) →
      wpAny (model prog w) A (eval elt (compEnvC scope cl C env)) Q' E' { s with heap := h, toks := tk })
    (fin : ∀ h tk ys mc', Wd h₀ L C m ((D, lst ys) :: news) h mc' → IntsAre ys ((base ++ ps.map g).map Int.ofNat) → R (.ok .next) { s with heap := h, toks := tk }) :
    codeAny (model prog w) A (.compLoop (.ListComp elt [⟨.Name x0 p0, i0, [], 0⟩, ⟨.Name x1 p1, i1, [], 0⟩] scope pos) 1 (.ref I2) (.ref D) (compEnvC scope cl C env)) R s := by
  have hpl := ints_len hiP
  refine loop1 (fun k s' => ∃ h tk j ys mc, s' = { s with heap := h, toks := tk } ∧ j ≤ ps.length ∧ k = ps.length + 1 - j ∧ h.IsListIter I2 P j ∧ Wd h₀ L C m ((D, lst ys) :: news) h mc ∧ mc x0 = v0 ∧ IntsAre ys ((base ++ (ps.take j).map g).map Int.ofNat)) ?_ (ps.length + 1)
    ⟨s.heap, s.toks, 0, ys, mc, rfl, Nat.zero_le _, rfl, hit, W, hm0, by rw [List.take_zero, List.map_nil, List.append_nil]; exact hys⟩
  intro k s' hPT
  refine hideG fun GG hGG => ?_
  obtain ⟨h, tk, j, ys, mc, rfl, hj, rfl, hit, W, hm0, hys⟩ := hPT
  refine hGG ?_
  clear hGG GG
  have hl : Heap.IsList h P pv.toArray := ⟨_, (W.2.2 _ (.tail _ hP)).1, rfl, np, rfl⟩
  have offI : ∀ p ∈ (D, lst ys) :: news, p.1 ≠ I2 := by
    intro p hp
    rcases List.mem_cons.mp hp with rfl | hp
    · exact Ne.symm d3
    · exact (off p hp).1
  have offC : ∀ p ∈ (D, lst ys) :: news, p.1 ≠ C := by
    intro p hp
    rcases List.mem_cons.mp hp with rfl | hp
    · exact Ne.symm d5
    · exact (off p hp).2.1
  by_cases hlt : j < ps.length
  · have hjv : j < pv.length := by omega
    obtain ⟨u, hu, _⟩ := ints_at hiP (j := j) (v := pv[j]) (List.getElem?_eq_getElem hjv)
    refine wpAny_pyNext_list_item (s := { s with heap := h, toks := tk }) hit hl (x := pv[j]) (by simp [hjv]) fun h₂ hit₂ hs₂ => ?_
    have W₂ := W.but (fun b o hb e => (hs₂.2 b hb).trans e) d1 d2 offI n1
    dsimp only
    refine wpAny_assign_Name (wpAny_storeName_local (lookup_relabel_local hx1) W₂.2.1 (fun h₃ hn₃ hs₃ => ?_) (by simp [compEnvC, relabel, hkind]))
    have hb₃ : ∀ b o, b ≠ C → h₂.get? b = some o → h₃.get? b = some o := fun b o hb e => (hs₃.2 b hb).trans e
    have F₃ : Fr h₀ L h₃ m := W₂.1.change hs₃ d4 n2
    have N₃ : News h₀ L h₃ ((D, lst ys) :: news) := fun p hp => ⟨hb₃ _ _ (offC p hp) (W₂.2.2 p hp).1, (W₂.2.2 p hp).2⟩
    refine hideG fun GG hGG => ?_
    obtain ⟨io, hio, hc, hd⟩ := hit₂
    refine hGG ?_
    clear hGG GG
    have hit₃ : h₃.IsListIter I2 P (j + 1) := ⟨io, hb₃ _ _ d2 hio, hc, hd⟩
    obtain ⟨oC, heC, hoC⟩ := ns_obj hn₃
    have hq : (ps.getD j 0) ∈ ps := by
      rw [List.getD_eq_getElem?_getD, List.getElem?_eq_getElem hlt]
      exact List.getElem_mem hlt
    rw [hu] at hoC hn₃
    refine step h₃ _ _ (ps.getD j 0) u oC _ _ hq hoC (by rw [if_neg h01]; exact hm0) (if_pos rfl) F₃ (fun p hp => ?_) (fun tk' t => ?_)
    · rcases List.mem_cons.mp hp with rfl | hp
      · exact ⟨heC, d4, n2⟩
      · exact N₃ p (.tail _ hp)
    · have hyl := ints_len hys
      refine append_at (s := { s with heap := h₃, toks := tk' }) (hsz := by
        show ys.toArray.size ≤ sizeLine
        rw [List.size_toArray, hyl, List.length_append, List.length_map, List.length_take]
        omega) (N₃ _ (.head _)).1 fun h₅ hs₅ hD₅ => ?_
      have hb₅ : ∀ b o, b ≠ D → h₃.get? b = some o → h₅.get? b = some o := fun b o hb e => (hs₅.2 b hb).trans e
      refine ⟨ps.length + 1 - (j + 1), Nat.sub_lt_sub_left (Nat.lt_succ_of_lt hlt) (Nat.lt_succ_self j), h₅, tk', j + 1, ys ++ [.int ((g (ps.getD j 0) : Nat) : Int) t], _, rfl, hlt, rfl, ⟨io, hb₅ _ _ d3 (hb₃ _ _ d2 hio), hc, hd⟩, ⟨F₃.change hs₅ d6 n3, hn₃.at' fun o e => hb₅ _ o d5 e, fun p hp => ?_⟩, by rw [if_neg h01]; exact hm0, ?_⟩
      · rcases List.mem_cons.mp hp with rfl | hp
        · exact ⟨hD₅.trans (congrArg some (lst_snoc ys _)), d6, n3⟩
        · exact ⟨hb₅ _ _ (off p hp).2.2 (N₃ p (.tail _ hp)).1, (N₃ p (.tail _ hp)).2⟩
      · have e : base ++ (ps.take (j + 1)).map g = (base ++ (ps.take j).map g) ++ [g (ps.getD j 0)] := by
          rw [List.take_add_one, List.getElem?_eq_getElem hlt, List.map_append, List.append_assoc, List.getD_eq_getElem?_getD, List.getElem?_eq_getElem hlt]
          rfl
        rw [e]
        exact ints_snoc hys
  · obtain rfl : j = ps.length := Nat.le_antisymm hj (Nat.not_lt.mp hlt)
    refine wpAny_pyNext_list_end (s := { s with heap := h, toks := tk }) hh hit hl (by simp [hpl]) fun h₂ he₂ => ?_
    rw [List.take_length] at hys
    exact fin h₂ tk ys mc (W.but (fun b o hb e => he₂ b o hb e) d1 d2 offI n1) hys
end
end Mine
end

-- Lc3
section
open PySem PySem.W PyProof.Rows PySem.Spec PySem.Calls
set_option Elab.async false
set_option linter.unusedVariables false
namespace Mine
open PyProof.Rows.LCg
section
variable {prog : Program} {w : World} {A : Around} {E : Value → Shared → Prop} {s : Shared} {h₀ : Heap} {L : Addr} {m : Str → Option Value} {env : Env}
theorem flat_len {ts ps : List Nat} {g : Nat → Nat → Nat} : (ts.flatMap fun a => ps.map (g a)).length = ts.length * ps.length := by
  induction ts with
  | nil => simp
  | cons a ts ih => rw [List.flatMap_cons, List.length_append, ih, List.length_map, List.length_cons, Nat.succ_mul]; omega
/-- [elt for x0 in T for x1 in P], over two lists of numbers -/
theorem ListComp_2 {elt i0 i1 : Expr} {x0 x1 : Str} {p0 p1 pos : Pos} {scope : Scope} {cl : List (Str × Addr)} {T P : Addr} {tv pv : List Value} {nt np : Nat} {ts ps : List Nat} {g : Nat → Nat → Nat} {news : List (Addr × Obj)} {Q : Value → Shared → Prop}
    (hh : A.handled = none) (F : Fr h₀ L s.heap m) (N : News h₀ L s.heap news) (hT : (T, listOf tv.toArray nt) ∈ news) (hP : (P, listOf pv.toArray np) ∈ news)
    (hiT : IntsAre tv (ts.map Int.ofNat)) (hiP : IntsAre pv (ps.map Int.ofNat)) (hsz : (ts.length + 1) * ps.length ≤ sizeLine)
    (hclos : closureFor scope env = pure cl) (hcell : ∀ y ∈ scope.names, y.2 ≠ .cell) (hkind : scope.kind = .function)
    (hnames : ∀ y ∈ scope.names, y.2 = .local → scope.names.lookup y.1 = some .local) (hx0 : scope.names.lookup x0 = some .local) (hx1 : scope.names.lookup x1 = some .local) (h01 : x0 ≠ x1)
    (he0 : ∀ (Q' : Value → Shared → Prop) (E' : Value → Shared → Prop), Q' (.ref T) s → wpAny (model prog w) A (eval i0 env) Q' E' s)
    (he1 : ∀ C oC mc h tk (Q' : Value → Shared → Prop) (E' : Value → Shared → Prop), NsObj oC mc → Fr h₀ L h m → News h₀ L h ((C, oC) :: news) → Q' (.ref P) { s with heap := h, toks := tk } → wpAny (model prog w) A (eval i1 (compEnvC scope cl C env)) Q' E' { s with heap := h, toks := tk })
    (step : ∀ C h tk mc' a t b u oC (Q' : Value → Shared → Prop) (E' : Value → Shared → Prop), a ∈ ts → b ∈ ps → NsObj oC mc' → mc' x0 = some (.int ((a : Nat) : Int) t) → mc' x1 = some (.int ((b : Nat) : Int) u) → Fr h₀ L h m → News h₀ L h ((C, oC) :: news) → (∀ tk' t, Q' (.int ((g a b : Nat) : Int) t) { s with heap := h, toks := tk' }) →
      wpAny (model prog w) A (eval elt (compEnvC scope cl C env)) Q' E' { s with heap := h, toks := tk })
    (fin : ∀ D h tk ys, IntsAre ys ((ts.flatMap fun a => ps.map (g a)).map Int.ofNat) → Fr h₀ L h m → News h₀ L h ((D, lst ys) :: news) → (∀ p ∈ news, @LT.lt Nat _ p.1 D) → Q (.ref D) { s with heap := h, toks := tk })
    (hs0 : ∀ x, foldedSetIterable i0 env x = pure x := by intro _; rfl) (hs1 : ∀ C x, foldedSetIterable i1 (compEnvC scope cl C env) x = pure x := by intro _ _; rfl) :
    wpAny (model prog w) A (eval (.ListComp elt [⟨.Name x0 p0, i0, [], 0⟩, ⟨.Name x1 p1, i1, [], 0⟩] scope pos) env) Q E s := by
  rw [eval_ListComp]
  refine wpAny_comprehension_free (use := none) rfl hs0 hclos hkind hnames (he0 _ _ ?_)
  refine hideG fun GG hGG => ?_
  obtain ⟨h, gs, dr, tk, os⟩ := s
  refine hGG ?_
  clear hGG GG
  dsimp only at F N
  have hl : Heap.IsList h T tv.toArray := ⟨_, (N _ hT).1, rfl, nt, rfl⟩
  have htl := ints_len hiT
  have hpl := ints_len hiP
  refine wpAny_pyIter_list (s := ⟨h, gs, dr, tk, os⟩) hl ?_
  refine wpAny_newObj_type (wpAny_newFunctionEnv hcell (by intro y hy; simp at hy) (fun h₁ hns₁ hsb₁ => ?_) hkind)
  dsimp only at hns₁ hsb₁ ⊢
  obtain ⟨I1, hI1⟩ : ∃ x, x = h.objs.size := ⟨_, rfl⟩
  obtain ⟨D, hD⟩ : ∃ x, x = (h.push { cls := .type "list_iterator", data := .fields #[.ref T, .int 0 0] }).objs.size := ⟨_, rfl⟩
  obtain ⟨C, hC⟩ : ∃ x, x = ((h.push { cls := .type "list_iterator", data := .fields #[.ref T, .int 0 0] }).push { cls := .type "list", dict := none, data := .seq ([] : List Value).toArray }).objs.size := ⟨_, rfl⟩
  rw [← hI1, ← hD, ← hC]
  rw [← hC] at hns₁ hsb₁
  have eD : D = I1 + 1 := by rw [hD, hI1, Heap.size_push]
  have eC : C = I1 + 1 + 1 := by rw [hC, hI1, Heap.size_push, Heap.size_push]
  have fresh₀ : ∀ a, h.objs.size ≤ a → h₀.get? a = none := fun a ha => by
    cases e : h₀.get? a with
    | none => rfl
    | some o' => exact absurd (Heap.lt_size (F.keep a o' e)) (Nat.not_lt.mpr ha)
  have old : ∀ b o, h.get? b = some o → h₁.get? b = some o := fun b o e => by
    have hb : @LT.lt Nat _ b h.objs.size := Heap.lt_size e
    have hbC : @LT.lt Nat _ b C := by rw [eC, hI1]; exact Nat.lt_add_one_of_lt (Nat.lt_add_one_of_lt hb)
    exact hsb₁.extBut b o (Nat.ne_of_lt hbC) (Heap.get?_push_of_some _ (Heap.get?_push_of_some _ (Heap.get?_push_of_some _ e)))
  have hLlt : L < h.objs.size := F.ns.lt
  have nlt : ∀ p ∈ news, @LT.lt Nat _ p.1 h.objs.size := fun p hp => Heap.lt_size (N p hp).1
  have hacc : h₁.get? D = some (lst []) := hsb₁.extBut _ _ (by rw [eC, eD]; exact Nat.ne_of_lt (Nat.lt_succ_self _)) (Heap.get?_push_of_some _ (by rw [hD]; exact Heap.get?_push_size _ rfl))
  have hit₁ : h₁.IsListIter I1 T 0 := ⟨_, hsb₁.extBut _ _ (by rw [eC]; exact Nat.ne_of_lt (Nat.lt_add_one_of_lt (Nat.lt_add_one _))) (Heap.get?_push_of_some _ (Heap.get?_push_of_some _ (by rw [hI1]; exact Heap.get?_push_size _ rfl))), rfl, rfl⟩
  have d1 : I1 ≠ L := by rw [hI1]; exact Nat.ne_of_gt hLlt
  have d2 : I1 ≠ C := by rw [eC]; exact Nat.ne_of_lt (Nat.lt_add_one_of_lt (Nat.lt_add_one _))
  have d3 : I1 ≠ D := by rw [eD]; exact Nat.ne_of_lt (Nat.lt_succ_self _)
  have d4 : C ≠ L := by rw [eC, hI1]; exact Nat.ne_of_gt (Nat.lt_add_one_of_lt (Nat.lt_add_one_of_lt hLlt))
  have d5 : C ≠ D := by rw [eC, eD]; exact Nat.ne_of_gt (Nat.lt_succ_self _)
  have d6 : D ≠ L := by rw [eD, hI1]; exact Nat.ne_of_gt (Nat.lt_add_one_of_lt hLlt)
  have n1 : h₀.get? I1 = none := fresh₀ _ (by rw [hI1]; exact Nat.le_refl _)
  have n2 : h₀.get? C = none := fresh₀ _ (by rw [eC, hI1]; exact Nat.le_add_right _ 2)
  have n3 : h₀.get? D = none := fresh₀ _ (by rw [eD, hI1]; exact Nat.le_succ _)
  have off : ∀ p ∈ news, p.1 ≠ I1 ∧ p.1 ≠ C ∧ p.1 ≠ D := fun p hp => by
    have := nlt p hp
    refine ⟨Nat.ne_of_lt (by rw [hI1]; exact this), Nat.ne_of_lt (by rw [eC, hI1]; exact Nat.lt_add_one_of_lt (Nat.lt_add_one_of_lt this)), Nat.ne_of_lt (by rw [eD, hI1]; exact Nat.lt_add_one_of_lt this)⟩
  have offI : ∀ (ys : List Value), ∀ p ∈ (D, lst ys) :: news, p.1 ≠ I1 := by
    intro ys p hp
    rcases List.mem_cons.mp hp with rfl | hp
    · exact Ne.symm d3
    · exact (off p hp).1
  have offC : ∀ (ys : List Value), ∀ p ∈ (D, lst ys) :: news, p.1 ≠ C := by
    intro ys p hp
    rcases List.mem_cons.mp hp with rfl | hp
    · exact Ne.symm d5
    · exact (off p hp).2.1
  have W₁ : Wd h₀ L C m ((D, lst []) :: news) h₁ (fun _ => none) := ⟨F.keeps old, hns₁, fun p hp => by
    rcases List.mem_cons.mp hp with rfl | hp
    · exact ⟨hacc, d6, n3⟩
    · exact ⟨old _ _ (N p hp).1, (N p hp).2⟩⟩
  have loop : ∀ s₃ : Shared, s₃ = ⟨h₁, gs, dr, tk + ([] : List (Str × Value)).length, os⟩ →
      codeAny (model prog w) A (.compLoop (.ListComp elt [⟨.Name x0 p0, i0, [], 0⟩, ⟨.Name x1 p1, i1, [], 0⟩] scope pos) 0 (.ref I1) (.ref D) (compEnvC scope cl C env)) (compPost (model prog w) A E none Q (.ref D) C) s₃ := by
    rintro s₃ rfl
    refine loop0 (fun k s' => ∃ h' tk' i ys mc, s' = ⟨h', gs, dr, tk', os⟩ ∧ i ≤ ts.length ∧ k = ts.length + 1 - i ∧ h'.IsListIter I1 T i ∧ Wd h₀ L C m ((D, lst ys) :: news) h' mc ∧ IntsAre ys (((ts.take i).flatMap fun a => ps.map (g a)).map Int.ofNat)) (hs1 C) ?_ (ts.length + 1)
      ⟨h₁, _, 0, [], _, rfl, Nat.zero_le _, rfl, hit₁, W₁, .nil⟩
    intro k s' hPT
    refine hideG fun GG hGG => ?_
    obtain ⟨h', tk', i, ys, mc, rfl, hi, rfl, hit, W, hys⟩ := hPT
    refine hGG ?_
    clear hGG GG
    have hl' : Heap.IsList h' T tv.toArray := ⟨_, (W.2.2 _ (.tail _ hT)).1, rfl, nt, rfl⟩
    by_cases hlt : i < ts.length
    · have hiv : i < tv.length := by rw [htl]; exact hlt
      obtain ⟨t, ht, _⟩ := ints_at hiT (j := i) (v := tv[i]) (List.getElem?_eq_getElem hiv)
      refine wpAny_pyNext_list_item (s := ⟨h', gs, dr, tk', os⟩) hit hl' (x := tv[i]) (by simp [hiv]) fun h₂ hit₂ hs₂ => ?_
      have W₂ := W.but (fun b o hb e => (hs₂.2 b hb).trans e) d1 d2 (offI ys) n1
      dsimp only
      refine wpAny_assign_Name (wpAny_storeName_local (lookup_relabel_local hx0) W₂.2.1 (fun h₃ hn₃ hs₃ => ?_) (by simp [compEnvC, relabel, hkind]))
      have hb₃ : ∀ b o, b ≠ C → h₂.get? b = some o → h₃.get? b = some o := fun b o hb e => (hs₃.2 b hb).trans e
      have F₃ : Fr h₀ L h₃ m := W₂.1.change hs₃ d4 n2
      have N₃ : News h₀ L h₃ ((D, lst ys) :: news) := fun p hp => ⟨hb₃ _ _ (offC ys p hp) (W₂.2.2 p hp).1, (W₂.2.2 p hp).2⟩
      refine hideG fun GG hGG => ?_
      obtain ⟨io, hio, hc, hd⟩ := hit₂
      refine hGG ?_
      clear hGG GG
      have hio₃ := hb₃ _ _ d2 hio
      obtain ⟨oC, heC, hoC⟩ := ns_obj hn₃
      have ha : (ts.getD i 0) ∈ ts := by
        rw [List.getD_eq_getElem?_getD, List.getElem?_eq_getElem hlt]
        exact List.getElem_mem hlt
      rw [ht] at hoC hn₃
      have NC : News h₀ L h₃ ((C, oC) :: news) := fun p hp => by
        rcases List.mem_cons.mp hp with rfl | hp
        · exact ⟨heC, d4, n2⟩
        · exact N₃ p (.tail _ hp)
      refine he1 C oC _ h₃ _ _ _ hoC F₃ NC ?_
      have hlP : Heap.IsList h₃ P pv.toArray := ⟨_, (N₃ _ (.tail _ hP)).1, rfl, np, rfl⟩
      refine wpAny_pyIter_list (s := ⟨h₃, gs, dr, _, os⟩) hlP ?_
      dsimp only
      obtain ⟨I2, hI2⟩ : ∃ x, x = h₃.objs.size := ⟨_, rfl⟩
      rw [← hI2]
      obtain ⟨h₄, hh₄⟩ : ∃ x, x = h₃.push { cls := .type "list_iterator", data := .fields #[.ref P, .int 0 0] } := ⟨_, rfl⟩
      rw [← hh₄]
      have up : ∀ b o, h₃.get? b = some o → h₄.get? b = some o := fun b o e => by rw [hh₄]; exact Heap.get?_push_of_some _ e
      have ltI2 : ∀ b o, h₃.get? b = some o → b ≠ I2 := fun b o e => by rw [hI2]; exact Nat.ne_of_lt (Heap.lt_size e)
      have n4 : h₀.get? I2 = none := by rw [hI2]; exact next_is_new F₃
      have W₄ : Wd h₀ L C m ((D, lst ys) :: (I1, io) :: news) h₄ _ := ⟨F₃.keeps up, hn₃.at' (fun o e => up _ o e), fun p hp => by
        rcases List.mem_cons.mp hp with rfl | hp
        · exact ⟨up _ _ (N₃ _ (.head _)).1, (N₃ _ (.head _)).2⟩
        · rcases List.mem_cons.mp hp with rfl | hp
          · exact ⟨up _ _ hio₃, d1, n1⟩
          · exact ⟨up _ _ (N₃ p (.tail _ hp)).1, (N₃ p (.tail _ hp)).2⟩⟩
      have hit₄ : h₄.IsListIter I2 P 0 := ⟨_, by rw [hh₄, hI2]; exact Heap.get?_push_size _ rfl, rfl, rfl⟩
      have hL2 : I2 ≠ L := by rw [hI2]; exact Nat.ne_of_gt F₃.ns.lt
      have inn : ∀ (RR : Result → Shared → Prop), (∀ h tk ys mc', Wd h₀ L C m ((D, lst ys) :: (I1, io) :: news) h mc' → IntsAre ys (((((ts.take i).flatMap fun a => ps.map (g a)) ++ ps.map (g (ts.getD i 0)))).map Int.ofNat) → RR (.ok .next) ⟨h, gs, dr, tk, os⟩) → ∀ tk, 
          codeAny (model prog w) A (.compLoop (.ListComp elt [⟨.Name x0 p0, i0, [], 0⟩, ⟨.Name x1 p1, i1, [], 0⟩] scope pos) 1 (.ref I2) (.ref D) (compEnvC scope cl C env)) RR ⟨h₄, gs, dr, tk, os⟩ := fun RR hRR tk5 =>
        inner2 (s := ⟨h₄, gs, dr, tk5, os⟩) (base := (ts.take i).flatMap fun a => ps.map (g a)) (g := g (ts.getD i 0)) hh hx1 hkind h01 hiP (.tail _ hP) (by
          rw [flat_len, List.length_take]
          have : min i ts.length * ps.length + ps.length ≤ (ts.length + 1) * ps.length := by
            rw [← Nat.succ_mul]
            exact Nat.mul_le_mul_right _ (Nat.succ_le_succ (Nat.min_le_right _ _))
          exact Nat.le_trans this hsz) hL2 (Ne.symm (ltI2 _ _ heC)) (Ne.symm (ltI2 _ _ (N₃ _ (.head _)).1)) d4 d5 d6 (fun p hp => by
            rcases List.mem_cons.mp hp with rfl | hp
            · exact ⟨ltI2 _ _ hio₃, d2, d3⟩
            · exact ⟨ltI2 _ _ (N₃ p (.tail _ hp)).1, (off p hp).2⟩) n4 n2 n3 hit₄ W₄ hys (if_pos rfl)
          (fun h tk mc' b u oC Q' E' hb hoC hm0 hm1 Fh Nh hQ => step C h tk mc' (ts.getD i 0) t b u oC Q' E' ha hb hoC hm0 hm1 Fh (fun p hp => Nh p (by
            rcases List.mem_cons.mp hp with rfl | hp
            · exact .head _
            · exact .tail _ (.tail _ hp))) hQ)
          (fun h tk ys mc' W hy => hRR h tk ys mc' W hy)
      refine start1 (inn _ ?_ _) (wpAny_pyIter_listiter (s := ⟨h₄, gs, dr, _, os⟩) hit₄ (inn _ ?_ _))
      all_goals
        intro h tk ys' mc' W' hy'
        have nI := W'.2.2 _ (.tail _ (.head _))
        refine ⟨ts.length + 1 - (i + 1), Nat.sub_lt_sub_left (Nat.lt_succ_of_lt hlt) (Nat.lt_succ_self i), h, tk, i + 1, ys', mc', rfl, hlt, rfl, ⟨io, nI.1, hc, hd⟩, ⟨W'.1, W'.2.1, fun p hp => ?_⟩, ?_⟩
        · rcases List.mem_cons.mp hp with rfl | hp
          · exact W'.2.2 _ (.head _)
          · exact W'.2.2 p (.tail _ (.tail _ hp))
        · have e : ((ts.take (i + 1)).flatMap fun a => ps.map (g a)) = ((ts.take i).flatMap fun a => ps.map (g a)) ++ ps.map (g (ts.getD i 0)) := by
            rw [List.take_add_one, List.getElem?_eq_getElem hlt, List.flatMap_append, List.getD_eq_getElem?_getD, List.getElem?_eq_getElem hlt]
            simp
          rw [e]
          exact hy'
    · obtain rfl : i = ts.length := Nat.le_antisymm hi (Nat.not_lt.mp hlt)
      refine wpAny_pyNext_list_end (s := ⟨h', gs, dr, tk', os⟩) hh hit hl' (by simp [htl]) fun h₂ he₂ => ?_
      rw [List.take_length] at hys
      have W₂ := W.but (fun b o hb e => he₂ b o hb e) d1 d2 (offI ys) n1
      refine ⟨_, W₂.2.1, fun h'' hs'' => fin D h'' tk' ys hys (W₂.1.change hs'' d4 n2) (fun p hp => ?_) (fun p hp => ?_)⟩
      · exact ⟨hs''.extBut _ _ (offC ys p hp) (W₂.2.2 p hp).1, (W₂.2.2 p hp).2⟩
      · have := nlt p hp
        rw [eD, hI1]
        omega
  exact codeAny_compStart_list (loop _ rfl) (wpAny_pyIter_listiter (s := ⟨h₁, gs, dr, _, os⟩) hit₁ (loop _ rfl))
end
end Mine
end

-- Lc4
section
open PySem PySem.W PyProof.Rows PySem.Spec PySem.Calls
set_option Elab.async false
set_option linter.unusedVariables false
namespace Mine
open PyProof.Rows.LCg
section
variable {M : Model} {A : Around} {E : Value → Shared → Prop}
theorem newEnvCell {scope : Scope} {globals : Addr} {closure : List (Str × Addr)} {qual : Str} {func : Option Addr} {code : Value} {outer : Env} {builtins : Addr} {n0 n1 n2 n3 : Str} {k0 k2 k3 : NameKind} {hp : Heap} {gs : Array GenState} {dr : Drawn} {tk : Nat} {os : OsState} {Q : Env → Shared → Prop}
    (hn : scope.names = [(n0, k0), (n1, .cell), (n2, k2), (n3, k3)]) (h0 : (k0 == NameKind.cell) = false) (h2 : (k2 == NameKind.cell) = false) (h3 : (k3 == NameKind.cell) = false)
    (hQ : Q { scope, locals := hp.objs.size, globals, cells := (n1, (hp.push { cls := .type "dict", data := .dict #[] }).objs.size) :: closure, qual, func, code := outer.code, frame := outer.frame, builtins := outer.builtins }
      ⟨(hp.push { cls := .type "dict", data := .dict #[] }).push { cls := .type "cell", data := .cell none }, gs, dr, tk, os⟩) :
    wpAny M A (newFunctionEnv scope globals closure [] qual func code (some outer) builtins) Q E ⟨hp, gs, dr, tk, os⟩ := by
  simp only [newFunctionEnv, Option.isSome_some, if_true]
  refine wpAny_bind (wpAny_alloc ?_)
  rw [hn]
  simp only [List.forIn_cons, List.forIn_nil, h0, h2, h3, Bool.false_eq_true, if_false, pure_bind]
  rw [if_pos (by rfl)]
  refine wpAny_bind (wpAny_bind (wpAny_bind (wpAny_alloc ?_)))
  exact wpAny_pure (wpAny_pure (wpAny_pure hQ))
end
section
variable {prog : Program} {w : World} {A : Around} {E : Value → Shared → Prop} {s : Shared} {h₀ : Heap} {m : Str → Option Value} {env : Env}
/-- what a comprehension over range(n) with a letter in a cell asks of its source -/
noncomputable def SrcC (prog : Program) (w : World) (A : Around) (h₀ : Heap) (m : Str → Option Value) (env : Env) (elt : Expr) (x y : Str) (scope : Scope) (cl : List (Str × Addr)) (n : Nat) (g : Nat → Nat) (Q : Flow → Shared → Prop) (xv : Value) (s₁ : Shared) : Prop :=
  ∃ r t u v news, xv = .ref r ∧ Fr h₀ env.locals s₁.heap m ∧ News h₀ env.locals s₁.heap news ∧ IsRange s₁.heap r 0 n 1 t u v ∧ Builtin.Range.small 0 n 1 = true ∧ Builtin.Range.rangeSize 0 n 1 = (n : Int) ∧ n ≤ sizeLine ∧
    (∀ i C K I D oC oK oI ys h tk (t : Tok) (E' : Value → Shared → Prop), i < n → oK.data = .cell (some (.int ((i : Nat) : Int) t)) → Fr h₀ env.locals h m → News h₀ env.locals h ((K, oK) :: (C, oC) :: (I, oI) :: (D, lst ys) :: news) →
      (∀ p ∈ news, @LT.lt Nat _ p.1 I) → @LT.lt Nat _ I D → @LT.lt Nat _ D C → @LT.lt Nat _ C K →
      wpAny (model prog w) A (eval elt (compEnvC scope ((x, K) :: cl) C env)) (EltEnd h₀ env.locals m { s₁ with heap := h, toks := tk } ((K, oK) :: (C, oC) :: (I, oI) :: (D, lst ys) :: news) (fun v => ∃ t, v = .int ((g i : Nat) : Int) t)) E' { s₁ with heap := h, toks := tk }) ∧
    (∀ D h tk ys, IntsAre ys (((List.range n).map g).map Int.ofNat) → Fr h₀ env.locals h (fun z => if z = y then some (.ref D) else m z) → News h₀ env.locals h ((D, lst ys) :: news) → (∀ p ∈ news, @LT.lt Nat _ p.1 D) → Q .next { s₁ with heap := h, toks := tk })
theorem Assign_CR {elt iter : Expr} {x y n0 n2 n3 : Str} {k0 k2 k3 : NameKind} {px py : Pos} {scope : Scope} {cl : List (Str × Addr)} {pos spos : Pos} {Q : Flow → Shared → Prop} {n : Nat} {g : Nat → Nat}
    (F₀ : Fr h₀ env.locals s.heap m) (hh : A.handled = none) (hsw : swapsWith (.ListComp elt [⟨.Name x px, iter, [], 0⟩] scope pos) (some (.Name y py)) spos.line env = pure true)
    (hclos : closureFor scope env = pure cl) (hn : scope.names = [(n0, k0), (x, .cell), (n2, k2), (n3, k3)]) (h0 : (k0 == NameKind.cell) = false) (h2 : (k2 == NameKind.cell) = false) (h3 : (k3 == NameKind.cell) = false) (hkind : scope.kind = .function)
    (hnames : ∀ z ∈ scope.names, z.2 = .local → scope.names.lookup z.1 = some .local) (hx : ∀ C K, (compEnvC scope ((x, K) :: cl) C env).kindOf x = some .cell)
    (hy : env.kindOf y = some .local) (hp : (env.scope.kind == .class || (env.scope.kind == .module && env.locals != env.globals)) = false)
    (h : wpAny (model prog w) A (eval iter env) (SrcC prog w A h₀ m env elt x y scope cl n g Q) E s)
    (hs : ∀ x, foldedSetIterable iter env x = pure x := by intro _; rfl) :
    wpAny (model prog w) A (exec (.Assign [.Name y py] (.ListComp elt [⟨.Name x px, iter, [], 0⟩] scope pos) spos) env) Q E s := by
  rw [exec_Assign_Name_used _ _ _ _ hsw]
  refine wpAny_bind (wpAny_standAt (wpAny_bind ?_))
  show wpAny _ A (do let _ ← comprehension (.ListComp elt [⟨.Name x px, iter, [], 0⟩] scope pos) scope env _ (newList []) false (eval iter env) (some (assign (.Name y py) env))) _ _ s
  refine wpAny_bind (wpAny_mono (wpAny_comprehension_free (use := some (assign (.Name y py) env)) (Q := fun _ s' => Q .next s') rfl hs hclos hkind hnames
    (wpAny_mono h (fun xv s₁ h₁ => ?_) fun _ _ e => e)) (fun _ s' hq => wpAny_pure (wpAny_pure hq)) fun _ _ e => e)
  refine hideG fun GG hGG => ?_
  obtain ⟨r, t, u, v, news, rfl, F, N, hr, hsm, hrn, hsz, step, fin⟩ := h₁
  refine hGG ?_
  clear hGG GG
  refine hideG fun GG hGG => ?_
  obtain ⟨h, gs, dr, tk, os⟩ := s₁
  refine hGG ?_
  clear hGG GG
  dsimp only at F N hr step fin
  refine wpAny_pyIter_range (s := ⟨h, gs, dr, tk, os⟩) hr hsm ?_
  rw [hrn]
  refine wpAny_newObj_type (newEnvCell hn h0 h2 h3 ?_)
  dsimp only
  obtain ⟨I, hI⟩ : ∃ x, x = h.objs.size := ⟨_, rfl⟩
  obtain ⟨H1, hH1⟩ : ∃ H, H = h.push (itR 0 n) := ⟨_, rfl⟩
  obtain ⟨D, hD⟩ : ∃ x, x = H1.objs.size := ⟨_, rfl⟩
  obtain ⟨H2, hH2⟩ : ∃ H, H = H1.push { cls := .type "list", dict := none, data := .seq ([] : List Value).toArray } := ⟨_, rfl⟩
  obtain ⟨C, hC⟩ : ∃ x, x = H2.objs.size := ⟨_, rfl⟩
  obtain ⟨H3, hH3⟩ : ∃ H, H = H2.push { cls := .type "dict", data := .dict #[] } := ⟨_, rfl⟩
  obtain ⟨K, hK⟩ : ∃ x, x = H3.objs.size := ⟨_, rfl⟩
  obtain ⟨H4, hH4⟩ : ∃ H, H = H3.push { cls := .type "cell", data := .cell none } := ⟨_, rfl⟩
  have main : codeAny (model prog w) A (.compStart (.ListComp elt [⟨.Name x px, iter, [], 0⟩] scope pos) 0 (.ref I) (.ref D) (compEnvC scope ((x, K) :: cl) C env)) (compPost (model prog w) A E (some (assign (.Name y py) env)) (fun _ s' => Q .next s') (.ref D) C) ⟨H4, gs, dr, tk, os⟩ := by
    have eD : D = I + 1 := by rw [hD, hI, hH1, Heap.size_push]
    have eC : C = I + 1 + 1 := by rw [hC, hI, hH2, hH1, Heap.size_push, Heap.size_push]
    have eK : K = I + 1 + 1 + 1 := by rw [hK, hI, hH3, hH2, hH1, Heap.size_push, Heap.size_push, Heap.size_push]
    have gI : H4.get? I = some (itR 0 n) := by rw [hH4, hH3, hH2, hH1, hI]; exact Heap.get?_push_of_some _ (Heap.get?_push_of_some _ (Heap.get?_push_of_some _ (Heap.get?_push_size _ rfl)))
    have gD : H4.get? D = some (lst []) := by rw [hH4, hH3, hH2, hD]; exact Heap.get?_push_of_some _ (Heap.get?_push_of_some _ (Heap.get?_push_size _ rfl))
    have nsC : H4.Ns C (fun _ => none) := by rw [hH4, hH3, hC]; exact (Heap.Ns.new H2 (.type "dict")).keeps (fun b o e => Heap.get?_push_of_some _ e)
    have gK : H4.get? K = some { cls := .type "cell", data := .cell none } := by rw [hH4, hK]; exact Heap.get?_push_size _ rfl
    have old : ∀ b o, h.get? b = some o → H4.get? b = some o := fun b o e => by
      rw [hH4, hH3, hH2, hH1]; exact Heap.get?_push_of_some _ (Heap.get?_push_of_some _ (Heap.get?_push_of_some _ (Heap.get?_push_of_some _ e)))
    obtain ⟨oC, gC, hoC⟩ := ns_obj nsC
    have fresh₀ : ∀ a, @LE.le Nat _ h.objs.size a → h₀.get? a = none := fun a ha => by
      cases e : h₀.get? a with
      | none => rfl
      | some o' => exact absurd (Heap.lt_size (F.keep a o' e)) (Nat.not_lt.mpr ha)
    have hLlt : @LT.lt Nat _ env.locals h.objs.size := F.ns.lt
    have nlt : ∀ p ∈ news, @LT.lt Nat _ p.1 I := fun p hp => by rw [hI]; exact Heap.lt_size (N p hp).1
    have lI : @LT.lt Nat _ env.locals I := by rw [hI]; exact hLlt
    have o1 : @LT.lt Nat _ I D := by rw [eD]; exact Nat.lt_succ_self _
    have o2 : @LT.lt Nat _ D C := by rw [eD, eC]; exact Nat.lt_succ_self _
    have o3 : @LT.lt Nat _ C K := by rw [eC, eK]; exact Nat.lt_succ_self _
    have n1 : h₀.get? I = none := fresh₀ _ (by rw [hI]; exact Nat.le_refl _)
    have oIC : @LT.lt Nat _ I C := Nat.lt_trans o1 o2
    have oIK : @LT.lt Nat _ I K := Nat.lt_trans oIC o3
    have hIle : @LE.le Nat _ h.objs.size I := by rw [hI]; exact Nat.le_refl _
    have n2 : h₀.get? C = none := fresh₀ _ (Nat.le_trans hIle (Nat.le_of_lt oIC))
    have n3 : h₀.get? D = none := fresh₀ _ (Nat.le_trans hIle (Nat.le_of_lt o1))
    have n4 : h₀.get? K = none := fresh₀ _ (Nat.le_trans hIle (Nat.le_of_lt oIK))
    have l1 : I ≠ env.locals := Nat.ne_of_gt lI
    have l2 : C ≠ env.locals := Nat.ne_of_gt (Nat.lt_trans lI oIC)
    have l3 : D ≠ env.locals := Nat.ne_of_gt (Nat.lt_trans lI o1)
    have l4 : K ≠ env.locals := Nat.ne_of_gt (Nat.lt_trans lI oIK)
    have dKI : K ≠ I := Nat.ne_of_gt oIK
    have dKC : K ≠ C := Nat.ne_of_gt o3
    have dKD : K ≠ D := Nat.ne_of_gt (Nat.lt_trans o2 o3)
    have dCI : C ≠ I := Nat.ne_of_gt oIC
    have dCD : C ≠ D := Nat.ne_of_gt o2
    have dDI : D ≠ I := Nat.ne_of_gt o1
    have N₄ : News h₀ env.locals H4 ((K, { cls := .type "cell", data := .cell none }) :: (C, oC) :: (I, itR 0 n) :: (D, lst []) :: news) := News.mk ⟨gK, l4, n4⟩ (News.mk ⟨gC, l2, n2⟩ (News.mk ⟨gI, l1, n1⟩ (News.mk ⟨gD, l3, n3⟩ (fun p hp => ⟨old _ _ (N p hp).1, (N p hp).2⟩))))
    have loop : ∀ s₃ : Shared, s₃ = ⟨H4, gs, dr, tk, os⟩ →
        codeAny (model prog w) A (.compLoop (.ListComp elt [⟨.Name x px, iter, [], 0⟩] scope pos) 0 (.ref I) (.ref D) (compEnvC scope ((x, K) :: cl) C env)) (compPost (model prog w) A E (some (assign (.Name y py) env)) (fun _ s' => Q .next s') (.ref D) C) s₃ := by
      rintro s₃ rfl
      refine codeAny_compLoop_list (fun k s' => ∃ h' tk' i ys oK vK, s' = ⟨h', gs, dr, tk', os⟩ ∧ i ≤ n ∧ k = n + 1 - i ∧ oK.data = .cell vK ∧ Fr h₀ env.locals h' m ∧ News h₀ env.locals h' ((K, oK) :: (C, oC) :: (I, itR ((i : Nat) : Int) ((n : Int) - ((i : Nat) : Int))) :: (D, lst ys) :: news) ∧ IntsAre ys (((List.range i).map g).map Int.ofNat)) ?_ (n + 1)
        ⟨H4, tk, 0, [], _, none, rfl, Nat.zero_le _, rfl, rfl, F.keeps old, by simpa using N₄, .nil⟩
      intro k s' hPT
      refine hideG fun GG hGG => ?_
      obtain ⟨h', tk', i, ys, oK, vK, rfl, hi, rfl, hoK, F', N', hys⟩ := hPT
      refine hGG ?_
      clear hGG GG
      have nI := N' _ (.tail _ (.tail _ (.head _)))
      have hit : IsRangeIter h' I ((i : Nat) : Int) ((n : Int) - ((i : Nat) : Int)) 1 := nI.1
      by_cases hlt : i < n
      · refine wpAny_pyNext_range_item (s := ⟨h', gs, dr, tk', os⟩) hit (Int.sub_pos_of_lt (Int.ofNat_lt.mpr hlt)) fun h₂ hit₂ hs₂ => ?_
        have F₂ := F'.change hs₂ l1 n1
        have hb₂ : ∀ b o, b ≠ I → h'.get? b = some o → h₂.get? b = some o := fun b o hb e => (hs₂.2 b hb).trans e
        have N₂ : News h₀ env.locals h₂ ((K, oK) :: (C, oC) :: (I, itR ((i + 1 : Nat) : Int) ((n : Int) - ((i + 1 : Nat) : Int))) :: (D, lst ys) :: news) :=
          News.mk (at_keep (News.hd N') hb₂ dKI) (News.mk (at_keep (News.hd (News.tl N')) hb₂ dCI) (News.mk ⟨by
            rw [Int.natCast_add, ← Int.sub_sub]
            exact hit₂, l1, n1⟩ (News.mk (at_keep (News.hd (News.tl (News.tl (News.tl N')))) hb₂ dDI) (News.chg (News.tl (News.tl (News.tl (News.tl N')))) hb₂ (fun p hp => Nat.ne_of_lt (nlt p hp))))))
        dsimp only
        refine wpAny_assign_Name (wpAny_storeName_cell (by simp [compEnvC, relabel, hkind]) (hx C K) (by simp [compEnvC]) ⟨oK, (N₂ _ (.head _)).1, hoK⟩ fun h₃ hv hs₃ => ?_)
        obtain ⟨oK', gK', hoK'⟩ := hv
        have F₃ := F₂.change hs₃ l4 n4
        have hb₃ : ∀ b o, b ≠ K → h₂.get? b = some o → h₃.get? b = some o := fun b o hb e => (hs₃.2 b hb).trans e
        have N₃ : News h₀ env.locals h₃ ((K, oK') :: (C, oC) :: (I, itR ((i + 1 : Nat) : Int) ((n : Int) - ((i + 1 : Nat) : Int))) :: (D, lst ys) :: news) :=
          News.mk ⟨gK', l4, n4⟩ (News.mk (at_keep (News.hd (News.tl N₂)) hb₃ (Ne.symm dKC)) (News.mk (at_keep (News.hd (News.tl (News.tl N₂))) hb₃ (Ne.symm dKI)) (News.mk (at_keep (News.hd (News.tl (News.tl (News.tl N₂)))) hb₃ (Ne.symm dKD)) (News.chg (News.tl (News.tl (News.tl (News.tl N₂)))) hb₃ (fun p hp => Nat.ne_of_lt (Nat.lt_trans (nlt p hp) oIK))))))
        refine wpAny_mono (step i C K I D oC oK' _ ys h₃ _ _ _ hlt hoK' F₃ N₃ nlt o1 o2 o3) (fun yv s₄ hy4 => ?_) fun _ _ e => e
        refine hideG fun GG hGG => ?_
        obtain ⟨h₄, tk₄, rfl, ⟨t4, rfl⟩, F₄, N₄'⟩ := hy4
        refine hGG ?_
        clear hGG GG
        have hyl : ys.length = i := by
          have := ints_len hys
          rw [List.length_map, List.length_range] at this
          exact this
        refine append_at (s := ⟨h₄, gs, dr, tk₄, os⟩) (hsz := by
          show ys.toArray.size ≤ sizeLine
          rw [List.size_toArray, hyl]
          exact Nat.le_trans (Nat.le_of_lt hlt) hsz) (N₄' _ (.tail _ (.tail _ (.tail _ (.head _))))).1 fun h₅ hs₅ hD₅ => ?_
        have hb₅ : ∀ b o, b ≠ D → h₄.get? b = some o → h₅.get? b = some o := fun b o hb e => (hs₅.2 b hb).trans e
        refine ⟨n + 1 - (i + 1), Nat.sub_lt_sub_left (Nat.lt_succ_of_lt hlt) (Nat.lt_succ_self i), h₅, tk₄, i + 1, ys ++ [.int ((g i : Nat) : Int) t4], oK', _, rfl, hlt, rfl, hoK', F₄.change hs₅ l3 n3, News.mk (at_keep (News.hd N₄') hb₅ dKD) (News.mk (at_keep (News.hd (News.tl N₄')) hb₅ dCD) (News.mk (at_keep (News.hd (News.tl (News.tl N₄'))) hb₅ (Ne.symm dDI)) (News.mk ⟨hD₅.trans (congrArg some (lst_snoc ys _)), l3, n3⟩ (News.chg (News.tl (News.tl (News.tl (News.tl N₄')))) hb₅ (fun p hp => Nat.ne_of_lt (Nat.lt_trans (nlt p hp) o1)))))), ?_⟩
        · rw [List.range_succ, List.map_append]
          exact ints_snoc hys
      · obtain rfl : i = n := Nat.le_antisymm hi (Nat.not_lt.mp hlt)
        refine wpAny_pyNext_range_end (s := ⟨h', gs, dr, tk', os⟩) hh hit (Int.le_of_eq (Int.sub_self _)) fun h₂ he₂ => ?_
        have zC := N' _ (.tail _ (.head _))
        have zD := N' _ (.tail _ (.tail _ (.tail _ (.head _))))
        have F₂ : Fr h₀ env.locals h₂ m := ⟨F'.ns.at' fun o e => he₂ _ o (Ne.symm l1) e, fun b o e => he₂ b o (fun z => by rw [z, n1] at e; cases e) (F'.keep b o e), F'.above⟩
        have gC₂ := he₂ _ _ dCI zC.1
        have gD₂ := he₂ _ _ dDI zD.1
        have N₂ : News h₀ env.locals h₂ news := fun p hp => by
          have z := N' p (.tail _ (.tail _ (.tail _ (.tail _ hp))))
          exact ⟨he₂ _ _ (Nat.ne_of_lt (nlt p hp)) z.1, z.2⟩
        show wpAny _ A (assign (.Name y py) env (.ref D)) _ _ _
        refine wpAny_assign_Name (wpAny_storeName_local hy F₂.ns (fun h₃ hn₃ hs₃ => ?_) hp)
        have hL₀ : h₀.get? env.locals = none := Heap.get?_none_of_le F₂.above
        have F₃ : Fr h₀ env.locals h₃ (fun z => if z = y then some (.ref D) else m z) := ⟨hn₃, fun b o e => hs₃.extBut b o (fun q => by rw [q, hL₀] at e; cases e) (F₂.keep b o e), F₂.above⟩
        refine ⟨_, (hoC.ns gC₂).sameBut hs₃ l2, fun h'' hs'' => fin D h'' _ ys hys (F₃.change hs'' l2 n2) (fun p hp => ?_) (fun p hp => Nat.lt_trans (nlt p hp) o1)⟩
        rcases List.mem_cons.mp hp with rfl | hp
        · exact ⟨hs''.extBut _ _ (Ne.symm dCD) (hs₃.extBut _ _ l3 gD₂), l3, n3⟩
        · have z := N₂ p hp
          exact ⟨hs''.extBut _ _ (Nat.ne_of_lt (Nat.lt_trans (nlt p hp) oIC)) (hs₃.extBut _ _ z.2.1 z.1), z.2⟩
    exact codeAny_compStart_list (loop _ rfl) (wpAny_pyIter_rangeiter (s := ⟨H4, gs, dr, tk, os⟩) (by show H4.get? I = _; exact gI) (loop _ rfl))
  subst hH4 hK hH3 hC hH2 hD hH1 hI
  exact main
end
end Mine
end

-- Lt
section
open PySem PySem.W PyProof.Rows PySem.Spec PySem.Calls
set_option Elab.async false
set_option linter.unusedVariables false
namespace Mine
open PyProof.Rows.LCg PyProof.Rows.LCt
section
variable {prog : Program} {w : World} {A : Around} {h₀ : Heap} {L : Addr} {m : Str → Option Value} {env : Env} {ct elt : PySem.Expr} {x : Str} {scope : Scope} {cl : List (Str × Addr)} {s : Shared} {P : Nat → Value → Prop}
  {Fin : List Value → List (Addr × Obj) → Prop}
noncomputable def TestEnd (h₀ : Heap) (L : Addr) (m : Str → Option Value) (s : Shared) (I C D : Addr) (oI oC oD : Obj) (B : List (Addr × Obj) → List (Addr × Obj)) (G : List (Addr × Obj) → Prop) (s₂ : Shared) : Prop :=
  ∃ h' tk' e', s₂ = { s with heap := h', toks := tk' } ∧ Fr h₀ L h' m ∧ News h₀ L h' ((I, oI) :: (C, oC) :: (D, oD) :: B e') ∧ Off3 I C D (B e') ∧ G e'
theorem restT {n : Nat} (B : List (Addr × Obj) → List (Addr × Obj)) (G : Nat → List Value → List (Addr × Obj) → Prop)
    (step : ∀ i ys e v I oI C oC D m₂ h tk (E' : Value → Shared → Prop), i < n → G i ys e → P i v → NsObj oC m₂ → m₂ x = some v → Fr h₀ L h m → News h₀ L h ((I, oI) :: (C, oC) :: (D, lst ys) :: B e) → Off3 I C D (B e) → ((@Ne Nat I C) ∧ (@Ne Nat I D) ∧ (@Ne Nat C D)) →
      wpAny (model prog w) A (isTrue ct (compEnvC scope cl C env) (eval ct (compEnvC scope cl C env))) (fun ok s' => if ok = true then
        wpAny (model prog w) A (eval elt (compEnvC scope cl C env)) (fun y s₂ => TestEnd h₀ L m { s with heap := h, toks := tk } I C D oI oC (lst ys) B (G (i + 1) (ys ++ [y])) s₂) E' s'
        else TestEnd h₀ L m { s with heap := h, toks := tk } I C D oI oC (lst ys) B (G (i + 1) ys) s') E' { s with heap := h, toks := tk })
    (fin : ∀ ys e, G n ys e → Fin ys (B e)) (e0 : List (Addr × Obj)) (h0 : G 0 [] e0) : CompRestT prog w A h₀ L m env ct elt x scope cl s (fun _ => True) P Fin n 0 [] (B e0) := by
  have key : ∀ k i (ys : List Value) (e : List (Addr × Obj)), i + k = n → G i ys e → CompRestT prog w A h₀ L m env ct elt x scope cl s (fun _ => True) P Fin k i ys (B e) := by
    intro k
    induction k with
    | zero =>
      intro i ys e hi hG
      obtain rfl : i = n := by omega
      exact CompRestT.zero (fin ys e hG)
    | succ k ih =>
      intro i ys e hi hG
      refine CompRestT.succ fun v I oI C oC D m₂ h tk E' hP hoC hm₂ F N off ne => ?_
      refine wpAny_mono (step i ys e v I oI C oC D m₂ h tk E' (by omega) hG hP hoC hm₂ F N off ne) (fun ok s' hs' => ?_) fun _ _ e => e
      cases ok with
      | true =>
        rw [if_pos rfl] at hs' ⊢
        refine wpAny_mono hs' (fun y s₂ hy => ?_) fun _ _ e => e
        obtain ⟨h', tk', e', rfl, F', N', off', G'⟩ := hy
        exact CompEnd.intro F' N' (B e') (fun p hp => hp) off' trivial (ih (i + 1) (ys ++ [y]) e' (by omega) G')
      | false =>
        rw [if_neg (by simp)] at hs' ⊢
        obtain ⟨h', tk', e', rfl, F', N', off', G'⟩ := hs'
        exact CompEnd.intro F' N' (B e') (fun p hp => hp) off' trivial (ih (i + 1) ys e' (by omega) G')
  exact key n 0 [] e0 (by omega) h0
end
end Mine
end

-- Lk
section
open PySem PySem.W PyProof.Rows
set_option Elab.async false
set_option linter.unusedVariables false
namespace Mine
theorem sorted_ext {l m : List Nat} (hl : l.Pairwise (· < ·)) (hm : m.Pairwise (· < ·)) (h : ∀ x, x ∈ l ↔ x ∈ m) : l = m := by
  induction l generalizing m with
  | nil =>
    cases m with
    | nil => rfl
    | cons y m => exact absurd ((h y).mpr (.head _)) List.not_mem_nil
  | cons x l ih =>
    cases m with
    | nil => exact absurd ((h x).mp (.head _)) List.not_mem_nil
    | cons y m =>
      have hl' := List.pairwise_cons.mp hl
      have hm' := List.pairwise_cons.mp hm
      have hxy : x = y := by
        rcases List.mem_cons.mp ((h x).mp (.head _)) with e | e
        · exact e
        · rcases List.mem_cons.mp ((h y).mpr (.head _)) with e2 | e2
          · exact e2.symm
          · have h1 := hm'.1 x e
            have h2 := hl'.1 y e2
            exact absurd h1 (Nat.lt_asymm h2)
      subst hxy
      rw [ih hl'.2 hm'.2 (fun z => ⟨fun hz => ?_, fun hz => ?_⟩)]
      · rcases List.mem_cons.mp ((h z).mp (.tail _ hz)) with e | e
        · exact absurd e (Nat.ne_of_gt (hl'.1 z hz))
        · exact e
      · rcases List.mem_cons.mp ((h z).mpr (.tail _ hz)) with e | e
        · exact absurd e (Nat.ne_of_gt (hm'.1 z hz))
        · exact e
theorem covered_lt {ts ps : List Nat} : ∀ x ∈ covered ts ps, x < 16 := by
  intro x hx
  unfold covered at hx
  obtain ⟨y, _, rfl⟩ := List.mem_map.mp hx
  exact Nat.mod_lt _ (by decide)
theorem row_want {ts ps : List Nat} (hn : (covered ts ps).Nodup) : rowN ts ps = rowWant ts ps := by
  unfold rowN rowWant
  refine sorted_ext (fold_sorted _ [] (by rw [List.nil_append]; exact hn) .nil) (List.Pairwise.filter _ List.pairwise_lt_range) (fun x => ?_)
  rw [mem_fold, List.mem_filter, List.mem_range]
  simp only [List.not_mem_nil, or_false, List.contains_iff_mem]
  exact ⟨fun h => ⟨covered_lt x h, h⟩, fun h => h.2⟩
theorem covered_len {ts ps : List Nat} : (covered ts ps).length = ts.length * ps.length := by
  unfold covered pairs
  rw [List.length_map]
  exact flat_len (g := fun t p => p + t)
theorem row_len {ts ps : List Nat} : (rowN ts ps).length = ts.length * ps.length := by
  unfold rowN
  rw [fold_len, covered_len]
  rfl
/-- what is left of lawOk for the kernel -/
noncomputable def lawK (a b c d : Nat) : Bool :=
  let ps := [a, b, c, d]
  let ls := levels a b c d
  let ts := turns ls
  let ms := masksN ps
  ts.all (Nat.blt · 16) && distinct (covered ts ps) && (Nat.beq ts.length 4 == Nat.beq ls.length 2) &&
  waysOk 4 ms ps (ms.getD 0 0) && Nat.beq (waysF 4 ms ps (ms.getD 0 0)) (bif Nat.beq ts.length 4 then dueN ls else 0)
noncomputable def kAB (a b : Nat) : Bool := (List.range 16).all fun c => Nat.ble c b || (List.range 16).all fun d => Nat.ble d c || lawK a b c d
set_option maxRecDepth 100000
noncomputable def kA (a : Nat) : Bool := (List.range 14).all fun b => Nat.ble b a || kAB a b
theorem of14 {f : Nat → Bool} (q : ∀ b ∈ [0, 1, 2, 3, 4, 5, 6, 7, 8, 9, 10, 11, 12, 13], f b = true) : (List.range 14).all f = true := List.all_eq_true.mpr q
theorem k_0_1 : (Nat.ble 1 0 || kAB 0 1) = true := by decide +kernel
theorem k_0_2 : (Nat.ble 2 0 || kAB 0 2) = true := by decide +kernel
theorem k_0_3 : (Nat.ble 3 0 || kAB 0 3) = true := by decide +kernel
theorem k_0_4 : (Nat.ble 4 0 || kAB 0 4) = true := by decide +kernel
theorem k_0_5 : (Nat.ble 5 0 || kAB 0 5) = true := by decide +kernel
theorem k_0_6 : (Nat.ble 6 0 || kAB 0 6) = true := by decide +kernel
theorem k_0_7 : (Nat.ble 7 0 || kAB 0 7) = true := by decide +kernel
theorem k_0_8 : (Nat.ble 8 0 || kAB 0 8) = true := by decide +kernel
theorem k_0_9 : (Nat.ble 9 0 || kAB 0 9) = true := by decide +kernel
theorem k_0_10 : (Nat.ble 10 0 || kAB 0 10) = true := by decide +kernel
theorem k_0_11 : (Nat.ble 11 0 || kAB 0 11) = true := by decide +kernel
theorem k_0_12 : (Nat.ble 12 0 || kAB 0 12) = true := by decide +kernel
theorem k_0_13 : (Nat.ble 13 0 || kAB 0 13) = true := by decide +kernel
theorem k_0 : kA 0 = true := of14 (f := fun b => Nat.ble b 0 || kAB 0 b) (all_cons rfl (all_cons k_0_1 (all_cons k_0_2 (all_cons k_0_3 (all_cons k_0_4 (all_cons k_0_5 (all_cons k_0_6 (all_cons k_0_7 (all_cons k_0_8 (all_cons k_0_9 (all_cons k_0_10 (all_cons k_0_11 (all_cons k_0_12 (all_cons k_0_13 all_nil))))))))))))))
theorem k_1_2 : (Nat.ble 2 1 || kAB 1 2) = true := by decide +kernel
theorem k_1_3 : (Nat.ble 3 1 || kAB 1 3) = true := by decide +kernel
theorem k_1_4 : (Nat.ble 4 1 || kAB 1 4) = true := by decide +kernel
theorem k_1_5 : (Nat.ble 5 1 || kAB 1 5) = true := by decide +kernel
theorem k_1_6 : (Nat.ble 6 1 || kAB 1 6) = true := by decide +kernel
theorem k_1_7 : (Nat.ble 7 1 || kAB 1 7) = true := by decide +kernel
theorem k_1_8 : (Nat.ble 8 1 || kAB 1 8) = true := by decide +kernel
theorem k_1_9 : (Nat.ble 9 1 || kAB 1 9) = true := by decide +kernel
theorem k_1_10 : (Nat.ble 10 1 || kAB 1 10) = true := by decide +kernel
theorem k_1_11 : (Nat.ble 11 1 || kAB 1 11) = true := by decide +kernel
theorem k_1_12 : (Nat.ble 12 1 || kAB 1 12) = true := by decide +kernel
theorem k_1_13 : (Nat.ble 13 1 || kAB 1 13) = true := by decide +kernel
theorem k_1 : kA 1 = true := of14 (f := fun b => Nat.ble b 1 || kAB 1 b) (all_cons rfl (all_cons rfl (all_cons k_1_2 (all_cons k_1_3 (all_cons k_1_4 (all_cons k_1_5 (all_cons k_1_6 (all_cons k_1_7 (all_cons k_1_8 (all_cons k_1_9 (all_cons k_1_10 (all_cons k_1_11 (all_cons k_1_12 (all_cons k_1_13 all_nil))))))))))))))
theorem k_2_3 : (Nat.ble 3 2 || kAB 2 3) = true := by decide +kernel
theorem k_2_4 : (Nat.ble 4 2 || kAB 2 4) = true := by decide +kernel
theorem k_2_5 : (Nat.ble 5 2 || kAB 2 5) = true := by decide +kernel
theorem k_2_6 : (Nat.ble 6 2 || kAB 2 6) = true := by decide +kernel
theorem k_2_7 : (Nat.ble 7 2 || kAB 2 7) = true := by decide +kernel
theorem k_2_8 : (Nat.ble 8 2 || kAB 2 8) = true := by decide +kernel
theorem k_2_9 : (Nat.ble 9 2 || kAB 2 9) = true := by decide +kernel
theorem k_2_10 : (Nat.ble 10 2 || kAB 2 10) = true := by decide +kernel
theorem k_2_11 : (Nat.ble 11 2 || kAB 2 11) = true := by decide +kernel
theorem k_2_12 : (Nat.ble 12 2 || kAB 2 12) = true := by decide +kernel
theorem k_2_13 : (Nat.ble 13 2 || kAB 2 13) = true := by decide +kernel
theorem k_2 : kA 2 = true := of14 (f := fun b => Nat.ble b 2 || kAB 2 b) (all_cons rfl (all_cons rfl (all_cons rfl (all_cons k_2_3 (all_cons k_2_4 (all_cons k_2_5 (all_cons k_2_6 (all_cons k_2_7 (all_cons k_2_8 (all_cons k_2_9 (all_cons k_2_10 (all_cons k_2_11 (all_cons k_2_12 (all_cons k_2_13 all_nil))))))))))))))
theorem k_3_4 : (Nat.ble 4 3 || kAB 3 4) = true := by decide +kernel
theorem k_3_5 : (Nat.ble 5 3 || kAB 3 5) = true := by decide +kernel
theorem k_3_6 : (Nat.ble 6 3 || kAB 3 6) = true := by decide +kernel
theorem k_3_7 : (Nat.ble 7 3 || kAB 3 7) = true := by decide +kernel
theorem k_3_8 : (Nat.ble 8 3 || kAB 3 8) = true := by decide +kernel
theorem k_3_9 : (Nat.ble 9 3 || kAB 3 9) = true := by decide +kernel
theorem k_3_10 : (Nat.ble 10 3 || kAB 3 10) = true := by decide +kernel
theorem k_3_11 : (Nat.ble 11 3 || kAB 3 11) = true := by decide +kernel
theorem k_3_12 : (Nat.ble 12 3 || kAB 3 12) = true := by decide +kernel
theorem k_3_13 : (Nat.ble 13 3 || kAB 3 13) = true := by decide +kernel
theorem k_3 : kA 3 = true := of14 (f := fun b => Nat.ble b 3 || kAB 3 b) (all_cons rfl (all_cons rfl (all_cons rfl (all_cons rfl (all_cons k_3_4 (all_cons k_3_5 (all_cons k_3_6 (all_cons k_3_7 (all_cons k_3_8 (all_cons k_3_9 (all_cons k_3_10 (all_cons k_3_11 (all_cons k_3_12 (all_cons k_3_13 all_nil))))))))))))))
theorem k_4_5 : (Nat.ble 5 4 || kAB 4 5) = true := by decide +kernel
theorem k_4_6 : (Nat.ble 6 4 || kAB 4 6) = true := by decide +kernel
theorem k_4_7 : (Nat.ble 7 4 || kAB 4 7) = true := by decide +kernel
theorem k_4_8 : (Nat.ble 8 4 || kAB 4 8) = true := by decide +kernel
theorem k_4_9 : (Nat.ble 9 4 || kAB 4 9) = true := by decide +kernel
theorem k_4_10 : (Nat.ble 10 4 || kAB 4 10) = true := by decide +kernel
theorem k_4_11 : (Nat.ble 11 4 || kAB 4 11) = true := by decide +kernel
theorem k_4_12 : (Nat.ble 12 4 || kAB 4 12) = true := by decide +kernel
theorem k_4_13 : (Nat.ble 13 4 || kAB 4 13) = true := by decide +kernel
theorem k_4 : kA 4 = true := of14 (f := fun b => Nat.ble b 4 || kAB 4 b) (all_cons rfl (all_cons rfl (all_cons rfl (all_cons rfl (all_cons rfl (all_cons k_4_5 (all_cons k_4_6 (all_cons k_4_7 (all_cons k_4_8 (all_cons k_4_9 (all_cons k_4_10 (all_cons k_4_11 (all_cons k_4_12 (all_cons k_4_13 all_nil))))))))))))))
theorem k_5_6 : (Nat.ble 6 5 || kAB 5 6) = true := by decide +kernel
theorem k_5_7 : (Nat.ble 7 5 || kAB 5 7) = true := by decide +kernel
theorem k_5_8 : (Nat.ble 8 5 || kAB 5 8) = true := by decide +kernel
theorem k_5_9 : (Nat.ble 9 5 || kAB 5 9) = true := by decide +kernel
theorem k_5_10 : (Nat.ble 10 5 || kAB 5 10) = true := by decide +kernel
theorem k_5_11 : (Nat.ble 11 5 || kAB 5 11) = true := by decide +kernel
theorem k_5_12 : (Nat.ble 12 5 || kAB 5 12) = true := by decide +kernel
theorem k_5_13 : (Nat.ble 13 5 || kAB 5 13) = true := by decide +kernel
theorem k_5 : kA 5 = true := of14 (f := fun b => Nat.ble b 5 || kAB 5 b) (all_cons rfl (all_cons rfl (all_cons rfl (all_cons rfl (all_cons rfl (all_cons rfl (all_cons k_5_6 (all_cons k_5_7 (all_cons k_5_8 (all_cons k_5_9 (all_cons k_5_10 (all_cons k_5_11 (all_cons k_5_12 (all_cons k_5_13 all_nil))))))))))))))
theorem k_6 : kA 6 = true := by decide +kernel
theorem k_7 : kA 7 = true := by decide +kernel
theorem k_8 : kA 8 = true := by decide +kernel
theorem k_9 : kA 9 = true := by decide +kernel
theorem k_10 : kA 10 = true := by decide +kernel
theorem k_11 : kA 11 = true := by decide +kernel
theorem k_12 : kA 12 = true := by decide +kernel
theorem kAB_to {a b c d : Nat} (h : kAB a b = true) (hbc : b < c) (hcd : c < d) (hd : d < 16) : lawK a b c d = true := by
  have h1 := List.all_eq_true.mp h c (List.mem_range.mpr (Nat.lt_trans hcd hd))
  exact ble_off (List.all_eq_true.mp (ble_off h1 hbc) d (List.mem_range.mpr hd)) hcd
theorem kA_all {a : Nat} (ha : a ≤ 12) : kA a = true := by
  have q : ∀ x ∈ [0, 1, 2, 3, 4, 5, 6, 7, 8, 9, 10, 11, 12], kA x = true := all_cons k_0 (all_cons k_1 (all_cons k_2 (all_cons k_3 (all_cons k_4 (all_cons k_5 (all_cons k_6 (all_cons k_7 (all_cons k_8 (all_cons k_9 (all_cons k_10 (all_cons k_11 (all_cons k_12 (all_nil)))))))))))))
  have e : List.range 13 = [0, 1, 2, 3, 4, 5, 6, 7, 8, 9, 10, 11, 12] := rfl
  exact q a (e ▸ List.mem_range.mpr (Nat.lt_succ_of_le ha))
theorem kAB_all {a b : Nat} (hab : a < b) (hb : b ≤ 13) : kAB a b = true := by
  have h1 := List.all_eq_true.mp (kA_all (Nat.le_of_lt_succ (Nat.lt_of_lt_of_le hab hb))) b (List.mem_range.mpr (Nat.lt_succ_of_le hb))
  exact ble_off h1 hab
theorem beq_eq (x y : Nat) : (Nat.beq x y = true) = (x = y) := propext ⟨Nat.eq_of_beq_eq_true, fun h => by rw [h]; simp⟩
theorem lawK_un {a b c d : Nat} (h : lawK a b c d = true) :
    (∀ x ∈ turns (levels a b c d), x < 16) ∧ (covered (turns (levels a b c d)) [a, b, c, d]).Nodup ∧ rowN (turns (levels a b c d)) [a, b, c, d] = rowWant (turns (levels a b c d)) [a, b, c, d] ∧
    ((rowN (turns (levels a b c d)) [a, b, c, d]).length = 16 ↔ (levels a b c d).length = 2) ∧ waysOk 4 (masksN [a, b, c, d]) [a, b, c, d] ((masksN [a, b, c, d]).getD 0 0) = true ∧
    waysF 4 (masksN [a, b, c, d]) [a, b, c, d] ((masksN [a, b, c, d]).getD 0 0) = if (rowN (turns (levels a b c d)) [a, b, c, d]).length = 16 then dueN (levels a b c d) else 0 := by
  unfold lawK at h
  simp only [Bool.and_eq_true, List.all_eq_true, beq_eq] at h
  obtain ⟨⟨⟨⟨h2, h3⟩, h5⟩, h6⟩, h7⟩ := h
  have h5' : (turns (levels a b c d)).length = 4 ↔ (levels a b c d).length = 2 := by
    rw [← beq_eq, ← beq_eq, beq_iff_eq.mp h5]
  have hl : (rowN (turns (levels a b c d)) [a, b, c, d]).length = (turns (levels a b c d)).length * 4 := row_len
  have h16 : (rowN (turns (levels a b c d)) [a, b, c, d]).length = 16 ↔ (turns (levels a b c d)).length = 4 := by rw [hl]; exact ⟨fun e => Nat.eq_of_mul_eq_mul_right (by decide : 0 < 4) (show _ = 4 * 4 from e), fun e => by rw [e]⟩
  refine ⟨fun x hx => Nat.blt_eq.mp (h2 x hx), distinct_nodup h3, row_want (distinct_nodup h3), h16.trans h5', h6, ?_⟩
  rw [h7]
  by_cases e : (turns (levels a b c d)).length = 4
  · rw [if_pos (h16.mpr e), e]
    rfl
  · rw [if_neg (fun h => e (h16.mp h)), show Nat.beq (turns (levels a b c d)).length 4 = false from Bool.eq_false_iff.mpr (fun h => e (Nat.eq_of_beq_eq_true h))]
    rfl
theorem law_facts {a b c d : Nat} (hab : a < b) (hbc : b < c) (hcd : c < d) (hd : d < 16) :
    (∀ x ∈ turns (levels a b c d), x < 16) ∧ (covered (turns (levels a b c d)) [a, b, c, d]).Nodup ∧ rowN (turns (levels a b c d)) [a, b, c, d] = rowWant (turns (levels a b c d)) [a, b, c, d] ∧
    ((rowN (turns (levels a b c d)) [a, b, c, d]).length = 16 ↔ (levels a b c d).length = 2) ∧ waysOk 4 (masksN [a, b, c, d]) [a, b, c, d] ((masksN [a, b, c, d]).getD 0 0) = true ∧
    waysF 4 (masksN [a, b, c, d]) [a, b, c, d] ((masksN [a, b, c, d]).getD 0 0) = if (rowN (turns (levels a b c d)) [a, b, c, d]).length = 16 then dueN (levels a b c d) else 0 := lawK_un (kAB_to (kAB_all hab (Nat.le_of_succ_le_succ (Nat.le_of_succ_le_succ (Nat.le_of_succ_le_succ (Nat.le_trans (Nat.succ_le_succ (Nat.le_trans (Nat.succ_le_succ hbc) hcd)) hd))))) hbc hcd hd)
end Mine
end

-- Rg
section
open PySem PySem.W PyProof.Rows
set_option Elab.async false
set_option linter.unusedVariables false
namespace Mine
noncomputable def marksL : List Str := [Str.ofString "|", Str.ofString "!", Str.ofString ":", Str.ofString ";"]
end Mine
end

-- Ps
section
open PySem PySem.W PyProof.Rows PySem.StrLaws PySem.Builtin PySem.Builtin.Str
set_option Elab.async false
set_option linter.unusedVariables false
namespace Mine
/-- the places of c in l, counted from o -/
noncomputable def posL (c : Nat) : List Nat → Nat → List Nat
  | [], _ => []
  | x :: r, o => bif Nat.beq x c then o :: posL c r (o + 1) else posL c r (o + 1)
noncomputable def splitL (c : Nat) : List Nat → List Nat → List (List Nat)
  | [], acc => [acc.reverse]
  | x :: r, acc => bif Nat.beq x c then acc.reverse :: splitL c r [] else splitL c r (x :: acc)
theorem posL_cons {c : Nat} (x : Nat) {r : List Nat} {o : Nat} : posL c (x :: r) o = bif Nat.beq x c then o :: posL c r (o + 1) else posL c r (o + 1) := rfl
theorem subAt_one (l : List Nat) (c i : Nat) (h : i < l.length) : subAt ⟨l.toArray⟩ ⟨#[c]⟩ i = Nat.beq l[i] c := by
  have e : ((⟨l.toArray⟩ : Str).cps.extract i (i + (⟨#[c]⟩ : Str).length)) = #[l[i]] := by
    show l.toArray.extract i (i + 1) = #[l[i]]
    rw [List.extract_toArray, List.extract_eq_take_drop, Nat.add_sub_cancel_left, List.drop_eq_getElem_cons h]
    rfl
  unfold subAt
  rw [e]
  show (#[l[i]] == #[c]) = _
  by_cases hc : l[i] = c
  · rw [hc]
    simp
  · have : Nat.beq l[i] c = false := Bool.eq_false_iff.mpr (fun h => hc (Nat.eq_of_beq_eq_true h))
    rw [this]
    simp [hc]
theorem stepN {n L i : Nat} (h : n + 1 = L + 1 - i) : n = L + 1 - (i + 1) := by
  rw [← Nat.sub_sub, ← h]
  rfl
theorem stepL {n L i : Nat} (h : n + 1 = L + 1 - i) : i + 1 ≤ L + 1 := Nat.lt_of_sub_pos (by rw [← h]; exact Nat.succ_pos _)
theorem stepZ {L i : Nat} (h : 0 = L + 1 - i) : L ≤ i := Nat.le_of_succ_le (Nat.le_of_sub_eq_zero h.symm)
theorem occ_run (l : List Nat) (c limit : Nat) : ∀ (n i : Nat) (st : Array Nat × Nat), n = l.length + 1 - i → i ≤ l.length + 1 → st.snd ≤ i → st.fst.size ≤ limit →
    (forIn (List.range' i n) st (occBody ⟨l.toArray⟩ ⟨#[c]⟩ l.length limit)).run.fst.toList = st.fst.toList ++ (posL c (l.drop i) i).take (limit - st.fst.size) := by
  intro n
  induction n with
  | zero =>
    intro i st hn hi _ _
    rw [List.drop_eq_nil_of_le (stepZ hn)]
    rw [show posL c [] i = [] from rfl, List.take_nil, List.append_nil]
    rfl
  | succ n ih =>
    intro i st hn hi hs hl
    rw [List.range'_succ, List.forIn_cons]
    unfold occBody
    by_cases hlt : i < l.length
    · rw [subAt_one l c i hlt, List.drop_eq_getElem_cons hlt]
      by_cases hc : Nat.beq l[i] c = true
      · by_cases hz : st.fst.size < limit
        · rw [if_pos ⟨⟨⟨hz, hs⟩, hlt⟩, hc⟩]
          refine (ih (i + 1) _ (stepN hn) (stepL hn) (Nat.le_refl _) (by show (st.fst.push i).size ≤ limit; rw [Array.size_push]; exact hz)).trans ?_
          rw [posL_cons, hc, Array.size_push, Array.toList_push]
          simp only [cond_true]
          obtain ⟨q, hq⟩ : ∃ q, limit - st.fst.size = q + 1 := ⟨limit - st.fst.size - 1, (Nat.sub_add_cancel (Nat.sub_pos_of_lt hz)).symm⟩
          rw [hq, List.take_succ_cons, show limit - (st.fst.size + 1) = q by rw [← Nat.sub_sub, hq]; rfl, List.append_assoc]
          rfl
        · rw [if_neg (fun h => hz h.1.1.1)]
          refine (ih (i + 1) _ (stepN hn) (stepL hn) (Nat.le_succ_of_le hs) hl).trans ?_
          rw [Nat.sub_eq_zero_of_le (Nat.not_lt.mp hz), List.take_zero, List.take_zero]
      · rw [if_neg (fun h => hc h.2)]
        refine (ih (i + 1) _ (stepN hn) (stepL hn) (Nat.le_succ_of_le hs) hl).trans ?_
        rw [posL_cons l[i], show Nat.beq l[i] c = false from Bool.eq_false_iff.mpr hc]
        rfl
    · rw [if_neg (fun h => hlt h.1.2)]
      refine (ih (i + 1) _ (stepN hn) (stepL hn) (Nat.le_succ_of_le hs) hl).trans ?_
      rw [List.drop_eq_nil_of_le (Nat.le_succ_of_le (Nat.not_lt.mp hlt)), List.drop_eq_nil_of_le (Nat.not_lt.mp hlt)]
      rfl
theorem occ_list (l : List Nat) (c lo limit : Nat) (h : lo ≤ l.length) : occurrences ⟨l.toArray⟩ ⟨#[c]⟩ lo l.length limit = (posL c (l.drop lo) lo).take limit := by
  rw [occ_eq, occ_run l c limit _ lo _ rfl (Nat.le_succ_of_le h) (Nat.le_refl _) (Nat.zero_le _)]
  simp
theorem last_list_run (l : List Nat) (c : Nat) : ∀ (n i : Nat) (st : Option Nat), n = l.length + 1 - i → i ≤ l.length + 1 →
    (forIn (List.range' i n) st (lastBody ⟨l.toArray⟩ ⟨#[c]⟩ l.length)).run = ((posL c (l.drop i) i).getLast?).or st := by
  intro n
  induction n with
  | zero =>
    intro i st hn hi
    rw [List.drop_eq_nil_of_le (stepZ hn)]
    rfl
  | succ n ih =>
    intro i st hn hi
    rw [List.range'_succ, List.forIn_cons]
    unfold lastBody
    by_cases hlt : i < l.length
    · rw [subAt_one l c i hlt, List.drop_eq_getElem_cons hlt]
      by_cases hc : Nat.beq l[i] c = true
      · rw [if_pos ⟨hlt, hc⟩]
        refine (ih (i + 1) _ (stepN hn) (stepL hn)).trans ?_
        rw [posL_cons l[i], hc]
        simp only [cond_true, List.getLast?_cons]
        cases (posL c (List.drop (i + 1) l) (i + 1)).getLast? <;> rfl
      · rw [if_neg (fun h => hc h.2)]
        refine (ih (i + 1) _ (stepN hn) (stepL hn)).trans ?_
        rw [posL_cons l[i], show Nat.beq l[i] c = false from Bool.eq_false_iff.mpr hc]
        rfl
    · rw [if_neg (fun h => hlt h.1)]
      refine (ih (i + 1) _ (stepN hn) (stepL hn)).trans ?_
      rw [List.drop_eq_nil_of_le (Nat.le_succ_of_le (Nat.not_lt.mp hlt)), List.drop_eq_nil_of_le (Nat.not_lt.mp hlt)]
      rfl
theorem last_list (l : List Nat) (c : Nat) : lastOccurrence ⟨l.toArray⟩ ⟨#[c]⟩ 0 l.length = (posL c l 0).getLast? := by
  rw [last_eq, last_list_run l c _ 0 _ rfl (Nat.zero_le _)]
  simp
end Mine
end

-- Pt
section
open PySem PySem.W PyProof.Rows PySem.StrLaws PySem.Builtin PySem.Builtin.Str
set_option Elab.async false
set_option linter.unusedVariables false
namespace Mine
noncomputable def joinL (c : Nat) : List (List Nat) → List Nat
  | [] => []
  | [p] => p
  | p :: q :: r => p ++ c :: joinL c (q :: r)
theorem splitL_cons {c x : Nat} {r acc : List Nat} : splitL c (x :: r) acc = bif Nat.beq x c then acc.reverse :: splitL c r [] else splitL c r (x :: acc) := rfl
theorem splitL_free {c : Nat} : ∀ (p rest acc : List Nat), c ∉ p → splitL c (p ++ rest) acc = splitL c rest (p.reverse ++ acc)
  | [], rest, acc, _ => rfl
  | x :: p, rest, acc, h => by
    have hx : Nat.beq x c = false := Bool.eq_false_iff.mpr (fun e => h (by rw [Nat.eq_of_beq_eq_true e]; exact .head _))
    rw [List.cons_append, splitL_cons, hx, cond_false, splitL_free p rest (x :: acc) (fun hm => h (.tail _ hm))]
    simp
theorem splitL_join {c : Nat} : ∀ (ps : List (List Nat)), ps ≠ [] → (∀ p ∈ ps, c ∉ p) → splitL c (joinL c ps) [] = ps
  | [], h, _ => absurd rfl h
  | [p], _, hf => by
    have := splitL_free p [] [] (hf p (.head _))
    rw [List.append_nil] at this
    show splitL c p [] = _
    rw [this]
    simp [splitL]
  | p :: q :: r, _, hf => by
    show splitL c (p ++ c :: joinL c (q :: r)) [] = _
    rw [splitL_free p _ [] (hf p (.head _)), splitL_cons, show Nat.beq c c = true by simp, cond_true, splitL_join (q :: r) (by simp) (fun p hp => hf p (.tail _ hp))]
    simp
theorem join_list (c : Nat) : ∀ (ps : List Str), (Str.join ⟨#[c]⟩ ps).cps.toList = joinL c (ps.map (fun p => p.cps.toList))
  | [] => rfl
  | [p] => rfl
  | p :: q :: r => by
    show ((p.cps ++ #[c]) ++ (Str.join ⟨#[c]⟩ (q :: r)).cps).toList = p.cps.toList ++ c :: joinL c ((q :: r).map (fun p => p.cps.toList))
    rw [Array.toList_append, Array.toList_append, join_list c (q :: r), List.append_assoc]
    rfl
theorem split_ne (x y : Str) : Txt.split x y ≠ [] := by
  unfold Txt.split
  split
  · simp
  · split
    · simp
    · unfold partsBetween
      cases occurrences x y 0 x.length (x.length + 1) <;> simp
theorem split_list (l : List Nat) (c : Nat) : Txt.split ⟨l.toArray⟩ ⟨#[c]⟩ = (splitL c l []).map (fun q => (⟨q.toArray⟩ : Str)) := by
  have h1 := join_split ⟨l.toArray⟩ ⟨#[c]⟩
  have h2 := split_free ⟨l.toArray⟩ c
  have h3 := split_ne ⟨l.toArray⟩ ⟨#[c]⟩
  generalize Txt.split ⟨l.toArray⟩ ⟨#[c]⟩ = ps at h1 h2 h3
  have h4 : joinL c (ps.map (fun p => p.cps.toList)) = l := by
    rw [← join_list, h1]
  have h5 := splitL_join (c := c) (ps.map (fun p => p.cps.toList)) (by simpa using h3) (fun p hp => by
    obtain ⟨q, hq, rfl⟩ := List.mem_map.mp hp
    exact h2 q hq)
  rw [h4] at h5
  rw [h5, List.map_map]
  have : (fun q => (⟨q.toArray⟩ : Str)) ∘ (fun p : Str => p.cps.toList) = _root_.id := by
    funext p
    rfl
  rw [this, List.map_id]
theorem find_list {l : List Nat} {c lf : Nat} (h : (posL c l 0).head? = some lf) : Txt.find ⟨l.toArray⟩ ⟨#[c]⟩ = (lf : Int) := by
  unfold Txt.find
  have e : occurrences ⟨l.toArray⟩ ⟨#[c]⟩ 0 (⟨l.toArray⟩ : Str).length 1 = [lf] := by
    show occurrences ⟨l.toArray⟩ ⟨#[c]⟩ 0 l.length 1 = _
    rw [occ_list l c 0 1 (Nat.zero_le _), List.drop_zero]
    rw [List.take_one, h]
    rfl
  rw [e]
theorem find3_list {l : List Nat} {c i rt : Nat} (hi : i ≤ l.length) (h : (posL c (l.drop i) i).head? = some rt) : Txt.find3 ⟨l.toArray⟩ ⟨#[c]⟩ (i : Int) = (rt : Int) := by
  unfold Txt.find3
  have ei : fromIndex (⟨l.toArray⟩ : Str).length (i : Int) = i := by
    show fromIndex l.length (i : Int) = i
    unfold fromIndex
    rw [if_neg (Int.not_lt.mpr (Int.natCast_nonneg _)), Int.max_eq_right (Int.natCast_nonneg _)]
    exact Int.toNat_natCast i
  have e : occurrences ⟨l.toArray⟩ ⟨#[c]⟩ (fromIndex (⟨l.toArray⟩ : Str).length (i : Int)) (⟨l.toArray⟩ : Str).length 1 = [rt] := by
    rw [ei]
    show occurrences ⟨l.toArray⟩ ⟨#[c]⟩ i l.length 1 = _
    rw [occ_list l c i 1 hi]
    rw [List.take_one, h]
    rfl
  rw [e]
theorem rfind_list {l : List Nat} {c rf : Nat} (h : (posL c l 0).getLast? = some rf) : Txt.rfind ⟨l.toArray⟩ ⟨#[c]⟩ = (rf : Int) := by
  unfold Txt.rfind
  have e : lastOccurrence ⟨l.toArray⟩ ⟨#[c]⟩ 0 (⟨l.toArray⟩ : Str).length = some rf := by
    show lastOccurrence ⟨l.toArray⟩ ⟨#[c]⟩ 0 l.length = _
    rw [last_list, h]
  rw [e]
theorem item_list {l : List Nat} {c i : Nat} (h : l[i]? = some c) : Txt.item ⟨l.toArray⟩ (i : Int) = ⟨#[c]⟩ := by
  have hi : i < l.length := (List.getElem?_eq_some_iff.mp h).1
  unfold Txt.item Txt.charAt
  rw [seqIndex_at (n := (⟨l.toArray⟩ : Str).length) (Int.natCast_nonneg i) (by exact Int.ofNat_lt.mpr ‹i < l.length›)]
  show (⟨#[(l.toArray[(i : Int).toNat]?).getD 0]⟩ : Str) = _
  rw [Int.toNat_natCast, List.getElem?_toArray, h]
  rfl
theorem slice_list {l : List Nat} {i j : Nat} (hij : i ≤ j) (hj : j ≤ l.length) : Txt.slice ⟨l.toArray⟩ (some (i : Int)) (some (j : Int)) = ⟨((l.drop i).take (j - i)).toArray⟩ := sliceText_nat ⟨l.toArray⟩ hij hj
theorem slice_to_list {l : List Nat} {j : Nat} (hj : j ≤ l.length) : Txt.slice ⟨l.toArray⟩ none (some (j : Int)) = ⟨(l.take j).toArray⟩ := by
  have h := sliceText_to (x := ⟨l.toArray⟩) (j := (j : Int)) ⟨Int.natCast_nonneg _, Int.ofNat_le.mpr ‹j ≤ l.length›⟩
  rw [show ((j : Int) - 0).toNat = j by rw [Int.sub_zero, Int.toNat_natCast]] at h
  exact h
theorem P229L {a : List Nat} {c lf rt : Nat} (h1 : a.length < 100) (h2 : a.take 3 = [50, 50, 57]) (h3 : (posL 40 a 0).head? = some lf) (h4 : lf + 1 < a.length) (h5 : (posL 41 (a.drop (lf + 1)) (lf + 1)).head? = some rt) (h6 : 1 ≤ rt) (h7 : rt ≤ a.length) (h8 : lf + 1 ≤ rt)
    (h9 : a[lf + 1]? = some c) (h10 : a[rt - 1]? = some c) (h11 : (splitL c ((a.drop (lf + 1)).take (rt - (lf + 1))) []).length < 30) :
    P229 ⟨a.toArray⟩ ⟨#[c]⟩ (lf : Int) (rt : Int) ((splitL c ((a.drop (lf + 1)).take (rt - (lf + 1))) []).map (fun q => (⟨q.toArray⟩ : Str))) := by
  have hl : ((⟨a.toArray⟩ : Str).length : Nat) = a.length := rfl
  have h3l : 3 ≤ a.length := by
    have := congrArg List.length h2
    rw [List.length_take] at this
    exact Nat.le_trans (Nat.le_of_eq (show 3 = min 3 a.length from this.symm)) (Nat.min_le_right _ _)
  refine ⟨by rw [hl]; exact h1, ?_, ?_, Int.natCast_nonneg _, Int.ofNat_lt.mpr h4, ?_, Int.ofNat_le.mpr h6, Int.ofNat_le.mpr h7, ?_, ?_, ?_, by rw [List.length_map]; exact h11⟩
  · rw [show (3 : Int) = ((3 : Nat) : Int) from rfl, slice_to_list h3l, h2]
    decide +kernel
  · rw [show Str.ofString "(" = ⟨#[40]⟩ by decide +kernel]
    exact find_list h3
  · rw [show Str.ofString ")" = ⟨#[41]⟩ by decide +kernel, show (lf : Int) + 1 = ((lf + 1 : Nat) : Int) from rfl]
    exact find3_list (Nat.le_of_lt h4) h5
  · rw [show (lf : Int) + 1 = ((lf + 1 : Nat) : Int) from rfl]
    exact item_list h9
  · rw [show (rt : Int) - 1 = ((rt - 1 : Nat) : Int) from (Int.ofNat_sub h6).symm]
    exact item_list h10
  · rw [show (lf : Int) + 1 = ((lf + 1 : Nat) : Int) from rfl, slice_list h8 h7]
    exact split_list _ _
end Mine
end

-- Rf
section
open PySem PySem.W PyProof.Rows PySem.StrLaws PySem.Builtin PySem.Builtin.Str
set_option Elab.async false
set_option linter.unusedVariables false
namespace Mine
noncomputable def preA : List Nat := [50, 50, 57, 32, 114, 111, 117, 110, 100, 32, 40]
noncomputable def preB : List Nat := [50, 50, 57, 32, 112, 97, 114, 116, 32, 40]
noncomputable def ringL (c x y z : Nat) : List Nat → List Nat
  | [] => []
  | i :: r => bif (Nat.beq i 0 || Nat.beq i x || Nat.beq i y || Nat.beq i z) then c :: 49 :: ringL c x y z r else 49 :: ringL c x y z r
noncomputable def beqL : List Nat → List Nat → Bool
  | [], [] => true
  | x :: l, y :: m => Nat.beq x y && beqL l m
  | _, _ => false
theorem beqL_to : ∀ {l m : List Nat}, beqL l m = true → l = m
  | [], [], _ => rfl
  | x :: l, y :: m, h => by
    have h : (Nat.beq x y && beqL l m) = true := h
    rw [Bool.and_eq_true] at h
    rw [Nat.eq_of_beq_eq_true h.1, beqL_to h.2]
noncomputable def partL (a : List Nat) (c lf rt : Nat) : List (List Nat) := splitL c ((a.drop (lf + 1)).take (rt - (lf + 1))) []
noncomputable def okP (a : List Nat) (c lf : Nat) (rt : Nat) : Bool :=
  Nat.ble (a.length + 1) 100 && beqL (a.take 3) [50, 50, 57] && beqL ((posL 40 a 0).take 1) [lf] && Nat.ble (lf + 2) a.length && beqL ((posL 41 (a.drop (lf + 1)) (lf + 1)).take 1) [rt] && Nat.ble 1 rt && Nat.ble rt a.length && Nat.ble (lf + 1) rt &&
  beqL ((a.drop (lf + 1)).take 1) [c] && beqL ((a.drop (rt - 1)).take 1) [c] && Nat.ble ((partL a c lf rt).length + 1) 30
theorem head_of {l : List Nat} {x : Nat} (h : beqL (l.take 1) [x] = true) : l.head? = some x := by
  have e : (l.take 1).head? = some x := by rw [beqL_to h]; rfl
  rw [List.head?_take] at e
  exact e
theorem at_of {l : List Nat} {i x : Nat} (h : beqL ((l.drop i).take 1) [x] = true) : l[i]? = some x := by
  have := head_of h
  rw [List.head?_drop] at this
  exact this
theorem okP_to {a : List Nat} {c lf rt : Nat} (h : okP a c lf rt = true) : P229 ⟨a.toArray⟩ ⟨#[c]⟩ (lf : Int) (rt : Int) ((partL a c lf rt).map (fun q => (⟨q.toArray⟩ : Str))) := by
  unfold okP at h
  simp only [Bool.and_eq_true, Nat.ble_eq] at h
  obtain ⟨⟨⟨⟨⟨⟨⟨⟨⟨⟨h1, h2⟩, h3⟩, h4⟩, h5⟩, h6⟩, h7⟩, h8⟩, h9⟩, h10⟩, h11⟩ := h
  exact P229L h1 (beqL_to h2) (head_of h3) h4 (head_of h5) h6 h7 h8 (at_of h9) (at_of h10) h11
theorem lastD_of {l : List Nat} {x : Nat} (h : l.getLast? = some x) : l.getLastD 0 = x := by
  rw [List.getLastD_eq_getLast?, h]
  rfl
noncomputable def okR (c g : Nat) (rg : List Nat) : Bool :=
  let a := preA ++ (rg ++ [c, 41])
  let rf := (posL c rg 0).getLastD 0
  let b := preB ++ (rg.take (rf + 1) ++ [41])
  Nat.ble rg.length 40 && okP a c 10 (a.length - 1) && !Nat.beq (partL a c 10 (a.length - 1)).length 5 && !beqL (posL c rg 0) [] && Nat.ble (rf + 1) rg.length &&
  okP b c 9 (b.length - 1) && Nat.beq (partL b c 9 (b.length - 1)).length 5 && beqL ((partL b c 9 (b.length - 1)).getD 3 []) (List.replicate g 49)
theorem ones_ok : ∀ g < 16, 0 < g → ∃ port, PySem.intText? ⟨(List.replicate g 49).toArray⟩ = some port ∧ 0 ≤ port ∧ port < 10 ^ 16 ∧ ((Str.ofString (toString port)).length : Int) = g := by
  intro g hg h0
  have key : ∀ g < 16, 0 < g → (match PySem.intText? ⟨(List.replicate g 49).toArray⟩ with | some port => decide (0 ≤ port ∧ port < 10 ^ 16 ∧ ((Str.ofString (toString port)).length : Int) = g) | none => false) = true := by decide +kernel
  have := key g hg h0
  split at this
  · rename_i port hp
    exact ⟨port, hp, of_decide_eq_true this⟩
  · cases this
theorem okR_to {c g : Nat} {rg : List Nat} (hg : g < 16) (hg0 : 0 < g) (h : okR c g rg = true) : RingOk ⟨#[c]⟩ ⟨rg.toArray⟩ (g : Int) := by
  unfold okR at h
  simp only [Bool.and_eq_true, Nat.ble_eq, Bool.not_eq_true', Nat.beq_eq_true_eq] at h
  obtain ⟨⟨⟨⟨⟨⟨⟨h1, h2⟩, h3⟩, h4⟩, h5⟩, h6⟩, h7⟩, h8⟩ := h
  obtain ⟨port, p1, p2, p3, p4⟩ := ones_ok g hg hg0
  obtain ⟨rf, hrf⟩ : ∃ rf, (posL c rg 0).getLast? = some rf := by
    exact ⟨_, List.getLast?_eq_some_getLast (fun e => by rw [e] at h4; exact absurd h4 (by decide))⟩
  have hD : (posL c rg 0).getLastD 0 = rf := by
    exact lastD_of hrf
  rw [hD] at h5 h6 h7 h8
  have eA : rA ⟨#[c]⟩ ⟨rg.toArray⟩ = ⟨(preA ++ (rg ++ [c, 41])).toArray⟩ := by
    unfold rA
    rw [show Str.ofString "229 round (" = ⟨preA.toArray⟩ by decide +kernel, show Str.ofString ")" = ⟨#[41]⟩ by decide +kernel]
    show (⟨((preA.toArray ++ rg.toArray) ++ #[c]) ++ #[41]⟩ : Str) = _
    simp
  have eB : rB ⟨rg.toArray⟩ ((rf : Int) + 1) = ⟨(preB ++ (rg.take (rf + 1) ++ [41])).toArray⟩ := by
    unfold rB
    rw [show (rf : Int) + 1 = ((rf + 1 : Nat) : Int) from rfl, slice_to_list h5, show Str.ofString "229 part (" = ⟨preB.toArray⟩ by decide +kernel, show Str.ofString ")" = ⟨#[41]⟩ by decide +kernel]
    show (⟨(preB.toArray ++ (rg.take (rf + 1)).toArray) ++ #[41]⟩ : Str) = _
    simp
  have e3 : ((partL (preB ++ (rg.take (rf + 1) ++ [41])) c 9 ((preB ++ (rg.take (rf + 1) ++ [41])).length - 1)).map (fun q => (⟨q.toArray⟩ : Str))).getD 3 Str.empty = ⟨(List.replicate g 49).toArray⟩ := by
    rw [← beqL_to h8]
    rw [List.getD_eq_getElem?_getD, List.getElem?_map, List.getD_eq_getElem?_getD]
    cases (partL (preB ++ (rg.take (rf + 1) ++ [41])) c 9 ((preB ++ (rg.take (rf + 1) ++ [41])).length - 1))[3]? <;> rfl
  refine ⟨_, _, (rf : Int), port, _, _, h1, by rw [eA]; exact okP_to h2, fun e => (by rw [List.length_map] at e; rw [e] at h3; exact absurd h3 (by decide)), rfind_list hrf, Int.natCast_nonneg _, Int.ofNat_lt.mpr (Nat.lt_of_lt_of_le h5 h1), by rw [eB]; exact okP_to h6, by rw [List.length_map]; exact Nat.eq_of_beq_eq_true h7, by rw [e3]; exact p1, ?_, p2, p3, p4⟩
  rw [e3]
  show (List.replicate g 49).toArray.size ≤ 640
  rw [List.size_toArray, List.length_replicate]
  exact Nat.le_trans (Nat.le_of_lt hg) (by decide)
noncomputable def okAll (c x : Nat) : Bool := (List.range 16).all fun y => (List.range 16).all fun z => Nat.ble y x || Nat.ble z y || okR c (z - y) (ringL c x y z (List.range 16))
noncomputable def okMark (c : Nat) : Bool := (List.range 14).all fun x => Nat.beq x 0 || okAll c x
theorem on14 {f : Nat → Bool} (q : ∀ b ∈ [0, 1, 2, 3, 4, 5, 6, 7, 8, 9, 10, 11, 12, 13], f b = true) : (List.range 14).all f = true := List.all_eq_true.mpr q
theorem ring_124_1 : (Nat.beq 1 0 || okAll 124 1) = true := by decide +kernel
theorem ring_124_2 : (Nat.beq 2 0 || okAll 124 2) = true := by decide +kernel
theorem ring_124_3 : (Nat.beq 3 0 || okAll 124 3) = true := by decide +kernel
theorem ring_124_4 : (Nat.beq 4 0 || okAll 124 4) = true := by decide +kernel
theorem ring_124_5 : (Nat.beq 5 0 || okAll 124 5) = true := by decide +kernel
theorem ring_124_6 : (Nat.beq 6 0 || okAll 124 6) = true := by decide +kernel
theorem ring_124_7 : (Nat.beq 7 0 || okAll 124 7) = true := by decide +kernel
theorem ring_124_8 : (Nat.beq 8 0 || okAll 124 8) = true := by decide +kernel
theorem ring_124_9 : (Nat.beq 9 0 || okAll 124 9) = true := by decide +kernel
theorem ring_124_10 : (Nat.beq 10 0 || okAll 124 10) = true := by decide +kernel
theorem ring_124_11 : (Nat.beq 11 0 || okAll 124 11) = true := by decide +kernel
theorem ring_124_12 : (Nat.beq 12 0 || okAll 124 12) = true := by decide +kernel
theorem ring_124_13 : (Nat.beq 13 0 || okAll 124 13) = true := by decide +kernel
theorem ring_124 : okMark 124 = true := on14 (f := fun x => Nat.beq x 0 || okAll 124 x) (all_cons rfl (all_cons ring_124_1 (all_cons ring_124_2 (all_cons ring_124_3 (all_cons ring_124_4 (all_cons ring_124_5 (all_cons ring_124_6 (all_cons ring_124_7 (all_cons ring_124_8 (all_cons ring_124_9 (all_cons ring_124_10 (all_cons ring_124_11 (all_cons ring_124_12 (all_cons ring_124_13 all_nil))))))))))))))
theorem ring_33_1 : (Nat.beq 1 0 || okAll 33 1) = true := by decide +kernel
theorem ring_33_2 : (Nat.beq 2 0 || okAll 33 2) = true := by decide +kernel
theorem ring_33_3 : (Nat.beq 3 0 || okAll 33 3) = true := by decide +kernel
theorem ring_33_4 : (Nat.beq 4 0 || okAll 33 4) = true := by decide +kernel
theorem ring_33_5 : (Nat.beq 5 0 || okAll 33 5) = true := by decide +kernel
theorem ring_33_6 : (Nat.beq 6 0 || okAll 33 6) = true := by decide +kernel
theorem ring_33_7 : (Nat.beq 7 0 || okAll 33 7) = true := by decide +kernel
theorem ring_33_8 : (Nat.beq 8 0 || okAll 33 8) = true := by decide +kernel
theorem ring_33_9 : (Nat.beq 9 0 || okAll 33 9) = true := by decide +kernel
theorem ring_33_10 : (Nat.beq 10 0 || okAll 33 10) = true := by decide +kernel
theorem ring_33_11 : (Nat.beq 11 0 || okAll 33 11) = true := by decide +kernel
theorem ring_33_12 : (Nat.beq 12 0 || okAll 33 12) = true := by decide +kernel
theorem ring_33_13 : (Nat.beq 13 0 || okAll 33 13) = true := by decide +kernel
theorem ring_33 : okMark 33 = true := on14 (f := fun x => Nat.beq x 0 || okAll 33 x) (all_cons rfl (all_cons ring_33_1 (all_cons ring_33_2 (all_cons ring_33_3 (all_cons ring_33_4 (all_cons ring_33_5 (all_cons ring_33_6 (all_cons ring_33_7 (all_cons ring_33_8 (all_cons ring_33_9 (all_cons ring_33_10 (all_cons ring_33_11 (all_cons ring_33_12 (all_cons ring_33_13 all_nil))))))))))))))
theorem ring_58_1 : (Nat.beq 1 0 || okAll 58 1) = true := by decide +kernel
theorem ring_58_2 : (Nat.beq 2 0 || okAll 58 2) = true := by decide +kernel
theorem ring_58_3 : (Nat.beq 3 0 || okAll 58 3) = true := by decide +kernel
theorem ring_58_4 : (Nat.beq 4 0 || okAll 58 4) = true := by decide +kernel
theorem ring_58_5 : (Nat.beq 5 0 || okAll 58 5) = true := by decide +kernel
theorem ring_58_6 : (Nat.beq 6 0 || okAll 58 6) = true := by decide +kernel
theorem ring_58_7 : (Nat.beq 7 0 || okAll 58 7) = true := by decide +kernel
theorem ring_58_8 : (Nat.beq 8 0 || okAll 58 8) = true := by decide +kernel
theorem ring_58_9 : (Nat.beq 9 0 || okAll 58 9) = true := by decide +kernel
theorem ring_58_10 : (Nat.beq 10 0 || okAll 58 10) = true := by decide +kernel
theorem ring_58_11 : (Nat.beq 11 0 || okAll 58 11) = true := by decide +kernel
theorem ring_58_12 : (Nat.beq 12 0 || okAll 58 12) = true := by decide +kernel
theorem ring_58_13 : (Nat.beq 13 0 || okAll 58 13) = true := by decide +kernel
theorem ring_58 : okMark 58 = true := on14 (f := fun x => Nat.beq x 0 || okAll 58 x) (all_cons rfl (all_cons ring_58_1 (all_cons ring_58_2 (all_cons ring_58_3 (all_cons ring_58_4 (all_cons ring_58_5 (all_cons ring_58_6 (all_cons ring_58_7 (all_cons ring_58_8 (all_cons ring_58_9 (all_cons ring_58_10 (all_cons ring_58_11 (all_cons ring_58_12 (all_cons ring_58_13 all_nil))))))))))))))
theorem ring_59_1 : (Nat.beq 1 0 || okAll 59 1) = true := by decide +kernel
theorem ring_59_2 : (Nat.beq 2 0 || okAll 59 2) = true := by decide +kernel
theorem ring_59_3 : (Nat.beq 3 0 || okAll 59 3) = true := by decide +kernel
theorem ring_59_4 : (Nat.beq 4 0 || okAll 59 4) = true := by decide +kernel
theorem ring_59_5 : (Nat.beq 5 0 || okAll 59 5) = true := by decide +kernel
theorem ring_59_6 : (Nat.beq 6 0 || okAll 59 6) = true := by decide +kernel
theorem ring_59_7 : (Nat.beq 7 0 || okAll 59 7) = true := by decide +kernel
theorem ring_59_8 : (Nat.beq 8 0 || okAll 59 8) = true := by decide +kernel
theorem ring_59_9 : (Nat.beq 9 0 || okAll 59 9) = true := by decide +kernel
theorem ring_59_10 : (Nat.beq 10 0 || okAll 59 10) = true := by decide +kernel
theorem ring_59_11 : (Nat.beq 11 0 || okAll 59 11) = true := by decide +kernel
theorem ring_59_12 : (Nat.beq 12 0 || okAll 59 12) = true := by decide +kernel
theorem ring_59_13 : (Nat.beq 13 0 || okAll 59 13) = true := by decide +kernel
theorem ring_59 : okMark 59 = true := on14 (f := fun x => Nat.beq x 0 || okAll 59 x) (all_cons rfl (all_cons ring_59_1 (all_cons ring_59_2 (all_cons ring_59_3 (all_cons ring_59_4 (all_cons ring_59_5 (all_cons ring_59_6 (all_cons ring_59_7 (all_cons ring_59_8 (all_cons ring_59_9 (all_cons ring_59_10 (all_cons ring_59_11 (all_cons ring_59_12 (all_cons ring_59_13 all_nil))))))))))))))
theorem all_to {n : Nat} {f : Nat → Bool} (h : (List.range n).all f = true) {i : Nat} (hi : i < n) : f i = true := List.all_eq_true.mp h i (List.mem_range.mpr hi)
theorem okAll_to {c x y z : Nat} (h : okAll c x = true) (hxy : x < y) (hyz : y < z) (hz : z < 16) : okR c (z - y) (ringL c x y z (List.range 16)) = true := by
  have h2 := all_to (all_to h (Nat.lt_trans hyz hz)) hz
  rw [Bool.or_assoc] at h2
  exact ble_off (ble_off h2 hxy) hyz
noncomputable def marksN : List Nat := [124, 33, 58, 59]
theorem mark_all {k : Nat} (hk : k < 4) : okMark (marksN.getD k 0) = true := lt4 (P := fun k => okMark (marksN.getD k 0) = true) ring_124 ring_33 ring_58 ring_59 hk
theorem ring_all {k x y z : Nat} (hk : k < 4) (hx : 0 < x) (hxy : x < y) (hyz : y < z) (hz : z < 16) : okR (marksN.getD k 0) (z - y) (ringL (marksN.getD k 0) x y z (List.range 16)) = true := by
  refine okAll_to ?_ hxy hyz hz
  have h1 := all_to (mark_all hk) (show x < 14 from Nat.le_of_succ_le_succ (Nat.le_of_succ_le_succ (Nat.le_trans (Nat.succ_le_succ (Nat.le_trans (Nat.succ_le_succ hxy) hyz)) hz)))
  rw [Bool.or_eq_true] at h1
  rcases h1 with h1 | h1
  · exact absurd (Nat.eq_of_beq_eq_true h1) (Nat.ne_of_gt hx)
  · exact h1
end Mine
end

-- Rh
section
open PySem PySem.W PyProof.Rows PySem.StrLaws PySem.Builtin PySem.Builtin.Str
set_option Elab.async false
set_option linter.unusedVariables false
namespace Mine
noncomputable def gpI (a b c d : Nat) (p : Int) : Int := if p = a then d - c else if p = b then a + 16 - d else if p = c then b - a else c - b
theorem ne_cast {a b : Nat} (h : a < b) : ¬ ((b : Int) = a) := fun e => absurd (Int.ofNat_inj.mp e) (Nat.ne_of_gt h)
theorem gpI_a {a b c d : Nat} : gpI a b c d a = d - c := if_pos rfl
theorem gpI_b {a b c d : Nat} (h : a < b) : gpI a b c d b = a + 16 - d := by
  unfold gpI
  rw [if_neg (ne_cast h), if_pos rfl]
theorem gpI_c {a b c d : Nat} (h : a < b) (h2 : b < c) : gpI a b c d c = b - a := by
  unfold gpI
  rw [if_neg (ne_cast (Nat.lt_trans h h2)), if_neg (ne_cast h2), if_pos rfl]
theorem gpI_d {a b c d : Nat} (h : a < b) (h2 : b < c) (h3 : c < d) : gpI a b c d d = c - b := by
  unfold gpI
  rw [if_neg (ne_cast (Nat.lt_trans h (Nat.lt_trans h2 h3))), if_neg (ne_cast (Nat.lt_trans h2 h3)), if_neg (ne_cast h3)]
theorem join_none : ∀ (ps : List Str), (Str.join ⟨#[]⟩ ps).cps.toList = ps.flatMap (fun p => p.cps.toList)
  | [] => rfl
  | [p] => by show p.cps.toList = _; simp
  | p :: q :: r => by
    show ((p.cps ++ #[]) ++ (Str.join ⟨#[]⟩ (q :: r)).cps).toList = _
    rw [Array.toList_append, Array.toList_append, join_none (q :: r), List.flatMap_cons]
    simp
theorem txt_join (ps : List Str) : Txt.join (Str.ofString "") ps = ⟨(ps.flatMap (fun p => p.cps.toList)).toArray⟩ := by
  unfold Txt.join
  rw [glued_eq_join, show Str.ofString "" = ⟨#[]⟩ by decide +kernel, ← join_none]
theorem piece_list (c : Nat) (b : Bool) : (piece ⟨#[c]⟩ b).cps.toList = if b then [c, 49] else [49] := by
  unfold piece
  rw [show Str.ofString "" = ⟨#[]⟩ by decide +kernel, show Str.ofString "1" = ⟨#[49]⟩ by decide +kernel]
  cases b <;> rfl
theorem ringL_flat {c x y z : Nat} : ∀ (l : List Nat), ringL c x y z l = l.flatMap (fun i => if (Nat.beq i 0 || Nat.beq i x || Nat.beq i y || Nat.beq i z) = true then [c, 49] else [49])
  | [] => rfl
  | i :: r => by
    unfold ringL
    rw [List.flatMap_cons, ringL_flat r]
    cases (Nat.beq i 0 || Nat.beq i x || Nat.beq i y || Nat.beq i z) <;> rfl
theorem ring_eq {c x y z : Nat} {qs : List Int} {p : Int} (h : ∀ i < 16, onAt qs p i = (Nat.beq i 0 || Nat.beq i x || Nat.beq i y || Nat.beq i z)) : ringP ⟨#[c]⟩ qs p = ⟨(ringL c x y z (List.range 16)).toArray⟩ := by
  unfold ringP
  rw [txt_join, ringL_flat, List.flatMap_map, ← List.range_eq_range']
  rw [List.flatMap_def, List.flatMap_def]
  congr 3
  apply List.map_congr_left
  intro i hi
  rw [piece_list, h i (List.mem_range.mp hi)]
theorem beq_iff (i x : Nat) : Nat.beq i x = true ↔ i = x := ⟨Nat.eq_of_beq_eq_true, fun h => by rw [h]; simp⟩
theorem on_iff {a b c d : Nat} {p : Int} {i : Nat} : onAt [(a : Int), b, c, d] p i = true ↔ (((a : Int) = (p + i) % 16 ∨ (b : Int) = (p + i) % 16) ∨ (c : Int) = (p + i) % 16) ∨ (d : Int) = (p + i) % 16 := by
  unfold onAt
  rw [show Int.fmod (p + (i : Int)) 16 = (p + i) % 16 from Int.fmod_eq_emod_of_nonneg _ (by decide)]
  simp only [List.any_cons, List.any_nil, Bool.or_eq_true, beq_iff_eq, Bool.false_eq_true, or_false, or_assoc]
theorem marks_at {k : Nat} (hk : k < 4) : marksL.getD k Str.empty = ⟨#[marksN.getD k 0]⟩ := by
  match k, hk with
  | 0, _ => decide +kernel
  | 1, _ => decide +kernel
  | 2, _ => decide +kernel
  | 3, _ => decide +kernel
theorem ring_at {a b c d k x y z : Nat} {p : Int} {g : Int} (hk : k < 4) (hx : 0 < x) (hxy : x < y) (hyz : y < z) (hz : z < 16) (hg : ((z - y : Nat) : Int) = g)
    (h : ∀ i < 16, onAt [(a : Int), b, c, d] p i = true ↔ ((i = 0 ∨ i = x) ∨ i = y) ∨ i = z) : RingOk (marksL.getD k Str.empty) (ringP (marksL.getD k Str.empty) [(a : Int), b, c, d] p) g := by
  rw [marks_at hk, ring_eq (x := x) (y := y) (z := z) (fun i hi => by
    rw [Bool.eq_iff_iff, h i hi]
    simp only [Bool.or_eq_true, beq_iff]), ← hg]
  exact okR_to (Nat.lt_of_le_of_lt (Nat.sub_le _ _) hz) (Nat.sub_pos_of_lt hyz) (ring_all hk hx hxy hyz hz)
theorem at1N : ∀ q < 16, ∀ p < 16, ∀ i < 16, (q = (p + i) % 16 ↔ i = (q + 16 - p) % 16) := by decide +kernel
theorem at1 {q p i : Nat} (hq : q < 16) (hp : p < 16) (hi : i < 16) : ((q : Int) = ((p : Int) + i) % 16) ↔ i = (q + 16 - p) % 16 := by
  rw [show ((p : Int) + i) % 16 = (((p + i) % 16 : Nat) : Int) from rfl, Int.ofNat_inj]
  exact at1N q hq p hp i hi
theorem offHN : ∀ q < 16, ∀ p < 16, p < q → (q + 16 - p) % 16 = q - p := by decide +kernel
theorem off_hi {q p : Nat} (h : p < q) (hq : q < 16) : (q + 16 - p) % 16 = q - p := offHN q hq p (Nat.lt_trans h hq) h
theorem offLN : ∀ p < 16, ∀ q < 16, q < p → (q + 16 - p) % 16 = q + 16 - p := by decide +kernel
theorem off_lo {q p : Nat} (hp : p < 16) (h : q < p) : (q + 16 - p) % 16 = q + 16 - p := offLN p hp q (Nat.lt_trans h hp) h
theorem off_eq {p : Nat} : (p + 16 - p) % 16 = 0 := by rw [Nat.add_sub_cancel_left]
theorem or_1 {A B C D : Prop} : (((A ∨ B) ∨ C) ∨ D) ↔ (((B ∨ C) ∨ D) ∨ A) := ⟨fun h => by rcases h with ((h | h) | h) | h <;> simp [h], fun h => by rcases h with ((h | h) | h) | h <;> simp [h]⟩
theorem quads : q4 (fun a b c d => decide (
    (0 < b - a ∧ b - a < c - a ∧ c - a < d - a ∧ d - a < 16 ∧ (d - a) - (c - a) = d - c) ∧ (0 < c - b ∧ c - b < d - b ∧ d - b < a + 16 - b ∧ a + 16 - b < 16 ∧ (a + 16 - b) - (d - b) = a + 16 - d) ∧
    (0 < d - c ∧ d - c < a + 16 - c ∧ a + 16 - c < b + 16 - c ∧ b + 16 - c < 16 ∧ (b + 16 - c) - (a + 16 - c) = b - a) ∧ (0 < a + 16 - d ∧ a + 16 - d < b + 16 - d ∧ b + 16 - d < c + 16 - d ∧ c + 16 - d < 16 ∧ (c + 16 - d) - (b + 16 - d) = c - b))) = true := by decide +kernel
theorem ringsOk (a b c d k : Nat) (hab : a < b) (hbc : b < c) (hcd : c < d) (hd16 : d < 16) (hk : k < 4) : ∀ p ∈ [(a : Int), b, c, d], RingOk (marksL.getD k Str.empty) (ringP (marksL.getD k Str.empty) [(a : Int), b, c, d] p) (gpI a b c d p) := by
  have hc : c < 16 := Nat.lt_trans hcd hd16
  have hb : b < 16 := Nat.lt_trans hbc hc
  have ha : a < 16 := Nat.lt_trans hab hb
  have hac := Nat.lt_trans hab hbc
  have hbd := Nat.lt_trans hbc hcd
  have had := Nat.lt_trans hab hbd
  have q := of_decide_eq_true (q4_un quads hab hbc hcd hd16)
  refine all_cons ?_ (all_cons ?_ (all_cons ?_ (all_cons ?_ all_nil)))
  · rw [gpI_a]
    refine ring_at (x := b - a) (y := c - a) (z := d - a) hk q.1.1 q.1.2.1 q.1.2.2.1 q.1.2.2.2.1 (by rw [q.1.2.2.2.2]; exact Int.ofNat_sub (Nat.le_of_lt hcd)) (fun i hi => ?_)
    rw [on_iff, at1 ha ha hi, at1 hb ha hi, at1 hc ha hi, at1 hd16 ha hi, off_eq, off_hi hab hb, off_hi hac hc, off_hi had hd16]
  · rw [gpI_b hab]
    refine ring_at (x := c - b) (y := d - b) (z := a + 16 - b) hk q.2.1.1 q.2.1.2.1 q.2.1.2.2.1 q.2.1.2.2.2.1 (by rw [q.2.1.2.2.2.2]; exact Int.ofNat_sub (Nat.le_of_lt (Nat.lt_of_lt_of_le hd16 (Nat.le_add_left 16 a)))) (fun i hi => ?_)
    rw [on_iff, at1 ha hb hi, at1 hb hb hi, at1 hc hb hi, at1 hd16 hb hi, off_lo hb hab, off_eq, off_hi hbc hc, off_hi hbd hd16]
    rw [or_1]
  · rw [gpI_c hab hbc]
    refine ring_at (x := d - c) (y := a + 16 - c) (z := b + 16 - c) hk q.2.2.1.1 q.2.2.1.2.1 q.2.2.1.2.2.1 q.2.2.1.2.2.2.1 (by rw [q.2.2.1.2.2.2.2]; exact Int.ofNat_sub (Nat.le_of_lt hab)) (fun i hi => ?_)
    rw [on_iff, at1 ha hc hi, at1 hb hc hi, at1 hc hc hi, at1 hd16 hc hi, off_lo hc hac, off_lo hc hbc, off_eq, off_hi hcd hd16]
    rw [or_1]
    rw [or_1]
  · rw [gpI_d hab hbc hcd]
    refine ring_at (x := a + 16 - d) (y := b + 16 - d) (z := c + 16 - d) hk q.2.2.2.1 q.2.2.2.2.1 q.2.2.2.2.2.1 q.2.2.2.2.2.2.1 (by rw [q.2.2.2.2.2.2.2]; exact Int.ofNat_sub (Nat.le_of_lt hbc)) (fun i hi => ?_)
    rw [on_iff, at1 ha hd16 hi, at1 hb hd16 hi, at1 hc hd16 hi, at1 hd16 hd16 hi, off_lo hd16 had, off_lo hd16 hbd, off_lo hd16 hcd, off_eq]
    rw [or_1]
    rw [or_1]
    rw [or_1]
end Mine
end

-- walk
section
open PySem PySem.W PyProof.Rows
set_option Elab.async false
set_option linter.unusedVariables false
namespace Mine
theorem led3 {h₀ h : Heap} {L Pa : Addr} {oP : Obj} {x z : Addr × Obj} {R : List (Addr × Obj)} (N : News h₀ L h (x :: (Pa, oP) :: z :: R)) : ∃ P' R', P' = Pa ∧ R' = x :: R ∧ News h₀ L h ((Pa, oP) :: z :: R') :=
  ⟨_, _, rfl, rfl, News.sub N (fun p hp => by
    rcases List.mem_cons.mp hp with rfl | hp
    · exact .tail _ (.head _)
    · rcases List.mem_cons.mp hp with rfl | hp
      · exact .tail _ (.tail _ (.head _))
      · rcases List.mem_cons.mp hp with rfl | hp
        · exact .head _
        · exact .tail _ (.tail _ (.tail _ hp)))⟩
theorem upd2 {m : Str → Option Value} {x a b : Str} {v va vb : Value} (ha : m a = some va) (hb : m b = some vb) :
    (fun y => if y = x then some v else m y) = fun y => if y = x then some v else if y = a then some va else if y = b then some vb else m y := by
  funext y
  by_cases h0 : y = x
  · rw [if_pos h0, if_pos h0]
  rw [if_neg h0, if_neg h0]
  by_cases h1 : y = a
  · rw [if_pos h1, h1, ha]
  rw [if_neg h1]
  by_cases h2 : y = b
  · rw [if_pos h2, h2, hb]
  rw [if_neg h2]
/-- the places drawn so far, and what is still free -/
noncomputable def DrawJ (Pa Fa D : Addr) (g : Heap) (R : List (Addr × Obj)) (i : Nat) (m₁ : Str → Option Value) (g₁ : Heap) (led : List (Addr × Obj)) : Prop :=
  g₁ = g ∧ ∃ pl fr pvs fvs kp kf, led = (Pa, listOf (List.toArray pvs) kp) :: (Fa, listOf (List.toArray fvs) kf) :: R ∧ IntsAre pvs ((pl : List Nat).map Int.ofNat) ∧ IntsAre fvs ((fr : List Nat).map Int.ofNat) ∧ pl.Pairwise (· < ·) ∧ pl.length = i ∧ fr.length + i = 16 ∧
    (∀ x ∈ pl, x < 16) ∧ (∀ x ∈ fr, x < 16 ∧ x ∉ pl) ∧ fr.Nodup ∧ m₁ (Str.ofString "free") = some (.ref Fa) ∧ m₁ (Str.ofString "drawn") = some (.ref D)
theorem marks_len (k : Nat) (hk : k < 4) : (marksL.getD k Str.empty).length = 1 := lt4 (P := fun k => (marksL.getD k Str.empty).length = 1) rfl rfl rfl rfl hk
theorem map2 {m : Str → Option Value} {a b : Str} {va vb : Value} (ha : m a = some va) (hb : m b = some vb) :
    m = fun y => if y = a then some va else if y = b then some vb else m y := by
  funext y
  by_cases h1 : y = a
  · rw [if_pos h1, h1, ha]
  rw [if_neg h1]
  by_cases h2 : y = b
  · rw [if_pos h2, h2, hb]
  rw [if_neg h2]
theorem mark_of (x : Int) : ∃ k < 4, Txt.item (Str.ofString "|!:;") (x.fmod 4) = marksL.getD k Str.empty := by
  have h0 : 0 ≤ x.fmod 4 := by rw [Int.fmod_eq_emod_of_nonneg _ (by decide)]; exact Int.emod_nonneg _ (by decide)
  have h1 : x.fmod 4 < 4 := by rw [Int.fmod_eq_emod_of_nonneg _ (by decide)]; exact Int.emod_lt_of_pos _ (by decide)
  obtain ⟨n, e⟩ := Int.eq_ofNat_of_zero_le h0
  rw [e] at h1 ⊢
  have h1 := Int.ofNat_lt.mp h1
  exact ⟨n, h1, lt4 (P := fun n => Txt.item (Str.ofString "|!:;") (n : Int) = marksL.getD n Str.empty) (by decide +kernel) (by decide +kernel) (by decide +kernel) (by decide +kernel) h1⟩
theorem ints4 {vs : List Value} {x y z w : Int} (h : IntsAre vs [x, y, z, w]) : ∃ t0 t1 t2 t3, vs = [.int x t0, .int y t1, .int z t2, .int w t3] := by
  refine hideG fun GG hGG => ?_
  obtain ⟨t0, v0, e0, h1⟩ := ints_uncons h
  refine hGG ?_
  clear hGG GG
  refine hideG fun GG hGG => ?_
  obtain ⟨t1, v1, e1, h2⟩ := ints_uncons h1
  refine hGG ?_
  clear hGG GG
  refine hideG fun GG hGG => ?_
  obtain ⟨t2, v2, e2, h3⟩ := ints_uncons h2
  refine hGG ?_
  clear hGG GG
  refine hideG fun GG hGG => ?_
  obtain ⟨t3, v3, e3, h4⟩ := ints_uncons h3
  refine hGG ?_
  clear hGG GG
  have e7 := ints_unnil h4
  subst e7 e3 e2 e1 e0
  exact ⟨_, _, _, _, rfl⟩
theorem nat_rng {a : Nat} (h : a < 16) : 0 ≤ (a : Int) ∧ (a : Int) < 16 := ⟨Int.natCast_nonneg a, Int.ofNat_lt.mpr h⟩
theorem news_pick {h₀ h : Heap} {L : Addr} {news : List (Addr × Obj)} (is : List Nat) (N : News h₀ L h news) : News h₀ L h (is.filterMap (news[·]?)) :=
  News.sub N (fun p hp => by
    obtain ⟨i, _, e⟩ := List.mem_filterMap.mp hp
    exact List.mem_of_getElem? e)
/-- the levels so far -/
noncomputable def LevJ (Lv cl D : Addr) (g : Heap) (R : List (Addr × Obj)) (a b c d : Nat) (i : Nat) (m₁ : Str → Option Value) (g₁ : Heap) (led : List (Addr × Obj)) : Prop :=
  g₁ = g ∧ ∃ ls lvs kl oL vL, led = (Lv, listOf (List.toArray lvs) kl) :: (cl, oL) :: R ∧ oL.data = Data.cell vL ∧ IntsAre lvs ((ls : List Nat).map Int.ofNat) ∧
    ls = ((wayList a b c d).take i).foldl (fun l w => levN l (lvNat w)) [] ∧ ls.Pairwise (· < ·) ∧ (∀ x ∈ ls, x < 4) ∧ ls.length ≤ i ∧ m₁ (Str.ofString "drawn") = some (.ref D)
theorem led_names {h₀ h : Heap} {L Lv cl : Addr} {o1 o2 : Obj} {R : List (Addr × Obj)} (N : News h₀ L h ((Lv, o1) :: (cl, o2) :: R)) : ∃ Lv' cl' R', Lv' = Lv ∧ cl' = cl ∧ R' = R ∧ News h₀ L h ((Lv', o1) :: (cl', o2) :: R') := ⟨_, _, _, rfl, rfl, rfl, N⟩
theorem led_ways {h₀ h : Heap} {L D : Addr} {x y : Addr × Obj} {R : List (Addr × Obj)} {n a b c d : Nat} {v0 v1 v2 v3 v4 v5 : Tok} (hab : a < b) (hbc : b < c) (hcd : c < d) (hd : d < 16)
    (N : News h₀ L h (x :: y :: (D, listOf [Value.int ((d : Int) - c) v0, .int ((a : Int) + 16 - d) v1, .int ((b : Int) - a) v2, .int ((c : Int) - b) v3, .int ([(d : Int) - c, (a : Int) + 16 - d, (b : Int) - a, (c : Int) - b].getD (Int.toNat 0) 0 + [(d : Int) - c, (a : Int) + 16 - d, (b : Int) - a, (c : Int) - b].getD (Int.toNat 1) 0) v4, .int ([(d : Int) - c, (a : Int) + 16 - d, (b : Int) - a, (c : Int) - b].getD (Int.toNat 1) 0 + [(d : Int) - c, (a : Int) + 16 - d, (b : Int) - a, (c : Int) - b].getD (Int.toNat 2) 0) v5].toArray n) :: R)) :
    ∃ ws, IntsAre ws ((wayList a b c d).map Int.ofNat) ∧ News h₀ L h (x :: y :: (D, listOf ws.toArray n) :: R) := ⟨_, way_ints hab hbc hcd hd, N⟩
theorem slice_one {l : List Nat} {k : Nat} (h : k ≤ l.length) : ((l.map Int.ofNat).drop ((k : Nat) : Int).toNat).take (min (((k : Nat) : Int) + 1).toNat (l.map Int.ofNat).length - ((k : Nat) : Int).toNat) = ((l.drop k).take 1).map Int.ofNat := by
  rw [show (((k : Nat) : Int) + 1).toNat = k + 1 from rfl, Int.toNat_natCast, List.length_map, List.map_take, List.map_drop]
  by_cases h2 : k < l.length
  · rw [show min (k + 1) l.length - k = 1 by rw [Nat.min_eq_left h2]; exact Nat.add_sub_cancel_left k 1]
  · rw [List.drop_eq_nil_of_le (by rw [List.length_map]; exact Nat.not_lt.mp h2), List.take_nil, List.take_nil]
theorem map_one {l : List Nat} {x : Nat} (h : l.map Int.ofNat = [(x : Int)]) : l = [x] := by
  exact (List.map_inj_right (l' := [x]) (fun _ _ => Int.ofNat_inj.mp)).mp h
theorem map_tl {m : Str → Option Value} {a b : Str} {va vb : Value} (ha : m a = some va) (hb : m b = some vb) :
    m = fun y => if y = a then some va else if y = b then some vb else m y := by
  funext y
  by_cases h1 : y = a
  · rw [if_pos h1, h1, ha]
  rw [if_neg h1]
  by_cases h2 : y = b
  · rw [if_pos h2, h2, hb]
  rw [if_neg h2]
/-- the turns so far -/
noncomputable def TurnJ (cl D B : Addr) (g : Heap) (R : List (Addr × Obj)) (ls : List Nat) (i : Nat) (m₁ : Str → Option Value) (g₁ : Heap) (led : List (Addr × Obj)) : Prop :=
  g₁ = g ∧ ∃ Tu ts tvs kt oL vL, led = (cl, oL) :: (Tu, listOf (List.toArray tvs) kt) :: R ∧ @LT.lt Nat _ B Tu ∧ oL.data = Data.cell vL ∧ IntsAre tvs ((ts : List Nat).map Int.ofNat) ∧ ts.length ≤ 2 ^ i ∧
    ts = (List.range i).foldl (turnStep ls) [0] ∧ m₁ (Str.ofString "turns") = some (.ref Tu) ∧ m₁ (Str.ofString "drawn") = some (.ref D)
theorem lift_tok {o : Obj} {x : UInt64} {X : Nat} (h : o.data = Data.cell (some (.float x (X + 1)))) : ∃ t : Tok, t ≠ 0 ∧ o.data = Data.cell (some (.float x t)) := ⟨_, Nat.succ_ne_zero _, h⟩
theorem row_names {h₀ h : Heap} {L Row T : Addr} {o1 o2 : Obj} {R : List (Addr × Obj)} (N : News h₀ L h ((Row, o1) :: (T, o2) :: R)) : ∃ Row', Row' = Row ∧ News h₀ L h ((Row', o1) :: (T, o2) :: R) := ⟨_, rfl, N⟩
theorem mk_Rf {h₀ h : Heap} {L : Addr} {x r1 r2 r3 r4 r5 r6 r7 r8 r9 : Addr × Obj} (N : News h₀ L h (x :: r1 :: r2 :: r3 :: r4 :: r5 :: r6 :: r7 :: r8 :: r9 :: [])) :
    ∃ Rf : List (Addr × Obj) → List (Addr × Obj), Rf = (fun e => r1 :: r2 :: r3 :: r4 :: r5 :: r6 :: r7 :: r8 :: r9 :: e) ∧ News h₀ L h (x :: Rf []) := ⟨_, rfl, N⟩
theorem rowInv_nil {Row : Addr} {y z : UInt64} {ts ps : List Nat} {tk : Nat} : RowInv Row y z (covered (ts.take 0) ps) [] [] tk :=
  ⟨rfl, fun j v c h => by rw [List.getElem?_nil] at h; exact absurd h (fun e => Option.some_ne_none _ e.symm), fun p h => absurd h List.not_mem_nil⟩
theorem mk_Rf2 {h₀ h : Heap} {L : Addr} {x r1 r2 r3 r4 r5 r6 r7 r8 r9 r10 : Addr × Obj} {e : List (Addr × Obj)} (N : News h₀ L h (r1 :: x :: r2 :: r3 :: r4 :: r5 :: r6 :: r7 :: r8 :: r9 :: r10 :: e)) :
    ∃ Rf : List (Addr × Obj) → List (Addr × Obj), Rf = (fun e => r1 :: r2 :: r3 :: r4 :: r5 :: r6 :: r7 :: r8 :: r9 :: r10 :: e) ∧ News h₀ L h (x :: Rf e) := ⟨_, rfl, news_swap N⟩
theorem off_swap {I Row : Addr} {o1 : Obj} {r2 r3 r4 r5 r6 r7 r8 r9 r10 : Addr × Obj} {e : List (Addr × Obj)} (off : ∀ p ∈ (Row, o1) :: r2 :: r3 :: r4 :: r5 :: r6 :: r7 :: r8 :: r9 :: r10 :: e, p.1 ≠ I) (o : Obj) (e' : List (Addr × Obj)) (he : ∀ p ∈ e', p.1 ≠ I) :
    ∀ p ∈ (Row, o) :: r2 :: r3 :: r4 :: r5 :: r6 :: r7 :: r8 :: r9 :: r10 :: e', p.1 ≠ I := by
  refine off_cons (by have h := off (Row, o1) (.head _); exact h) ?_
  replace off := off_tl off
  iterate 9 (refine off_cons (off_hd off) ?_; replace off := off_tl off)
  exact he
theorem upd3 {m : Str → Option Value} {x a b c : Str} {v va vb vc : Value} (ha : m a = some va) (hb : m b = some vb) (hc : m c = some vc) :
    (fun y => if y = x then some v else m y) = fun y => if y = x then some v else if y = a then some va else if y = b then some vb else if y = c then some vc else m y := by
  funext y
  by_cases h0 : y = x
  · rw [if_pos h0, if_pos h0]
  rw [if_neg h0, if_neg h0]
  by_cases h1 : y = a
  · rw [if_pos h1, h1, ha]
  rw [if_neg h1]
  by_cases h2 : y = b
  · rw [if_pos h2, h2, hb]
  rw [if_neg h2]
  by_cases h3 : y = c
  · rw [if_pos h3, h3, hc]
  rw [if_neg h3]
theorem covered_flat (ts ps : List Nat) : (ts.flatMap fun a => ps.map (fun b => (b + a) % 16)) = covered ts ps := by
  unfold covered pairs
  induction ts with
  | nil => rfl
  | cons t ts ih => rw [List.flatMap_cons, List.flatMap_cons, List.map_append, ih, List.map_map]; rfl
theorem hue_low {news : List (Addr × Obj)} {v : Value} {x y z : UInt64} {n m : Nat} (H : HueIn news v x y z n m) (hn : 1 ≤ n) : HueIn news v x y z 1 m := by
  refine hideG fun GG hGG => ?_
  obtain ⟨a, t1, t2, t3, rfl, h1, k1, k2, k3, k4, k5⟩ := H
  refine hGG ?_
  clear hGG GG
  exact ⟨a, t1, t2, t3, rfl, h1, k1, k2, k3, Nat.le_trans hn k4, k5⟩
theorem sorted_le {l : List Nat} {n : Nat} (hs : l.Pairwise (· < ·)) (h : ∀ x ∈ l, x < n) : l.length ≤ n := by
  have : ∀ (l : List Nat) (m : Nat), l.Pairwise (· < ·) → (∀ x ∈ l, m ≤ x ∧ x < n) → m ≤ n → l.length + m ≤ n := by
    intro l
    induction l with
    | nil => intro m _ _ h; simpa using h
    | cons x l ih =>
      intro m hp hx hm
      rw [List.pairwise_cons] at hp
      have h1 := hx x (.head _)
      have := ih (x + 1) hp.2 (fun y hy => ⟨hp.1 y hy, (hx y (.tail _ hy)).2⟩) h1.2
      rw [List.length_cons]
      exact Nat.le_trans (by rw [Nat.add_assoc, Nat.add_comm 1 m]; exact Nat.add_le_add_left (Nat.succ_le_succ h1.1) _) this
  have := this l 0 hs (fun x hx => ⟨Nat.zero_le _, h x hx⟩) (Nat.zero_le _)
  exact this
theorem mk_B {h₀ h : Heap} {L : Addr} {r1 r2 r3 r4 r5 r6 r7 r8 r9 r10 : Addr × Obj} {e : List (Addr × Obj)} (N : News h₀ L h (r1 :: r2 :: r3 :: r4 :: r5 :: r6 :: r7 :: r8 :: r9 :: r10 :: e)) :
    ∃ B : List (Addr × Obj) → List (Addr × Obj), B = (fun e => r1 :: r2 :: r3 :: r4 :: r5 :: r6 :: r7 :: r8 :: r9 :: r10 :: e) ∧ News h₀ L h (B e) := ⟨_, rfl, N⟩
/-- the wanted row, so far -/
noncomputable def WantG (y z : UInt64) (cov : List Nat) (extra : List (Addr × Obj)) (i : Nat) (ys : List Value) (e : List (Addr × Obj)) : Prop :=
  ∃ n, ys.length = ((List.range i).filter (fun x => cov.contains x)).length ∧ (∀ (j : Nat) (v : Value) (c : UInt64), ys[j]? = some v → (((List.range i).filter (fun x => cov.contains x)).map (fun k => Mine.fr k 16))[j]? = some c → HueIn e v c y z 1 n) ∧ (∀ p ∈ extra, p ∈ e)
theorem any_nat {l : List Nat} {i : Nat} : ((l.map Int.ofNat).any fun x => x == ((i : Nat) : Int)) = l.contains i := by
  rw [List.any_map, ← List.any_beq']
  congr 1
  funext x
  show (decide (_) : Bool) = _
  rw [Bool.eq_iff_iff]
  simp only [decide_eq_true_eq, Function.comp_apply, beq_iff_eq]
  constructor
  · intro h
    exact Int.ofNat_inj.mp h
  · intro h
    subst h
    rfl
theorem off_insert {I C D : Addr} {r1 r2 r3 r4 r5 r6 r7 r8 r9 r10 t : Addr × Obj} {e : List (Addr × Obj)} (off : LCg.Off3 I C D (r1 :: r2 :: r3 :: r4 :: r5 :: r6 :: r7 :: r8 :: r9 :: r10 :: e)) (ht : (@Ne Nat t.1 I) ∧ (@Ne Nat t.1 C) ∧ (@Ne Nat t.1 D)) :
    LCg.Off3 I C D (r1 :: r2 :: r3 :: r4 :: r5 :: r6 :: r7 :: r8 :: r9 :: r10 :: t :: e) :=
  ⟨off.1, off.2.1, off.2.2.1, off.2.2.2.1, off.2.2.2.2.1, off.2.2.2.2.2.1, off.2.2.2.2.2.2.1, off.2.2.2.2.2.2.2.1, off.2.2.2.2.2.2.2.2.1, off.2.2.2.2.2.2.2.2.2.1, ht, off.2.2.2.2.2.2.2.2.2.2⟩
theorem WantG.step {y z : UInt64} {cov : List Nat} {extra e : List (Addr × Obj)} {i : Nat} {ys : List Value} {t : Addr} {t1 t2 t3 : Tok} (h : WantG y z cov extra i ys e) (hin : cov.contains i = true) (k1 : t1 ≠ 0) (k2 : t2 ≠ 0) (k3 : t3 ≠ 0) :
    WantG y z cov extra (i + 1) (ys ++ [.ref t]) ((t, tup [.float (Mine.fr i 16) t1, .float y t2, .float z t3]) :: e) := by
  refine hideG fun GG hGG => ?_
  obtain ⟨n, g1, g2, g3⟩ := h
  refine hGG ?_
  clear hGG GG
  have ef : (List.range (i + 1)).filter (fun x => cov.contains x) = (List.range i).filter (fun x => cov.contains x) ++ [i] := by
    rw [List.range_succ, List.filter_append, List.filter_cons, hin]
    rfl
  refine ⟨max n (t1 + 1), by rw [ef, List.length_append, List.length_append, g1]; rfl, fun j v c hv hc => ?_, fun p hp => .tail _ (g3 p hp)⟩
  rw [ef, List.map_append] at hc
  have hl : (((List.range i).filter (fun x => cov.contains x)).map (fun k => Mine.fr k 16)).length = ys.length := by rw [List.length_map, g1]
  by_cases hj : j < ys.length
  · rw [List.getElem?_append_left hj] at hv
    rw [List.getElem?_append_left (by rw [hl]; exact hj)] at hc
    exact (g2 j v c hv hc).mono (fun p hp => .tail _ hp) (Nat.le_max_left _ _)
  · rw [List.getElem?_append_right (Nat.not_lt.mp hj)] at hv
    rw [List.getElem?_append_right (by rw [hl]; exact Nat.not_lt.mp hj), hl] at hc
    obtain ⟨q, hq⟩ : ∃ q, q = j - ys.length := ⟨_, rfl⟩
    rw [← hq] at hv hc
    cases q with
    | zero =>
      cases Option.some.inj hv
      cases Option.some.inj hc
      exact ⟨t, t1, t2, t3, rfl, .head _, k1, k2, k3, Nat.one_le_iff_ne_zero.mpr k1, Nat.lt_of_lt_of_le (Nat.lt_succ_self _) (Nat.le_max_right _ _)⟩
    | succ q => simp at hv
theorem cnt_self {l : List Nat} {x : Nat} (hs : l.Pairwise (· < ·)) : cnt l x ≤ x := by
  have h1 : cnt l x = (l.filter (fun y => decide (y < x))).length := by
    unfold cnt
    rw [List.countP_eq_length_filter]
  rw [h1]
  exact sorted_le (hs.filter _) (fun y hy => by simpa using (List.mem_filter.mp hy).2)
theorem two_of {l : List Nat} (h : l.length = 2) : ∃ p q, l = [p, q] := by
  match l, h with
  | [p, q], _ => exact ⟨p, q, rfl⟩
theorem ints2 {vs : List Value} {x y : Nat} (h : IntsAre vs ([x, y].map Int.ofNat)) : ∃ t0 t1, vs = [.int ((x : Nat) : Int) t0, .int ((y : Nat) : Int) t1] := by
  refine hideG fun GG hGG => ?_
  obtain ⟨t0, v0, e0, h1⟩ := ints_uncons h
  refine hGG ?_
  clear hGG GG
  refine hideG fun GG hGG => ?_
  obtain ⟨t1, v1, e1, h2⟩ := ints_uncons h1
  refine hGG ?_
  clear hGG GG
  have e7 := ints_unnil h2
  subst e7 e1 e0
  exact ⟨_, _, rfl⟩
noncomputable def maskN (ps : List Nat) (t : Nat) : Nat := (ps.map (fun p => 2 ^ ((p + t) % 16))).foldl (· + ·) 0
theorem fr_due {h₀ h : Heap} {L : Addr} {m : Str → Option Value} {a : Str} {x : Int} {t : Tok} (F : Fr h₀ L h (fun y => if y = a then some (.int x t) else m y)) : ∃ (t' : Tok) (m' : Str → Option Value), Fr h₀ L h (fun y => if y = a then some (.int x t') else m' y) := ⟨_, _, F⟩
theorem masks_len (ps : List Nat) : (masksN ps).length = 16 := by
  unfold masksN
  rw [List.length_map, List.length_range]
end Mine
example : PySem.Challenge.rw_sr0038_01 = PySem.Challenge.rw_sr0038_01 ∧ Mine.hd.heap_39 = Mine.hd.heap_39 := by
  k_fill
  exact ⟨rfl, rfl⟩
namespace Mine
example : True := by
  k_with_none
  trivial
set_option maxRecDepth 100000 in
set_option maxHeartbeats 8000000 in
theorem t1 : PySem.Challenge.rw_sr0038_01.Holds := Mine.hd (by
  w_strict (
    k_go0
    (all_goals try k_fold)
    k_with "call ref" => refine Stop.mk ?_
    k_with "exec For Name Subscript cons nil" => refine Stop.mk ?_
    k_steps
    refine Stop.to ?_
    rename (World) => w
    rename Below callerA _ _ _ => B0
    rename (hd.heap_39 _).In _ => X0
    rename Top hd.view_39 _ _ _ _ _ => T0
    rename (Fr _ _ _ _) => F1
    rename (News _ _ _ _) => N1
    rename (IntsAre _ _) => hI
    rename (Heap.IsList _ _ _) => hL
    rename List Int => ns
    have hns : ns.length ≤ 63 := by
      exact Int.ofNat_le.mp (Int.not_lt.mp ‹¬ (63 : Int) < _›)
    rename Shared => s1
    have B1 : Below callerA s1.heap [] s1.heap := B0
    clear B0
    refine drawn B1 F1 X0 N1 T0 rfl (show _ < recursionLimit by decide) (show _ < cLine by decide) hL hI hns (fun D us kd h2 tk2 hus F2 N2 lD => ?_)
    clear F1 N1
    try k_lt lD
    refine hideG fun GG hGG => ?_
    obtain ⟨d0, d1, d2, d3, d4, d5, d6, t0, t1, t2, t3, t4, t5, t6, eus⟩ := seven hus (drawnF_len ns)
    refine hGG ?_
    clear hGG GG
    clear hus
    subst eus
    try dsimp only
    k_with "call type:list" => refine Stop.mk ?_
    k_with "call builtin:list.pop" => refine Stop.mk ?_
    k_steps
    refine Stop.to ?_
    rename (Fr _ _ _ _) => F1
    rename (News _ _ _ _) => N1
    rename IsRange _ _ _ _ _ _ _ _ => rg
    refine kll_range (n := 16) rfl F1 N1 rg (small_one (by decide) (by decide) (by decide) (by decide)) (rangeSize_nat _ _) (by decide) (fun Fa fvs fc h3 tk3 F3 N3 lF hIf => ?_)
    clear F1 N1 rg
    try k_lt lF
    try dsimp only
    k_steps
    refine Stop.to ?_
    refine wpAny_For ?_ (by intro _; rfl)
    k_with "pyIter ref" => refine Stop.mk ?_
    k_steps
    refine Stop.to ?_
    rename (Fr _ _ _ _) => F1
    rename (News _ _ _ _) => N1
    rename (_ < _ ∧ _ < _ ∧ _) => lS
    refine hideG fun GG hGG => ?_
    obtain ⟨Pa, R, hPa, hR, N2⟩ := led3 N1
    refine hGG ?_
    clear hGG GG
    subst hPa
    clear N1
    have hPF : Pa ≠ Fa := by ((try dsimp only); first | (refine Nat.ne_of_lt ?_; k_types) | (refine Nat.ne_of_gt ?_; k_types) | (refine neN ?_; omega))
    have hRP : ∀ p ∈ R, p.1 ≠ Pa := by
      rw [hR]
      iterate 8 (refine off_cons ?_ ?_; · ((try dsimp only); first | (refine Nat.ne_of_lt ?_; k_types) | (refine Nat.ne_of_gt ?_; k_types) | (refine neN ?_; omega)))
      exact all_nil
    have hRF : ∀ p ∈ R, p.1 ≠ Fa := by
      rw [hR]
      iterate 8 (refine off_cons ?_ ?_; · ((try dsimp only); first | (refine Nat.ne_of_lt ?_; k_types) | (refine Nat.ne_of_gt ?_; k_types) | (refine neN ?_; omega)))
      exact all_nil
    try dsimp only
    refine For_it (DrawJ Pa Fa D s1.heap R) rfl rfl rfl F1 N2 (by rw [hR]; exact .tail _ (.tail _ (.head _))) ?_ ?_ ?_
    · exact ⟨rfl, [], List.range 16, _, _, _, _, rfl, .nil, hIf, .nil, rfl, rfl, nofun, fun x hx => ⟨List.mem_range.mp hx, nofun⟩, List.nodup_range, rfl, rfl⟩
    · intro i v m₁ g₁ led h tk I io hv hPT hSl off hio F3 N3
      refine hideG fun GG hGG => ?_
      obtain ⟨rfl, pl, fr, pvs, fvs, kp, kf, rfl, hip, hif, hsrt, hpl, hfr, hp16, hf16, hnd, hm1, hm2⟩ := hPT
      refine hGG ?_
      clear hGG GG
      clear F1 N2
      subst hR
      have hll : fvs.length = fr.length := by
        have := hif.length
        rw [List.length_map] at this
        exact this
      have hlf : fvs.length = 16 - i := by
        rw [hll]
        exact Nat.eq_sub_of_add_eq hfr
      rw [upd2 hm1 hm2] at F3
      k_with "call builtin:len" => refine Stop.mk ?_
      k_steps
      refine Stop.to ?_
      obtain ⟨x, tx, rfl⟩ : ∃ x tx, v = .int x tx := by
        rcases i with _ | _ | _ | _ | i
        · exact ⟨_, _, (by simpa using hv.symm : v = .int d0 t0)⟩
        · exact ⟨_, _, (by simpa using hv.symm : v = .int d1 t1)⟩
        · exact ⟨_, _, (by simpa using hv.symm : v = .int d2 t2)⟩
        · exact ⟨_, _, (by simpa using hv.symm : v = .int d3 t3)⟩
        · simp at hv
      have hi4 : i < 4 := by
        have := (List.getElem?_eq_some_iff.mp hv).1
        simpa using this
      obtain ⟨nf, hnf⟩ : ∃ nf : Nat, nf = 16 - i := ⟨_, rfl⟩
      have hnf1 : 0 < nf := by
        rw [hnf]
        exact Nat.sub_pos_of_lt (Nat.lt_trans hi4 (by decide))
      have hnf16 : nf ≤ 16 := by
        rw [hnf]
        exact Nat.sub_le 16 i
      refine len_list (by is_list) (by rw [List.size_toArray, hlf, ← hnf]; exact Int.lt_of_le_of_lt (Int.ofNat_le.mpr hnf16) (by decide)) ?_
      rw [show fvs.toArray.size = nf by rw [List.size_toArray, hlf, hnf]]
      have hnf0 : (nf : Int) ≠ 0 := fun e => Nat.ne_of_gt hnf1 (Int.ofNat_inj.mp e)
      k_steps
      refine Stop.to ?_
      have hx0 : 0 ≤ Int.fmod x nf ∧ Int.fmod x nf < nf := by
        rw [Int.fmod_eq_emod_of_nonneg _ (Int.natCast_nonneg _)]
        exact ⟨Int.emod_nonneg _ hnf0, Int.emod_lt_of_pos _ (Int.ofNat_lt.mpr hnf1)⟩
      obtain ⟨kx, hkx⟩ : ∃ kx : Nat, Int.fmod x nf = kx := ⟨_, (Int.toNat_of_nonneg hx0.1).symm⟩
      rw [hkx] at hx0 ⊢
      have hk1 : kx < fvs.length := by
        rw [hlf, ← hnf]
        exact Int.ofNat_lt.mp hx0.2
      have hk2 : kx < fr.length := by
        rw [← hll]
        exact hk1
      obtain ⟨ty, ey⟩ := hif.get kx (fr[kx] : Int) (by rw [List.getElem?_map, List.getElem?_eq_getElem hk2]; rfl)
      have ey2 : fvs[kx] = .int (fr[kx] : Int) ty := by
        rw [List.getElem?_eq_getElem hk1] at ey
        exact Option.some.inj ey
      rename Fr s1.heap _ _ _ => F4
      rename News s1.heap _ _ _ => N4
      have hcut := kl_cut_at fvs kx hk1
      rw [ey2] at hcut
      have hIF : Fa ≠ I := off (Fa, _) (.tail _ (.head _))
      have N5 := News.sub (news := (Fa, listOf (List.toArray fvs) kf) :: (I, io) :: (Pa, listOf (List.toArray pvs) kp) :: _) N4 (fun p hp => by
        rcases List.mem_cons.mp hp with rfl | hp
        · exact .tail _ (.tail _ (.head _))
        · rcases List.mem_cons.mp hp with rfl | hp
          · exact .head _
          · rcases List.mem_cons.mp hp with rfl | hp
            · exact .tail _ (.head _)
            · exact .tail _ (.tail _ (.tail _ hp)))
      clear N4
      refine kl_popAt F4 N5 (by simp only [Builtin.List.listFitsIndex, Bool.and_eq_true, decide_eq_true_eq]; exact ⟨Int.le_trans (by decide) hx0.1, Int.lt_trans hx0.2 (Int.lt_of_le_of_lt (Int.ofNat_le.mpr hnf16) (by decide))⟩) (seqIndex_at hx0.1 (by rw [List.size_toArray]; exact Int.ofNat_lt.mpr hk1)) hcut (Upd.head (fun p hp => by
        rcases List.mem_cons.mp hp with rfl | hp
        · exact Ne.symm hIF
        · rcases List.mem_cons.mp hp with rfl | hp
          · exact hPF
          · exact hRF p hp)) (by rw [sizeLine_eq]; exact Nat.le_trans (Nat.le_of_eq hlf) (Nat.le_trans (Nat.sub_le 16 i) (by decide))) (fun h5 F5 N6 => ?_)
      clear F4 N5
      try dsimp only
      k_steps
      refine Stop.to ?_
      rename Fr s1.heap _ _ _ => F7
      rename News s1.heap _ _ _ => N7
      have hPI : Pa ≠ I := off (Pa, _) (.head _)
      have N8 := News.sub (news := (Pa, listOf (List.toArray pvs) kp) :: (Fa, listOf (List.toArray (fvs.take kx ++ fvs.drop (kx + 1))) (kf + 1)) :: (I, io) :: _) N7 (fun p hp => by
        rcases List.mem_cons.mp hp with rfl | hp
        · exact .tail _ (.tail _ (.head _))
        · rcases List.mem_cons.mp hp with rfl | hp
          · exact .head _
          · rcases List.mem_cons.mp hp with rfl | hp
            · exact .tail _ (.head _)
            · exact .tail _ (.tail _ (.tail _ hp)))
      clear N7
      have hy16 := hf16 fr[kx] (List.getElem_mem hk2)
      refine ins B1 F7 X0 N8 T0 rfl (fun p hp => by
        rcases List.mem_cons.mp hp with rfl | hp
        · exact Ne.symm hPF
        · rcases List.mem_cons.mp hp with rfl | hp
          · exact Ne.symm hPI
          · exact hRP p hp) (by rw [hip.length, List.length_map, hpl]; exact Nat.lt_trans hi4 (by decide)) (show _ < recursionLimit by decide) (show _ < cLine by decide) (k := cnt pl fr[kx]) (by rw [hip.length, List.length_map]; exact cnt_le _ _) (cmpLt_ints hip (cast_cmp hsrt hy16.2)) (fun h9 tk9 F9 N9 => ?_)
      clear F7 N8
      try dsimp only
      k_steps
      rename Fr s1.heap _ _ _ => F11
      rename News s1.heap _ _ _ => N11
      refine ⟨_, _, _, s1.heap, (Pa, listOf (List.toArray (pvs.take (cnt pl fr[kx]) ++ .int (fr[kx] : Int) ty :: pvs.drop (cnt pl fr[kx]))) (kp + 1)) :: (Fa, listOf (List.toArray (fvs.take kx ++ fvs.drop (kx + 1))) (kf + 1)) :: _, rfl, F11, News.sub N11 (fun p hp => ?_), .tail _ (.tail _ (.head _)), ?_, rfl, insN pl fr[kx], fr.take kx ++ fr.drop (kx + 1), _, _, _, _, rfl, ?_, ?_, insN_sorted hsrt hy16.2, by rw [insN_len, hpl], ?_, ?_, ?_, ?_, rfl, rfl⟩
      · rcases List.mem_cons.mp hp with rfl | hp
        · exact .tail _ (.tail _ (.head _))
        · rcases List.mem_cons.mp hp with rfl | hp
          · exact .head _
          · rcases List.mem_cons.mp hp with rfl | hp
            · exact .tail _ (.head _)
            · exact .tail _ (.tail _ (.tail _ hp))
      · intro p hp
        rcases List.mem_cons.mp hp with rfl | hp
        · exact hPI
        · rcases List.mem_cons.mp hp with rfl | hp
          · exact hIF
          · exact off p (.tail _ (.tail _ hp))
      · exact ints_ins hip
      · exact ints_cut hif
      · rw [Nat.add_comm i 1, ← Nat.add_assoc, cut_len hk2]
        exact hfr
      · intro z hz
        rcases mem_insN.mp hz with rfl | hz
        · exact hy16.1
        · exact hp16 z hz
      · intro z hz
        have := hf16 z (cut_sub hz)
        refine ⟨this.1, fun hm => ?_⟩
        rcases mem_insN.mp hm with e | hm
        · exact cut_ne hk2 hnd hz e
        · exact this.2 hm
      · exact cut_nodup hnd
    · intro m₁ g₁ led h tk hJ hD F3 N3
      try dsimp +zetaDelta only
      as_aux_lemma =>
        k_with_none
        refine hideG fun GG hGG => ?_
        obtain ⟨rfl, pl, fr, pvs, fvs, kp, kf, rfl, hip, hif, hsrt, hpl, hfr, hp16, hf16, hnd, hm1, hm2⟩ := hJ
        refine hGG ?_
        clear hGG GG
        refine hideG fun GG hGG => ?_
        obtain ⟨a, b, c, d, ta, tb, tc, td, rfl, hab, hbc, hcd, hd16, rfl⟩ := four hip (by rw [hpl]; rfl) hsrt hp16
        refine hGG ?_
        clear hGG GG
        clear hip hif hsrt hpl hfr hp16 hf16 hnd F1 N2 hD
        subst hR
        have N4 : News s1.heap _ _ (_ :: _ :: _ :: _ :: _ :: _ :: _ :: _ :: []) := news_pick [0, 3, 4, 5, 6, 7, 8, 9] N3
        clear N3
        try dsimp only
        rw [map2 hm1 hm2] at F3
        clear hRP hRF hm1
        k_with "subscript Str" => refine Stop.mk ?_
        k_with "call ref" => refine Stop.mk ?_
        k_steps
        refine Stop.to ?_
        rename Fr s1.heap _ _ _ => F4
        rename News s1.heap _ _ _ => N4
        obtain ⟨k, hk, ek⟩ := mark_of d4
        rw [show [d0, d1, d2, d3, d4, d5, d6].getD (Int.toNat 4) 0 = d4 from rfl, ek]
        refine gaps B1 F4 X0 N4 T0 rfl (show _ < recursionLimit by decide) (show _ < cLine by decide) (marks_len k hk) (all_cons (nat_rng (Nat.lt_trans hab (Nat.lt_trans hbc (Nat.lt_trans hcd hd16)))) (all_cons (nat_rng (Nat.lt_trans hbc (Nat.lt_trans hcd hd16))) (all_cons (nat_rng (Nat.lt_trans hcd hd16)) (all_cons (nat_rng hd16) all_nil)))) (ringsOk a b c d k hab hbc hcd hd16 hk) (fun G gvs kg h5 tk5 hgv F5 N5 l5 l5' => ?_)
        clear F4 N4
        rw [gpI_a, gpI_b hab, gpI_c hab hbc, gpI_d hab hbc hcd] at hgv
        refine hideG fun GG hGG => ?_
        obtain ⟨v0, v1, v2, v3, rfl⟩ := ints4 hgv
        refine hGG ?_
        clear hGG GG
        clear hgv
        try k_lt l5'
        try dsimp only
        k_with "exec For Name BinOp cons nil" => refine Stop.mk ?_
        k_steps
        try dsimp +zetaDelta only
        as_aux_lemma =>
          k_with_none
          refine Stop.to ?_
          refine wpAny_For ?_ (by intro _; rfl)
          k_with "pyIter ref" => refine Stop.mk ?_
          k_steps
          refine Stop.to ?_
          try dsimp only
          try dsimp +zetaDelta only
          as_aux_lemma =>
            k_with_none
            rename Fr s1.heap _ _ _ => F1
            rename News s1.heap _ _ _ => N1
            rename (_ < _ ∧ _ < _ ∧ _) => lI
            have N2 : News s1.heap _ _ (_ :: _ :: _ :: _ :: _ :: _ :: _ :: _ :: _ :: _ :: []) := news_pick [2, 9, 0, 4, 5, 6, 7, 8, 10, 11] N1
            clear N1
            obtain ⟨ws, hwi, N2⟩ := led_ways hab hbc hcd hd16 N2
            refine hideG fun GG hGG => ?_
            obtain ⟨Lv, cl, R, e1, e2, hR, N3⟩ := led_names N2
            refine hGG ?_
            clear hGG GG
            subst e1 e2
            clear N2
            have hRL : ∀ p ∈ R, p.1 ≠ Lv := by
              rw [hR]
              iterate 8 (refine off_cons ?_ ?_; · ((try dsimp only); first | (refine Nat.ne_of_lt ?_; k_types) | (refine Nat.ne_of_gt ?_; k_types) | (refine neN ?_; omega)))
              exact all_nil
            have hLc : s1.heap.objs.size + 1 + 1 + 1 ≠ Lv := by ((try dsimp only); first | (refine Nat.ne_of_lt ?_; k_types) | (refine Nat.ne_of_gt ?_; k_types) | (refine neN ?_; omega))
            refine For_it (LevJ Lv (s1.heap.objs.size + 1 + 1 + 1) D s1.heap R a b c d) rfl rfl rfl F1 N3 (by rw [hR]; exact .tail _ (.tail _ (.head _))) ?_ ?_ ?_
            · exact ⟨rfl, [], _, _, _, _, rfl, ‹_›, .nil, rfl, .nil, nofun, Nat.le_refl _, rfl⟩
            · intro i v m₁ g₁ led h tk I io hv hPT hSl off hio F3 N4
              refine hideG fun GG hGG => ?_
              obtain ⟨rfl, ls, lvs, kl, oL, vL, rfl, hoL, hil, hls, hsrt, hl4, hln, hm2⟩ := hPT
              refine hGG ?_
              clear hGG GG
              clear F1 N3
              have hiL : i < (wayList a b c d).length := by
                have := (List.getElem?_eq_some_iff.mp hv).1
                have h2 := hwi.length
                rw [List.length_map] at h2
                rw [h2] at this
                exact this
              have hi6 : i < 6 := hiL
              obtain ⟨t, ev⟩ := hwi.get i ((wayList a b c d)[i]'hiL : Int) (by rw [List.getElem?_map, List.getElem?_eq_getElem hiL]; rfl)
              rw [hv] at ev
              cases Option.some.inj ev
              clear hwi ev
              obtain ⟨W, hW⟩ : ∃ W : Nat, W = (wayList a b c d)[i]'hiL := ⟨_, rfl⟩
              rw [← hW] at F3
              have hW16 := way_range hab hbc hcd hd16 W (hW ▸ List.getElem_mem hiL)
              have hstep : ((wayList a b c d).take (i + 1)).foldl (fun l w => levN l (lvNat w)) [] = levN ls (lvNat W) := by
                rw [List.take_add_one, List.getElem?_eq_getElem hiL, ← hW, List.foldl_append, ← hls]
                rfl
              have hIL : Lv ≠ I := off (Lv, _) (.head _)
              have hIc : s1.heap.objs.size + 1 + 1 + 1 ≠ I := off (_, oL) (.tail _ (.head _))
              subst hR
              rw [upd1 hm2] at F3
              k_with "call ref" => refine Stop.mk ?_
              k_steps
              refine Stop.to ?_
              rename Fr s1.heap _ _ _ => F5
              rename News s1.heap _ _ _ => N5
              refine level B1 F5 X0 N5 T0 rfl (show _ < recursionLimit by decide) (show _ < cLine by decide) hW16.1 hW16.2 (fun tl h6 tk6 F6 N6 => ?_)
              clear F5 N5
              rw [lv_nat W hW16.2 hW16.1]
              try dsimp only
              k_steps
              refine Stop.to ?_
              rename Fr s1.heap _ _ _ => F7
              rename News s1.heap _ _ _ => N7
              have N8 := news_swap N7
              clear N7
              have hls6 : ls.length < 6 := Nat.lt_of_le_of_lt hln hi6
              refine bl B1 F7 X0 N8 T0 rfl hil (by rw [List.length_map]; exact Nat.lt_trans hls6 (by decide)) (show _ < recursionLimit by decide) (show _ < cLine by decide) (by rw [List.length_map]; exact cnt_le _ _) (getD_lo hsrt) (getD_hi hsrt) (fun tw h9 tk9 F9 N9 => ?_)
              clear F7 N8
              try dsimp only
              k_with "subscriptTail Name Slice ref ref" => refine Stop.mk ?_
              k_with "compareOp NotEq ref ref" => refine Stop.mk ?_
              have hcl := cnt_le ls (lvNat W)
              have e1 : (((cnt ls (lvNat W) : Nat) : Int)).toNat = cnt ls (lvNat W) := Int.toNat_natCast _
              k_steps
              refine Stop.to ?_
              refine' kmk_slice_ints (vs := lvs) (ns := ls.map Int.ofNat) (ms := ((ls.drop (cnt ls (lvNat W))).take 1).map Int.ofNat) (c := ((ls.drop (cnt ls (lvNat W))).take 1).length) ?yF ?yN ?yl ?yp ?yq ?yi ?ym ?yc ?_ ?ys ?yt ?yz
              case yF => k_asm
              case yN => k_asm
              case yl => kmk_list
              case yp => kmk_part
              case yq => kmk_part
              case yi => exact hil
              case ym => 
                have := kmk_run (x := (cnt ls (lvNat W) : Nat)) (y := (cnt ls (lvNat W) : Nat) + 1) hil (Int.natCast_nonneg _) (Int.add_nonneg (Int.natCast_nonneg _) (by decide))
                rw [slice_one hcl] at this
                exact this
              case yc => exact List.length_map _
              case ys => with_unfolding_all rfl
              case yt => kmk_pure
              case yz => rw [sizeLine_eq]; rw [List.size_toArray, hil.length, List.length_map]; exact Nat.le_of_lt (Nat.lt_trans hls6 (by decide))
              intro D2 ws2 h10 F10 N10 l10 hI10 hC10 hL10
              k_steps
              refine Stop.to ?_
              rename Fr s1.heap _ _ _ => F11
              rename News s1.heap _ _ _ => N11
              refine ne_intsK (by is_list) hI10 (by is_list) (ms := [((lvNat W : Nat) : Int)]) (by l_ints) (show callerA.units + 3 + 64 < cLine by decide) ?_
              rcases levN_spec (x := lvNat W) hsrt with ⟨e, eL⟩ | ⟨e, eL, hx⟩
              · rw [e, show (!decide (List.map Int.ofNat [lvNat W] = [((lvNat W : Nat) : Int)])) = false from by simp]
                k_steps
                rename Fr s1.heap _ _ _ => F12
                rename News s1.heap _ _ _ => N12
                have N13 : News s1.heap _ _ (_ :: _ :: _ :: _ :: _ :: _ :: _ :: _ :: _ :: _ :: _ :: []) := news_pick [3, 2, 4, 5, 6, 7, 8, 9, 10, 11, 12] N12
                clear N12
                refine ⟨_, _, _, s1.heap, _, rfl, F12, N13, .tail _ (.tail _ (.head _)), ?_, rfl, ls, _, _, _, _, rfl, ‹_›, hil, ?_, hsrt, hl4, Nat.le_succ_of_le hln, rfl⟩
                · intro p hp
                  rcases List.mem_cons.mp hp with rfl | hp
                  · exact hIL
                  · rcases List.mem_cons.mp hp with rfl | hp
                    · exact hIc
                    · exact off p (.tail _ (.tail _ hp))
                · rw [hstep, eL]
              · rw [show (!decide (((ls.drop (cnt ls (lvNat W))).take 1).map Int.ofNat = [((lvNat W : Nat) : Int)])) = true from by
                  rw [Bool.not_eq_true', decide_eq_false_iff_not]
                  intro h
                  exact e (map_one h)]
                k_with "call builtin:list.insert" => refine Stop.mk ?_
                k_steps
                refine Stop.to ?_
                rename Fr s1.heap _ _ _ => F12
                rename News s1.heap _ _ _ => N12
                have N13 : News s1.heap _ _ (_ :: _ :: _ :: _ :: _ :: _ :: _ :: _ :: _ :: _ :: _ :: []) := news_pick [2, 3, 4, 5, 6, 7, 8, 9, 10, 11, 12] N12
                clear N12
                refine kl_insert F12 N13 (by simp only [Builtin.List.listFitsIndex, Bool.and_eq_true, decide_eq_true_eq]; exact ⟨Int.le_trans (by decide) (Int.natCast_nonneg _), Int.lt_of_lt_of_le (Int.ofNat_lt.mpr (Nat.lt_of_le_of_lt hcl hls6)) (by decide)⟩) (l := lvs.take (cnt ls (lvNat W)) ++ .int ((lvNat W : Nat) : Int) tl :: lvs.drop (cnt ls (lvNat W))) ?_ (Upd.head (fun p hp => by
                  rcases List.mem_cons.mp hp with rfl | hp
                  · exact Ne.symm hIL
                  · rcases List.mem_cons.mp hp with rfl | hp
                    · exact hLc
                    · exact hRL p hp)) (by rw [sizeLine_eq]; show lvs.length ≤ _; rw [hil.length, List.length_map]; exact Nat.le_of_lt (Nat.lt_trans hls6 (by decide))) ?_
                · have e : (if ((cnt ls (lvNat W) : Nat) : Int) < 0 then (((cnt ls (lvNat W) : Nat) : Int) + (lvs.length : Int)).toNat else min ((cnt ls (lvNat W) : Nat) : Int).toNat lvs.length) = cnt ls (lvNat W) := by
                    rw [if_neg (Int.not_lt.mpr (Int.natCast_nonneg _)), hil.length, List.length_map, Int.toNat_natCast, Nat.min_eq_left hcl]
                  show kl_ins lvs _ _ = _
                  unfold kl_ins
                  rw [e]
                intro h13 F13 N14
                clear F12 N13
                k_steps
                rename Fr s1.heap _ _ _ => F15
                rename News s1.heap _ _ _ => N15
                refine ⟨_, _, _, s1.heap, _, rfl, F15, news_swap N15, .tail _ (.tail _ (.head _)), ?_, rfl, insN ls (lvNat W), _, _, _, _, rfl, ‹_›, ints_ins hil, ?_, insN_sorted hsrt hx, ?_, by rw [insN_len]; exact Nat.succ_le_succ hln, rfl⟩
                · intro p hp
                  rcases List.mem_cons.mp hp with rfl | hp
                  · exact hIL
                  · rcases List.mem_cons.mp hp with rfl | hp
                    · exact hIc
                    · exact off p (.tail _ (.tail _ hp))
                · rw [hstep, eL]
                · intro z hz
                  rcases mem_insN.mp hz with rfl | hz
                  · exact lvNat_lt W
                  · exact hl4 z hz
            · clear F1 N3
              intro m₁ g₁ led h tk hJ hD F3 N3
              try dsimp +zetaDelta only
              as_aux_lemma =>
                k_with_none
                obtain ⟨rfl, ls, lvs, kl, oL, vL, rfl, hoL, hil, hls, hsrt, hl4, hln, hm2⟩ := hJ
                have hwl : ws.length = 6 := by
                  have := hwi.length
                  rw [List.length_map] at this
                  exact this
                have hls2 : ls = levels a b c d := by
                  rw [hls, hwl]
                  rfl
                rw [hwl] at hln
                clear hls hwi
                subst hR
                rw [map1 hm2] at F3
                try dsimp only
                k_with "exec For Name Call cons nil" => refine Stop.mk ?_
                k_steps
                refine Stop.to ?_
                refine wpAny_For ?_ (by intro _; rfl)
                k_with "pyIter ref" => refine Stop.mk ?_
                k_steps
                refine Stop.to ?_
                rename IsRange _ _ _ _ _ _ _ _ => rg
                rename Fr s1.heap _ _ _ => F1
                rename News s1.heap _ _ _ => N1
                clear hD
                have N2 : News s1.heap _ _ (_ :: _ :: _ :: _ :: _ :: _ :: _ :: _ :: _ :: _ :: []) := news_pick [2, 0, 1, 4, 5, 6, 7, 8, 9, 10] N1
                try dsimp +zetaDelta only
                as_aux_lemma =>
                  k_with_none
                  clear N1
                  refine hideG fun GG hGG => ?_
                  obtain ⟨cl, Tu, R, e1, e2, hR, N3⟩ := led_names N2
                  refine hGG ?_
                  clear hGG GG
                  subst e1 e2
                  clear N2
                  have hLT : @LT.lt Nat _ Lv Tu := by k_types
                  refine For_rng (TurnJ (s1.heap.objs.size + 1 + 1 + 1) D Lv s1.heap R ls) rfl rg rfl rfl F1 N3 ?_ ?_ ?_
                  · exact ⟨rfl, _, [0], _, _, _, _, rfl, hLT, hoL, .cons _ _ .nil, Nat.le_refl _, rfl, rfl, rfl⟩
                  · intro i t m₁ g₁ led h tk I hi4 hPT off F4 N4
                    refine hideG fun GG hGG => ?_
                    obtain ⟨rfl, T, ts, tvs, kt, oM, vM, rfl, hT, hoM, hit, htl, hts, hm1, hm2⟩ := hPT
                    refine hGG ?_
                    clear hGG GG
                    clear F1 N3
                    subst hR
                    rw [map_tl hm1 hm2] at F4
                    have hIc : s1.heap.objs.size + 1 + 1 + 1 ≠ I := off (_, oM) (.head _)
                    have u1 : @LT.lt Nat _ (s1.heap.objs.size + 1 + 1 + 1) T := Nat.lt_trans (show @LT.lt Nat _ (s1.heap.objs.size + 1 + 1 + 1) Lv by k_types) hT
                    have u2 : @LT.lt Nat _ (s1.heap.objs.size + 1 + 1 + 1 + 1) T := Nat.lt_trans (show @LT.lt Nat _ (s1.heap.objs.size + 1 + 1 + 1 + 1) Lv by k_types) hT
                    have u3 : @LT.lt Nat _ (s1.heap.objs.size + 1 + 1 + 1 + 1 + 1) T := Nat.lt_trans (show @LT.lt Nat _ (s1.heap.objs.size + 1 + 1 + 1 + 1 + 1) Lv by k_types) hT
                    k_with "call ref" => refine Stop.mk ?_
                    k_steps
                    refine Stop.to ?_
                    rename Fr s1.heap _ _ _ => F5
                    rename News s1.heap _ _ _ => N5
                    have N6 : News s1.heap _ _ (_ :: _ :: _ :: _ :: _ :: _ :: _ :: _ :: _ :: _ :: _ :: []) := news_pick [3, 0, 1, 2, 4, 5, 6, 7, 8, 9, 10] N5
                    clear N5
                    refine bl B1 F5 X0 N6 T0 rfl hil (by rw [List.length_map]; exact Nat.lt_of_le_of_lt ‹ls.length ≤ 6› (by decide)) (show _ < recursionLimit by decide) (show _ < cLine by decide) (by rw [List.length_map]; exact cnt_le _ _) (getD_lo hsrt) (getD_hi hsrt) (fun tw h9 tk9 F9 N9 => ?_)
                    clear F5 N6
                    try dsimp only
                    k_steps
                    refine Stop.to ?_
                    rename Fr s1.heap _ _ _ => F5
                    rename News s1.heap _ _ _ => N5
                    rw [show ((i : Nat) : Int) + 1 = ((i + 1 : Nat) : Int) from rfl]
                    refine bl B1 F5 X0 N5 T0 rfl hil (by rw [List.length_map]; exact Nat.lt_of_le_of_lt ‹ls.length ≤ 6› (by decide)) (show _ < recursionLimit by decide) (show _ < cLine by decide) (by rw [List.length_map]; exact cnt_le _ _) (getD_lo hsrt) (getD_hi hsrt) (fun tw h9 tk9 F9 N9 => ?_)
                    clear F5 N5
                    try dsimp only
                    have hstep : (List.range (i + 1)).foldl (turnStep ls) [0] = turnStep ls ts i := by
                      rw [List.range_succ, List.foldl_append, ← hts]
                      rfl
                    have hi4 : i < 4 := hi4
                    have hi0 : 0 ≤ ((i : Nat) : Int) := Int.natCast_nonneg i
                    have hi6 : ((i : Nat) : Int) ≤ 1000000 := Int.ofNat_le.mpr (Nat.le_trans (Nat.le_of_lt hi4) (by decide))
                    have htl16 : ts.length ≤ 16 := by
                      have : 2 ^ i ≤ 2 ^ 4 := Nat.pow_le_pow_right (by decide) (Nat.le_of_lt hi4)
                      exact Nat.le_trans htl this
                    k_with "CompSrc" => refine Stop.mk ?_
                    k_steps
                    · rename ((cnt ls i : Nat) : Int) = ((cnt ls (i + 1) : Nat) : Int) => hci
                      have hcc : cnt ls i = cnt ls (i + 1) := Int.ofNat_inj.mp hci
                      refine Stop.to ?_
                      rename Fr s1.heap _ _ _ => F6
                      rename News s1.heap _ _ _ => N6
                      refine LCg.CompSrc.ledger (ax := T) (its := tvs.toArray) (k := kt) rfl F6 N6 (by repeat (first | exact .head _ | refine .tail _ ?_)) (by rw [sizeLine_eq, List.size_toArray, hit.length, List.length_map]; exact Nat.le_trans htl16 (by decide)) (fun gg => ?_)
                      refine rest_all (S := LCg.SrcAt _ _ _) _ (.inr ⟨_, (by repeat (first | exact .head _ | refine .tail _ ?_)), rfl, _, rfl⟩) (fun j v => ∃ t, v = .int ((ts.getD j 0 + 2 ^ i : Nat) : Int) t) (fun j ys v I2 oI2 C2 oC2 D2 m₂ h5 tk5 E5 hj hPv hoC hm₂ F7 N7 off6 ne6 => ?_) (fun ys hyl hys => ?_)
                      · obtain ⟨tv, rfl, _⟩ := ints_at hit (j := j) (v := v) (by rw [← List.getElem?_toArray]; exact hPv)
                        k_steps
                        have e8 : ((ts.getD j 0 + 2 ^ i : Nat) : Int) = ((ts.getD j 0 : Nat) : Int) + 2 ^ ((i : Nat) : Int).toNat := by
                          rw [Int.natCast_add, Int.natCast_pow, Int.toNat_natCast]
                          rfl
                        refine ⟨_, _, rfl, ?_, F7, N7⟩
                        rw [e8]
                        exact ⟨_, rfl⟩
                      · intro D3 h6 tk6 F7 N7 off6
                        have hyl2 : ys.length = ts.length := by rw [hyl, List.size_toArray, hit.length, List.length_map]
                        have hys2 := intsAre_map (g := fun x => x + 2 ^ i) hyl2 hys
                        k_steps
                        rename Fr s1.heap _ _ _ => F8
                        rename News s1.heap _ _ _ => N8
                        rename IntsAre _ (_ ++ _) => hcat
                        have N9 : News s1.heap _ _ (_ :: _ :: _ :: _ :: _ :: _ :: _ :: _ :: _ :: _ :: _ :: []) := news_pick [3, 4, 0, 2, 6, 7, 8, 9, 10, 11, 12] N8
                        clear N8
                        have hts2 : turnStep ls ts i = ts ++ ts.map (fun x => x + 2 ^ i) := if_pos hcc
                        refine ⟨_, _, _, s1.heap, _, rfl, F8, N9, ?_, rfl, _, turnStep ls ts i, _, _, _, _, rfl, ?_, ‹_›, ?_, turnStep_len htl, hstep.symm, rfl, rfl⟩
                        · intro p hp
                          rcases List.mem_cons.mp hp with rfl | hp
                          · exact hIc
                          · rcases List.mem_cons.mp hp with rfl | hp
                            · first | ((try dsimp only); first | (refine Nat.ne_of_lt ?_; k_types) | (refine Nat.ne_of_gt ?_; k_types) | (refine neN ?_; omega)) | exact Nat.ne_of_gt (show @LT.lt Nat _ _ _ by dsimp only; omega)
                            · exact off p (.tail _ (.tail _ hp))
                        · show @LT.lt Nat _ _ _
                          first | k_types | omega
                        · rw [hts2, List.map_append]
                          exact hcat
                    · rename ((cnt ls i : Nat) : Int) ≠ ((cnt ls (i + 1) : Nat) : Int) => hci
                      have hcc : ¬ cnt ls i = cnt ls (i + 1) := fun e => hci (by rw [e])
                      rename Fr s1.heap _ _ _ => F8
                      rename News s1.heap _ _ _ => N8
                      have N9 : News s1.heap _ _ (_ :: _ :: _ :: _ :: _ :: _ :: _ :: _ :: _ :: _ :: _ :: []) := news_pick [1, 2, 3, 0, 4, 5, 6, 7, 8, 9, 10] N8
                      clear N8
                      have hts2 : turnStep ls ts i = ts := if_neg hcc
                      refine ⟨_, _, _, s1.heap, _, rfl, F8, N9, ?_, rfl, T, ts, _, _, _, _, rfl, hT, ‹_›, hit, ?_, ?_, rfl, rfl⟩
                      · intro p hp
                        rcases List.mem_cons.mp hp with rfl | hp
                        · exact hIc
                        · exact off p (.tail _ hp)
                      · rw [Nat.pow_succ]
                        exact Nat.le_trans htl (Nat.le_mul_of_pos_right _ (by decide))
                      · rw [hstep, hts2]
                  · clear F1 N3
                    intro m₁ g₁ led h tk hJ F3 N3
                    try dsimp +zetaDelta only
                    as_aux_lemma =>
                      k_with_none
                      refine hideG fun GG hGG => ?_
                      obtain ⟨rfl, T, ts, tvs, kt, oM, vM, rfl, hT, hoM, hit, htl, hts, hm1, hm2⟩ := hJ
                      refine hGG ?_
                      clear hGG GG
                      have hts2 : ts = turns ls := hts
                      have htl16 : ts.length ≤ 16 := htl
                      clear hts htl
                      subst hR
                      rw [map_tl hm1 hm2] at F3
                      try dsimp only
                      k_with "binaryOp Div int int" => refine Stop.mk ?_
                      k_with "exec For Name Name cons nil" => refine Stop.mk ?_
                      k_steps
                      refine Stop.to ?_
                      refine hideG fun GG hGG => ?_
                      obtain ⟨sa, hsa0, hsa5, esa⟩ := quarter d5
                      refine hGG ?_
                      clear hGG GG
                      rw [show [d0, d1, d2, d3, d4, d5, d6].getD (Int.toNat 5) 0 = d5 from rfl, esa]
                      refine div_nat (b := 4) rfl (by decide) (Nat.lt_trans hsa5 (by decide)) ?_
                      try dsimp only
                      k_steps
                      refine Stop.to ?_
                      refine hideG fun GG hGG => ?_
                      obtain ⟨va, hva0, hva5, eva⟩ := quarter d6
                      refine hGG ?_
                      clear hGG GG
                      rw [show [d0, d1, d2, d3, d4, d5, d6].getD (Int.toNat 6) 0 = d6 from rfl, eva]
                      refine div_nat (b := 4) rfl (by decide) (Nat.lt_trans hva5 (by decide)) ?_
                      try dsimp only
                      k_steps
                      try dsimp +zetaDelta only
                      as_aux_lemma =>
                        k_with_none
                        refine Stop.to ?_
                        refine wpAny_For ?_ (by intro _; rfl)
                        k_with "pyIter ref" => refine Stop.mk ?_
                        k_steps
                        refine Stop.to ?_
                        rename Fr s1.heap _ _ _ => F1
                        rename News s1.heap _ _ _ => N1
                        rename (_ < _ ∧ _ < _ ∧ _) => lR
                        rename (Obj.data _ = Data.cell (some (Value.float (Mine.fr va 4) _))) => hV
                        rename (Obj.data _ = Data.cell (some (Value.float (Mine.fr sa 4) _))) => hS
                        obtain ⟨tS, htS, hS⟩ := lift_tok hS
                        obtain ⟨tV, htV, hV⟩ := lift_tok hV
                        have N2 : News s1.heap _ _ (_ :: _ :: _ :: _ :: _ :: _ :: _ :: _ :: _ :: _ :: []) := news_pick [0, 2, 3, 4, 6, 7, 8, 1, 9, 10] N1
                        clear N1
                        obtain ⟨Row, e1, N3⟩ := row_names N2
                        subst e1
                        clear N2
                        have hok := law_facts hab hbc hcd hd16
                        rw [← hls2, ← hts2] at hok
                        refine hideG fun GG hGG => ?_
                        obtain ⟨hts16, hnd, hrw, hlen2, hwok, hwf⟩ := hok
                        refine hGG ?_
                        clear hGG GG
                        have hpi : IntsAre [Value.int ((a : Nat) : Int) ta, .int ((b : Nat) : Int) tb, .int ((c : Nat) : Int) tc, .int ((d : Nat) : Int) td] ([a, b, c, d].map Int.ofNat) := .cons _ _ (.cons _ _ (.cons _ _ (.cons _ _ .nil)))
                        have hp16 : ∀ p ∈ [a, b, c, d], p < 16 := by
                          exact all_cons (Nat.lt_trans hab (Nat.lt_trans hbc (Nat.lt_trans hcd hd16))) (all_cons (Nat.lt_trans hbc (Nat.lt_trans hcd hd16)) (all_cons (Nat.lt_trans hcd hd16) (all_cons hd16 all_nil)))
                        have hTR : @LT.lt Nat _ T Row := by k_types
                        obtain ⟨Rf, hRf, N4⟩ := mk_Rf N3
                        clear N3
                        refine For_tk (RowO Row T (Mine.fr sa 4) (Mine.fr va 4) s1.heap Rf ts [a, b, c, d]) rfl rfl rfl F1 N4 (by rw [hRf]; exact .tail _ (.head _)) ?_ ?_ ?_
                        · exact ⟨rfl, [], _, [], rfl, rowInv_nil, rfl, rfl⟩
                        · intro i v m₁ g₁ led h tk I io hv hPT hTl off hio F3 N5
                          refine hideG fun GG hGG => ?_
                          obtain ⟨rfl, rvs, kr, extra, rfl, hri, hm1, hm2⟩ := hPT
                          refine hGG ?_
                          clear hGG GG
                          clear F1 N4
                          obtain ⟨t, rfl, hiL⟩ := ints_at hit hv
                          obtain ⟨tn, etn⟩ : ∃ tn : Nat, tn = ts.getD i 0 := ⟨_, rfl⟩
                          rw [← etn] at F3
                          have htn : ts[i]? = some tn := by
                            rw [etn, List.getD_eq_getElem?_getD, List.getElem?_eq_getElem hiL]
                            rfl
                          have ht16 : tn < 16 := hts16 tn (List.mem_of_getElem? htn)
                          subst hRf
                          dsimp only at off N5
                          rw [upd2 hm1 hm2] at F3
                          k_with "pyIter ref" => refine Stop.mk ?_
                          k_with "exec For Name Name cons nil" => refine Stop.mk ?_
                          k_steps
                          refine Stop.to ?_
                          refine wpAny_For ?_ (by intro _; rfl)
                          k_steps
                          refine Stop.to ?_
                          try dsimp +zetaDelta only
                          as_aux_lemma =>
                            k_with_none
                            rename Fr s1.heap _ _ _ => F4
                            rename News s1.heap _ _ _ => N6
                            obtain ⟨Rf, hRf, N7⟩ := mk_Rf2 N6
                            clear N6
                            have hxI0 : ∀ p ∈ extra, p.1 ≠ I := fun p hp => off p (.tail _ (.tail _ (.tail _ (.tail _ (.tail _ (.tail _ (.tail _ (.tail _ (.tail _ (.tail _ hp))))))))))
                            have hIR : Row ≠ I := off (Row, _) (.head _)
                            have hoff : ∀ (o : Obj) (e' : List (Addr × Obj)), (∀ p ∈ e', p.1 ≠ I) → ∀ p ∈ (Row, o) :: _ :: _ :: _ :: _ :: _ :: _ :: _ :: _ :: _ :: e', p.1 ≠ I := off_swap off
                            clear off
                            refine For_tk (RowI Row T I (Mine.fr sa 4) (Mine.fr va 4) s1.heap Rf ts [a, b, c, d] i tn t) rfl rfl rfl F4 N7 (by rw [hRf]; exact .tail _ (.tail _ (.tail _ (.tail _ (.head _))))) ?_ ?_ ?_
                            · refine ⟨rfl, rvs, kr, extra, rfl, ?_, hxI0, rfl, rfl, rfl⟩
                              have := hri.mono (Nat.le_succ tk)
                              rw [show [a, b, c, d].take 0 = [] from rfl, List.map_nil, List.append_nil]
                              exact this
                            · clear hri hxI0 F4 N7 hTl
                              clear kr
                              clear rvs
                              clear extra
                              intro j v m₁ g₁ led h tk2 I2 io2 hv2 hPT hPl off2 hio2 F5 N8
                              refine hideG fun GG hGG => ?_
                              obtain ⟨rfl, rvs, kr, extra, rfl, hri, hxI, hm1, hm2, hm3⟩ := hPT
                              refine hGG ?_
                              clear hGG GG
                              obtain ⟨tp, rfl, hjL⟩ := ints_at hpi hv2
                              obtain ⟨pn, epn⟩ : ∃ pn : Nat, pn = [a, b, c, d].getD j 0 := ⟨_, rfl⟩
                              rw [← epn] at F5
                              have hpn : [a, b, c, d][j]? = some pn := by
                                rw [epn, List.getD_eq_getElem?_getD, List.getElem?_eq_getElem hjL]
                                rfl
                              have hpn16 : pn < 16 := hp16 pn (List.mem_of_getElem? hpn)
                              subst hRf
                              dsimp only at off2 N8
                              rw [upd3 hm1 hm2 hm3] at F5
                              have hnew := res_new hnd htn hpn
                              obtain ⟨l, hl⟩ : ∃ l, l = covered (ts.take i) [a, b, c, d] ++ ([a, b, c, d].take j).map (fun p => (p + tn) % 16) := ⟨_, rfl⟩
                              rw [← hl] at hri hnew
                              have hsort : (l.foldl insN []).Pairwise (· < ·) := fold_sorted l [] ((List.nodup_append.mp hnew).1) .nil
                              have hrn : (pn + tn) % 16 ∉ l.foldl insN [] := by
                                rw [mem_fold]
                                rintro (h | h)
                                · exact (List.nodup_append.mp hnew).2.2 _ h _ (.head _) rfl
                                · exact absurd h List.not_mem_nil
                              have hl16 : ∀ x ∈ l.foldl insN [], x < 16 := by
                                intro x hx
                                rw [mem_fold, hl] at hx
                                rcases hx with hx | hx
                                · rcases List.mem_append.mp hx with hx | hx
                                  · unfold covered at hx
                                    obtain ⟨y, _, rfl⟩ := List.mem_map.mp hx
                                    exact Nat.mod_lt _ (by decide)
                                  · obtain ⟨y, _, rfl⟩ := List.mem_map.mp hx
                                    exact Nat.mod_lt _ (by decide)
                                · exact absurd hx List.not_mem_nil
                              have hpt31 : pn + tn < 31 := Nat.lt_succ_of_le (Nat.add_le_add (Nat.le_of_lt_succ ‹pn < 16›) (Nat.le_of_lt_succ ‹tn < 16›))
                              obtain ⟨hs0, hfi, hti, hrest⟩ := hue_un (k := pn + tn) hsa0 hsa5 hva0 hva5 hpt31
                              k_with "binaryOp Div int int" => refine Stop.mk ?_
                              k_with "call ref" => refine Stop.mk ?_
                              k_with "execs cons" => (first | (refine gen_toks (tk2 + 1) (show tk2 + 1 ≤ _ + _ by (try dsimp only); first | exact Nat.le_refl _ | ((repeat (first | assumption | refine Nat.le_succ_of_le ?_)); done) | omega) ?_; intro tk htk) | (refine gen_toksP (tk2 + 1) (by first | exact Nat.le_refl _ | assumption | (dsimp only; omega)) ?_; intro tk htk))
                              k_steps
                              refine Stop.to ?_
                              rw [show ((pn : Nat) : Int) + ((tn : Nat) : Int) = ((pn + tn : Nat) : Int) from rfl]
                              refine div_nat (b := 16) rfl (by decide) (Nat.lt_trans hpt31 (by decide)) ?_
                              try dsimp only
                              k_steps
                              refine Stop.to ?_
                              try dsimp +zetaDelta only
                              as_aux_lemma =>
                                k_with_none
                                rename Fr s1.heap _ _ _ => F6
                                rename News s1.heap _ _ _ => N9
                                have htk0 : tk2 + 1 ≤ tk := ‹_›
                                refine toks_up (tk2 + 1) (by dsimp only; repeat (first | exact htk0 | refine Nat.le_succ_of_le ?_)) (hsv htV B1 F6 X0 N9 T0 rfl (show _ < recursionLimit by decide) (show _ < cLine by decide) hs0 hfi hti (fun Dh ua ub uc h7 tk7 hua hub huc F7 N10 lH htk7 => ?_))
                                clear F6 N9
                                have hlH : ∀ p ∈ extra, p.1 < Dh := fun p hp => lH p (by repeat (first | exact hp | refine .tail _ ?_))
                                try k_lt lH
                                obtain ⟨r, g, bb, hrgb⟩ : ∃ r g bb, hsvF (Mine.fr (pn + tn) 16) (Mine.fr sa 4) (Mine.fr va 4) = (r, g, bb) := ⟨_, _, _, rfl⟩
                                rw [hrgb] at N10
                                refine hideG fun GG hGG => ?_
                                obtain ⟨z1, z2, z3, z4, z5, z6⟩ := hrest r g bb hrgb
                                refine hGG ?_
                                clear hGG GG
                                dsimp only at N10 htk7 ⊢
                                k_with "call ref" => refine Stop.mk ?_
                                k_with "execs cons" => (first | (refine gen_toks (tk2 + 1) (show tk2 + 1 ≤ _ + _ by (try dsimp only); first | exact Nat.le_refl _ | ((repeat (first | assumption | refine Nat.le_succ_of_le ?_)); done) | omega) ?_; intro tk htk) | (refine gen_toksP (tk2 + 1) (by first | exact Nat.le_refl _ | assumption | (dsimp only; omega)) ?_; intro tk htk))
                                k_steps
                                refine Stop.to ?_
                                rename Fr s1.heap _ _ _ => F8
                                rename News s1.heap _ _ _ => N11
                                rename (tk2 + 1 ≤ _) => htk8
                                refine rgb (by dsimp only; first | exact Nat.succ_pos _ | exact Nat.lt_of_lt_of_le (Nat.succ_pos _) htk8 | omega) hua hub huc B1 F8 X0 N11 T0 rfl (show _ < recursionLimit by decide) (show _ < cLine by decide) z1 z2 z3 (fun Dr ra rb rc h9 tk9 hra hrb hrc hlo hhi F9 N12 lD => ?_)
                                clear F8 N11
                                rw [z4, z5, z6] at N12
                                have hlo2 : tk2 + 1 ≤ ra := by
                                  refine Nat.le_trans ?_ hlo
                                  try dsimp only
                                  first | ((repeat (first | assumption | refine Nat.le_succ_of_le ?_)); done) | omega
                                have hRD : @LT.lt Nat _ Row Dr := lD _ (.tail _ (.tail _ (.head _)))
                                have hxD : ∀ p ∈ extra, @LT.lt Nat _ p.1 Dr := fun p hp => lD p (by repeat (first | exact hp | refine .tail _ ?_))
                                have hI2D : @LT.lt Nat _ I2 Dr := lD _ (.tail _ (.head _))
                                have hID : @LT.lt Nat _ I Dr := lD _ (.tail _ (.tail _ (.tail _ (.head _))))
                                try k_lt lD
                                try dsimp only
                                have hx : HueIn ((Dr, tup [.float (Mine.fr ((pn + tn) % 16) 16) ra, .float (Mine.fr sa 4) rb, .float (Mine.fr va 4) rc]) :: extra) (.ref Dr) (Mine.fr ((pn + tn) % 16) 16) (Mine.fr sa 4) (Mine.fr va 4) (tk2 + 1) tk9 :=
                                  ⟨_, _, _, _, rfl, .head _, hra, hrb, hrc, hlo2, hhi⟩
                                k_steps
                                refine Stop.to ?_
                                rename Fr s1.heap _ _ _ => F10
                                rename News s1.heap _ _ _ => N13
                                have N14 : News s1.heap _ _ (_ :: _ :: _ :: _ :: _ :: _ :: _ :: _ :: _ :: _ :: _ :: _ :: _ :: extra) := news_pick2 [3, 2, 4, 5, 6, 7, 8, 9, 10, 11, 12, 13, 0] 14 N13
                                clear N13
                                have hlr : rvs.length < 1000 ∧ cnt (l.foldl insN []) ((pn + tn) % 16) ≤ rvs.length := by
                                  have h1 := hri.1
                                  have h2 := sorted_le hsort hl16
                                  have h3 := cnt_le (l.foldl insN []) ((pn + tn) % 16)
                                  rw [h1]
                                  exact ⟨Nat.lt_of_le_of_lt h2 (by decide), h3⟩
                                refine toks_up tk9 (Nat.le_refl _) (ins B1 F10 X0 N14 T0 rfl ?hD hlr.1 (show _ < recursionLimit by decide) (show _ < cLine by decide) (k := cnt (l.foldl insN []) ((pn + tn) % 16)) hlr.2 ?hc (fun h11 tk11 F11 N15 htk11 => ?_))
                                case hD =>
                                  refine off_cons (Ne.symm (off2 _ (.head _))) (off_cons (Ne.symm hIR) ?_)
                                  iterate 10 (refine off_cons ?_ ?_; · first | ((try dsimp only); first | (refine Nat.ne_of_lt ?_; k_types) | (refine Nat.ne_of_gt ?_; k_types) | (refine neN ?_; omega)) | exact Nat.ne_of_lt (show @LT.lt Nat _ _ _ by dsimp only; omega) | exact Nat.ne_of_gt (show @LT.lt Nat _ _ _ by dsimp only; omega))
                                  exact fun p hp => Nat.ne_of_gt (hri.2.2 p hp)
                                case hc =>
                                  exact cmpLt_hues (hx.mono (fun p hp => by repeat (first | exact hp | refine .tail _ ?_)) (Nat.le_refl _)) (hs := (l.foldl insN []).map (fun k => Mine.fr k 16)) (by rw [List.length_map]; exact hri.1)
                                    (fun j v c h1 h2 => (hri.2.1 j v c h1 h2).mono (fun p hp => by repeat (first | exact hp | refine .tail _ ?_)) (Nat.le_succ _)) (fr_before hsort hl16 (Nat.mod_lt _ (by decide)) hrn)
                                clear F10 N14
                                dsimp only at htk11 ⊢
                                refine wpAny_execs_nil ?_
                                have e2 : covered (ts.take i) [a, b, c, d] ++ ([a, b, c, d].take (j + 1)).map (fun p => (p + tn) % 16) = l ++ [(pn + tn) % 16] := by
                                  rw [List.take_add_one, hpn, hl, List.map_append, List.append_assoc]
                                  rfl
                                refine ⟨_, _, _, s1.heap, _, rfl, F11, news_swap N15, .tail _ (.tail _ (.tail _ (.tail _ (.head _)))), ?_, rfl, _, _, _ :: extra, rfl, ?_, ?_, rfl, rfl, rfl⟩
                                · refine off_cons (by have h := off2 _ (.head _); exact h) ?_
                                  replace off2 := off_tl off2
                                  iterate 10 (refine off_cons (off_hd off2) ?_; replace off2 := off_tl off2)
                                  exact off_cons (Nat.ne_of_gt hI2D) off2
                                · rw [e2]
                                  refine hri.step (Nat.le_trans (Nat.le_of_succ_le hlo2) (Nat.le_trans (Nat.le_of_lt hhi) htk11)) (fun p hp => .tail _ hp) (hue_low (hx.mono (fun p hp => hp) htk11) (Nat.succ_le_succ (Nat.zero_le _))) (fun p hp => ?_)
                                  rcases List.mem_cons.mp hp with rfl | hp
                                  · exact hRD
                                  · exact hri.2.2 p hp
                                · intro p hp
                                  rcases List.mem_cons.mp hp with rfl | hp
                                  · exact Nat.ne_of_gt hID
                                  · exact hxI p hp
                            · clear F4 N7 hri hxI0
                              intro m₁ g₁ led h tk hJ hD F3 N3
                              try dsimp +zetaDelta only
                              as_aux_lemma =>
                                k_with_none
                                refine hideG fun GG hGG => ?_
                                obtain ⟨rfl, rvs, kr, extra, rfl, hri, hxI, hm1, hm2, hm3⟩ := hJ
                                refine hGG ?_
                                clear hGG GG
                                subst hRf
                                dsimp only at N3
                                k_steps
                                rename Fr s1.heap _ _ _ => F4
                                rename News s1.heap _ _ _ => N4
                                refine ⟨_, _, _, s1.heap, _, rfl, F4, news_swap N4, .tail _ (.head _), hoff _ _ hxI, rfl, rvs, kr, extra, rfl, ?_, hm2, hm3⟩
                                rw [covered_succ htn]
                                exact hri
                        · clear F1 N4
                          intro m₁ g₁ led h tk hJ hD F3 N3
                          try dsimp +zetaDelta only
                          as_aux_lemma =>
                            k_with_none
                            refine hideG fun GG hGG => ?_
                            obtain ⟨rfl, rvs, kr, extra, rfl, hri, hm1, hm2⟩ := hJ
                            refine hGG ?_
                            clear hGG GG
                            subst hRf
                            dsimp only at N3 ⊢
                            have htv : tvs.length = ts.length := by rw [hit.length, List.length_map]
                            rw [htv, List.take_length] at hri
                            clear hD
                            rw [map_tl hm1 hm2] at F3
                            k_steps
                            rename Fr s1.heap _ _ _ => F4
                            rename News s1.heap _ _ _ => N4
                            refine ListComp_2 (T := T) (P := Pa) (nt := kt) (np := kp) (tv := tvs) (ts := ts) (ps := [a, b, c, d]) (g := fun t p => (p + t) % 16) rfl F4 N4 ?hT ?hP hit hpi ?hsz (by with_unfolding_all rfl) (by decide) (by rfl) (by decide) (by rfl) (by rfl) (by decide) ?he0 ?he1 ?step ?fin
                            case hT => repeat (first | exact .head _ | refine .tail _ ?_)
                            case hP => repeat (first | exact .head _ | refine .tail _ ?_)
                            case hsz =>
                              rw [sizeLine_eq]
                              have : [a, b, c, d].length = 4 := rfl
                              rw [this]
                              exact Nat.le_trans (Nat.mul_le_mul_right 4 (Nat.succ_le_succ (by assumption : ts.length ≤ 16))) (by decide)
                            case he0 =>
                              intro Q' E' hQ
                              k_steps
                              exact hQ
                            case he1 =>
                              intro C oC mc h tk Q' E' hoC F6 N6 hQ
                              k_steps
                              exact hQ
                            case step =>
                              intro C h tk mc' x tx y ty oC Q' E' hx hy hoC hm0 hm1 F6 N6 hQ
                              k_steps
                              rw [show ((y : Nat) : Int) + ((x : Nat) : Int) = ((y + x : Nat) : Int) from rfl, show (((y + x : Nat) : Int)).fmod 16 = (((y + x) % 16 : Nat) : Int) from by rw [Int.fmod_eq_emod_of_nonneg _ (by decide)]; rfl]
                              exact hQ _ _
                            case fin =>
                              intro Dc h9 tk9 ys hys F6 N6 hlt
                              rw [covered_flat] at hys
                              clear F4 N4
                              try dsimp only
                              have hRDc : @LT.lt Nat _ Row Dc := hlt _ (.head _)
                              have u4 : @LT.lt Nat _ (s1.heap.objs.size + 1 + 1 + 1 + 1 + 1 + 1) Row := by first | k_types | omega
                              have u5 : @LT.lt Nat _ (s1.heap.objs.size + 1 + 1 + 1 + 1 + 1 + 1) Dc := Nat.lt_trans u4 hRDc
                              have hxc : ∀ p ∈ extra, p.1 ≠ s1.heap.objs.size + 1 + 1 + 1 + 1 + 1 + 1 := fun p hp => Nat.ne_of_gt (Nat.lt_trans u4 (hri.2.2 p hp))
                              have N7 : News s1.heap _ _ (_ :: _ :: _ :: _ :: _ :: _ :: _ :: _ :: _ :: _ :: extra) := news_pick2 [5, 0, 1, 3, 4, 6, 7, 8, 9, 10] 11 N6
                              clear N6
                              refine storeX_C F6 N7 ?c (UpdF.head ?u) (by assumption) (fun h10 oV F7 N8 hoV => ?_)
                              case c => rfl
                              case u =>
                                iterate 9 (refine off_cons ?_ ?_; · first | ((try dsimp only); first | (refine Nat.ne_of_lt ?_; k_types) | (refine Nat.ne_of_gt ?_; k_types) | (refine neN ?_; omega)) | exact Nat.ne_of_lt (show @LT.lt Nat _ _ _ by dsimp only; omega) | exact Nat.ne_of_gt (show @LT.lt Nat _ _ _ by dsimp only; omega))
                                exact hxc
                              clear F6 N7
                              try k_lt hlt
                              try dsimp +zetaDelta only
                              as_aux_lemma =>
                                k_with_none
                                k_with "eval ListComp Tuple cons" => refine Stop.mk ?_
                                k_with "CompSrcT" => refine Stop.mk ?_
                                k_steps
                                refine Stop.to ?_
                                rename Fr s1.heap _ _ _ => F9
                                rename News s1.heap _ _ _ => N9
                                refine PyProof.Rows.LCt.ListComp_T F9 (by with_unfolding_all rfl) (by decide) (by rfl) (by decide) (by rfl) ?_
                                k_steps
                                refine Stop.to ?_
                                rename Fr s1.heap _ _ _ => F9
                                rename News s1.heap _ _ _ => N9
                                rename IsRange _ _ _ _ _ _ _ _ => rg
                                obtain ⟨B, hB, N10⟩ := mk_B N9
                                clear N9
                                refine PyProof.Rows.LCt.CompSrcT.range rfl F9 N10 rg (small_one (by decide) (by decide) (by decide) (by decide)) (n := 16) (rangeSize_nat _ _) (by decide) (fun gg => ?_)
                                clear rg
                                refine restT B (WantG (Mine.fr sa 4) (Mine.fr va 4) (covered ts [a, b, c, d]) extra) (fun i zs e v I oI C oC DD m₂ h tk E' hi hG hP hoC hm₂ F10 N11 off ne => ?_) (fun zs e hG => ?_) extra ?_
                                · refine hideG fun GG hGG => ?_
                                  obtain ⟨n, g1, g2, g3⟩ := hG
                                  refine hGG ?_
                                  clear hGG GG
                                  obtain ⟨ti, rfl⟩ := hP
                                  rw [Int.zero_add] at hm₂
                                  subst hB
                                  dsimp only at N11 off
                                  k_with "binaryOp Div int int" => refine Stop.mk ?_
                                  k_steps
                                  · rename List.any _ _ = true => hin
                                    rw [any_nat] at hin
                                    refine Stop.to ?_
                                    refine div_nat (b := 16) rfl (by decide) (Nat.lt_trans ‹i < 16› (by decide)) ?_
                                    try dsimp only
                                    k_steps
                                    rename Fr s1.heap _ _ _ => F12
                                    rename News s1.heap _ _ _ => N12
                                    have N13 : News s1.heap _ _ (_ :: _ :: _ :: _ :: _ :: _ :: _ :: _ :: _ :: _ :: _ :: _ :: _ :: _ :: e) := news_pick2 [1, 2, 3, 4, 5, 6, 7, 8, 9, 10, 11, 12, 13, 0] 14 N12
                                    clear N12
                                    refine ⟨_, _, _ :: e, rfl, F12, N13, off_insert off ⟨?_, ?_, ?_⟩, WantG.step ⟨n, g1, g2, g3⟩ hin (Nat.succ_ne_zero _) htS htV⟩
                                    all_goals first | ((try dsimp only); first | (refine Nat.ne_of_lt ?_; k_types) | (refine Nat.ne_of_gt ?_; k_types) | (refine neN ?_; omega)) | exact Nat.ne_of_gt (show @LT.lt Nat _ _ _ by dsimp only; omega)
                                  · rename List.any _ _ = false => hin
                                    rw [any_nat] at hin
                                    refine ⟨_, _, e, rfl, F10, N11, off, n, ?_⟩
                                    rw [List.range_succ, List.filter_append, show [i].filter (fun x => (covered ts [a, b, c, d]).contains x) = [] from by rw [List.filter_cons, hin]; rfl, List.append_nil]
                                    exact ⟨g1, g2, g3⟩
                                · refine hideG fun GG hGG => ?_
                                  obtain ⟨n, g1, g2, g3⟩ := hG
                                  refine hGG ?_
                                  clear hGG GG
                                  intro DD h9 tk9 F11 N11 off1
                                  subst hB
                                  dsimp only at N11 off1 ⊢
                                  k_with "compareOp NotEq ref ref" => refine Stop.mk ?_
                                  k_steps
                                  refine Stop.to ?_
                                  rename Fr s1.heap _ _ _ => F12
                                  rename News s1.heap _ _ _ => N12
                                  have hrow : rowN ts [a, b, c, d] = (List.range 16).filter (fun x => (covered ts [a, b, c, d]).contains x) := hrw
                                  have hR16 : ∀ x ∈ rowN ts [a, b, c, d], x < 16 := by
                                    intro x hx
                                    rw [hrow] at hx
                                    exact List.mem_range.mp (List.mem_filter.mp hx).1
                                  refine rows_ne (hs := (rowN ts [a, b, c, d]).map (fun k => Mine.fr k 16)) (booked (X0.keeps F12.keep)) (by is_list) (by is_list) (by rw [List.length_map]; exact hri.1) (by rw [List.length_map, hrow]; exact g1)
                                    (fun j v c h1 h2 => ((hri.2.1 j v c h1 h2).mono (news' := _) (fun p hp => ?_) (Nat.le_refl _)).at N12) (fun j v c h1 h2 => ((g2 j v c h1 (by rw [← hrow]; exact h2)).mono (news' := _) (fun p hp => ?_) (Nat.le_refl _)).at N12)
                                    (show callerA.units + 3 + 8 < cLine by decide) (fun x hx => ?_) (fr4_self sa hsa5) (fr4_self va hva5) ?_
                                  · have := g3 p hp
                                    repeat (first | exact this | refine .tail _ ?_)
                                  · repeat (first | exact hp | refine .tail _ ?_)
                                  · obtain ⟨k, hk, rfl⟩ := List.mem_map.mp hx
                                    exact fr_self k (hR16 k hk)
                                  have hrl : rvs.length = (rowN ts [a, b, c, d]).length := hri.1
                                  have hll : lvs.length = ls.length := by rw [hil.length, List.length_map]
                                  have hR16' : rvs.length ≤ 16 := by
                                    rw [hrl, hrow]
                                    exact Nat.le_trans (List.length_filter_le _ _) (by rw [List.length_range]; exact Nat.le_refl _)
                                  have N14 : News s1.heap _ _ (_ :: _ :: _ :: _ :: _ :: _ :: _ :: _ :: []) := news_pick [3, 4, 5, 6, 7, 8, 9, 10] N12
                                  clear N12 N10 F9
                                  try dsimp +zetaDelta only
                                  as_aux_lemma =>
                                    k_with_none
                                    k_with "call builtin:len" => refine Stop.mk ?_
                                    k_with "CompSrc" => refine Stop.mk ?_
                                    k_steps
                                    refine Stop.to ?_
                                    have hL4 : ls.length ≤ 6 := hln
                                    refine len_list (by is_list) (by rw [List.size_toArray]; exact Int.lt_of_le_of_lt (Int.ofNat_le.mpr hR16') (by decide)) ?_
                                    rw [show rvs.toArray.size = rvs.length from List.size_toArray]
                                    k_steps
                                    refine Stop.to ?_
                                    refine len_list (by is_list) (by rw [List.size_toArray, hll]; exact Int.lt_of_le_of_lt (Int.ofNat_le.mpr hL4) (by decide)) ?_
                                    rw [show lvs.toArray.size = lvs.length from List.size_toArray]
                                    k_steps
                                    refine Stop.to ?_
                                    refine len_list (by is_list) (by rw [List.size_toArray]; exact Int.lt_of_le_of_lt (Int.ofNat_le.mpr hR16') (by decide)) ?_
                                    rw [show rvs.toArray.size = rvs.length from List.size_toArray]
                                    k_steps
                                    · rename ((rvs.length : Nat) : Int) = 16 => h16
                                      have h16' : (rowN ts [a, b, c, d]).length = 16 := hrl.symm.trans (Int.ofNat_inj.mp h16)
                                      have hl2 : ls.length = 2 := hlen2.mp h16'
                                      refine Stop.to ?_
                                      rename Fr s1.heap _ _ _ => F3
                                      rename News s1.heap _ _ _ => N3
                                      refine LCg.CompSrc.ledger (ax := Lv) (its := lvs.toArray) (k := kl) rfl F3 N3 (by repeat (first | exact .head _ | refine .tail _ ?_)) (by rw [sizeLine_eq, List.size_toArray, hll]; exact Nat.le_trans hL4 (by decide)) (fun gg => ?_)
                                      refine rest_all (S := LCg.SrcAt _ _ _) _ (.inr ⟨_, (by repeat (first | exact .head _ | refine .tail _ ?_)), rfl, _, rfl⟩) (fun j v => ∃ t, v = .int ((2 ^ (ls.getD j 0 - cnt ls (ls.getD j 0)) : Nat) : Int) t) (fun j ys v I2 oI2 C2 oC2 D2 m₂ h5 tk5 E5 hj hPv hoC hm₂ F7 N7 off6 ne6 => ?_) (fun ys hyl hys => ?_)
                                      · obtain ⟨tv, rfl, hjl⟩ := ints_at hil (j := j) (v := v) (by rw [← List.getElem?_toArray]; exact hPv)
                                        obtain ⟨x, hx⟩ : ∃ x, x = ls.getD j 0 := ⟨_, rfl⟩
                                        rw [← hx] at hm₂ ⊢
                                        have hx4 : x < 4 := hl4 x (by
                                          rw [hx, List.getD_eq_getElem?_getD, List.getElem?_eq_getElem hjl]
                                          exact List.getElem_mem hjl)
                                        have hcs : cnt ls x ≤ x := cnt_self hsrt
                                        k_with "call ref" => refine Stop.mk ?_
                                        k_steps
                                        refine Stop.to ?_
                                        rename News s1.heap _ _ _ => N7
                                        have N8 : News s1.heap _ _ (_ :: _ :: _ :: _ :: _ :: _ :: _ :: _ :: _ :: _ :: _ :: []) := news_pick [4, 0, 1, 2, 3, 5, 6, 7, 8, 9, 10] N7
                                        refine bl B1 F7 X0 N8 T0 rfl hil (by rw [List.length_map, hl2]; decide) (show _ < recursionLimit by decide) (show _ < cLine by decide) (by rw [List.length_map]; exact cnt_le _ _) (getD_lo hsrt) (getD_hi hsrt) (fun tw h9 tk9 F9 N9 => ?_)
                                        clear F7 N7 N8
                                        try dsimp only
                                        have hq0 : 0 ≤ ((x : Nat) : Int) - ((cnt ls x : Nat) : Int) := Int.sub_nonneg_of_le (Int.ofNat_le.mpr hcs)
                                        have hq4 : ((x : Nat) : Int) - ((cnt ls x : Nat) : Int) ≤ 1000000 := Int.le_trans (Int.sub_le_self _ (Int.natCast_nonneg _)) (Int.ofNat_le.mpr (Nat.le_trans (Nat.le_of_lt hx4) (by decide)))
                                        k_steps
                                        have e8 : ((2 ^ (x - cnt ls x) : Nat) : Int) = 2 ^ (((x : Nat) : Int) - ((cnt ls x : Nat) : Int)).toNat := by
                                          rw [show (((x : Nat) : Int) - ((cnt ls x : Nat) : Int)).toNat = x - cnt ls x from Int.toNat_sub _ _, Int.natCast_pow]
                                          rfl
                                        refine ⟨_, _, rfl, ?_, F9, news_pick [1, 2, 3, 4, 0, 5, 6, 7, 8, 9, 10] N9⟩
                                        · rw [e8]
                                          exact ⟨_, rfl⟩
                                      · intro D3 h6 tk6 F7 N7 off6
                                        have hyl2 : ys.length = ls.length := by rw [hyl, List.size_toArray, hll]
                                        have hys2 := intsAre_map (g := fun x => 2 ^ (x - cnt ls x)) hyl2 hys
                                        obtain ⟨p, q, hpq⟩ : ∃ p q, ls = [p, q] := two_of hl2
                                        obtain ⟨P1, hP1⟩ : ∃ P1, P1 = 2 ^ (p - cnt ls p) := ⟨_, rfl⟩
                                        obtain ⟨Q1, hQ1⟩ : ∃ Q1, Q1 = 2 ^ (q - cnt ls q) := ⟨_, rfl⟩
                                        have hmap : ls.map (fun x => 2 ^ (x - cnt ls x)) = [P1, Q1] := by
                                          have : ∀ l, l = [p, q] → l.map (fun x => 2 ^ (x - cnt ls x)) = [P1, Q1] := by
                                            intro l e
                                            rw [e, hP1, hQ1]
                                            rfl
                                          exact this ls hpq
                                        have hp4 : p < 4 := hl4 p (by rw [hpq]; exact .head _)
                                        have hq4 : q < 4 := hl4 q (by rw [hpq]; exact .tail _ (.head _))
                                        have hPb : P1 ≤ 8 := by rw [hP1]; exact Nat.le_trans (Nat.pow_le_pow_right (by decide) (Nat.le_trans (Nat.sub_le _ _) (Nat.le_of_lt_succ hp4))) (by decide)
                                        have hQb : Q1 ≤ 8 := by rw [hQ1]; exact Nat.le_trans (Nat.pow_le_pow_right (by decide) (Nat.le_trans (Nat.sub_le _ _) (Nat.le_of_lt_succ hq4))) (by decide)
                                        have hdue : dueN ls = 2 ^ (0 + P1 + Q1) / 4 := by
                                          unfold dueN
                                          rw [hmap]
                                          rfl
                                        rw [hmap] at hys2
                                        obtain ⟨tp, tq, rfl⟩ := ints2 hys2
                                        clear hys2 hys
                                        have hS0 : 0 ≤ ((P1 : Nat) : Int) + (((Q1 : Nat) : Int) + 0) := Int.add_nonneg (Int.natCast_nonneg _) (Int.add_nonneg (Int.natCast_nonneg _) (Int.le_refl _))
                                        have hS1 : ((P1 : Nat) : Int) + (((Q1 : Nat) : Int) + 0) ≤ 1000000 := Int.le_trans (Int.add_le_add (Int.ofNat_le.mpr hPb) (Int.add_le_add (Int.ofNat_le.mpr hQb) (Int.le_refl 0))) (by decide)
                                        k_steps
                                        rename Fr s1.heap _ _ _ => F8
                                        rename News s1.heap _ _ _ => N8
                                        have N9 : News s1.heap _ _ (_ :: _ :: []) := news_pick [3, 8] N8
                                        clear N8
                                        obtain ⟨dv, hdv⟩ : ∃ dv : Nat, dv = if (rowN ts [a, b, c, d]).length = 16 then dueN ls else 0 := ⟨_, rfl⟩
                                        have hdv2 : dv = 2 ^ (0 + P1 + Q1) / 4 := by rw [hdv, if_pos h16', hdue]
                                        have eX : (2 ^ (((P1 : Nat) : Int) + (((Q1 : Nat) : Int) + 0)).toNat : Int).fdiv 4 = ((dv : Nat) : Int) := by
                                          rw [hdv2, show (((P1 : Nat) : Int) + (((Q1 : Nat) : Int) + 0)).toNat = 0 + P1 + Q1 by rw [Int.add_zero, ← Int.natCast_add, Int.toNat_natCast, Nat.zero_add], Int.fdiv_eq_ediv_of_nonneg _ (by decide), Int.natCast_ediv, Int.natCast_pow]
                                          rfl
                                        rw [eX] at F8
                                        rw [← hdv] at hwf
                                        clear hdv2 eX hdue hS0 hS1 hPb hQb hmap hP1 hQ1
                                        try dsimp +zetaDelta only
                                        as_aux_lemma =>
                                          k_with_none
                                          rename Fr s1.heap _ _ _ => F8'
                                          obtain ⟨td, md, F8⟩ := fr_due F8'
                                          clear F8'
                                          refine Assign_CR (n := 16) (g := maskN [a, b, c, d]) F8 rfl (by with_unfolding_all rfl) (by with_unfolding_all rfl) rfl (by rfl) (by rfl) (by rfl) (by rfl) (by decide) (by intro C K; with_unfolding_all rfl) (by rfl) (by rfl) ?_
                                          k_steps
                                          rename Fr s1.heap _ _ _ => F8
                                          rename News s1.heap _ _ _ => N9
                                          rename IsRange _ _ _ _ _ _ _ _ => rg
                                          have r1 : Builtin.Range.small 0 ((16 : Nat) : Int) 1 = true := rfl
                                          have r2 : Builtin.Range.rangeSize 0 ((16 : Nat) : Int) 1 = ((16 : Nat) : Int) := rfl
                                          have r3 : 16 ≤ sizeLine := by rw [sizeLine_eq]; decide
                                          refine ⟨_, _, _, _, _, rfl, F8, N9, rg, r1, r2, r3, ?_, ?_⟩
                                          · clear F8 N9 rg
                                            intro i C K I D oC oK oI ys h tk t E' hi hoK F10 N10 p1 p2 p3 p4
                                            try k_lt p1
                                            k_with "eval ListComp BinOp cons" => refine Stop.mk ?_
                                            k_with "CompSrc" => refine Stop.mk ?_
                                            k_steps
                                            refine Stop.to ?_
                                            refine LCg.ListComp_U F10 (by with_unfolding_all rfl) (by decide) (by rfl) (by decide) (by rfl) ?_
                                            k_steps
                                            refine Stop.to ?_
                                            rename Fr s1.heap _ _ _ => F11
                                            rename News s1.heap _ _ _ => N11
                                            refine LCg.CompSrc.ledger rfl F11 N11 (.tail _ (.tail _ (.tail _ (.tail _ (.head _))))) (by rw [sizeLine_eq]; exact (by decide : 4 ≤ 16777216)) (fun gg => ?_)
                                            refine rest_all (S := LCg.SrcAt _ _ _) _ (.inr ⟨_, .tail _ (.tail _ (.tail _ (.tail _ (.head _)))), rfl, _, rfl⟩) (fun j v => ∃ t, v = .int ((2 ^ (([a, b, c, d].getD j 0 + i) % 16) : Nat) : Int) t) (fun j ys v I2 oI2 C2 oC2 D2 m₂ h5 tk5 E5 hj hPv hoC hm₂ F7 N7 off6 ne6 => ?_) (fun ys hyl hys => ?_)
                                            · obtain ⟨tv, rfl, hjl⟩ := ints_at hpi (j := j) (v := v) (by rw [← List.getElem?_toArray]; exact hPv)
                                              obtain ⟨x, hx⟩ : ∃ x, x = [a, b, c, d].getD j 0 := ⟨_, rfl⟩
                                              rw [← hx] at hm₂ ⊢
                                              have hf : (((x : Nat) : Int) + ((i : Nat) : Int)).fmod 16 = (((x + i) % 16 : Nat) : Int) := by
                                                rw [show ((x : Nat) : Int) + ((i : Nat) : Int) = ((x + i : Nat) : Int) from rfl, Int.fmod_eq_emod_of_nonneg _ (by decide)]
                                                rfl
                                              have hq0 : 0 ≤ (((x : Nat) : Int) + ((i : Nat) : Int)).fmod 16 := by rw [hf]; exact Int.natCast_nonneg _
                                              have hq4 : (((x : Nat) : Int) + ((i : Nat) : Int)).fmod 16 ≤ 1000000 := by rw [hf]; exact Int.ofNat_le.mpr (Nat.le_trans (Nat.le_of_lt (Nat.mod_lt _ (by decide))) (by decide : 16 ≤ 1000000))
                                              k_steps
                                              have e8 : ((2 ^ ((x + i) % 16) : Nat) : Int) = 2 ^ ((((x : Nat) : Int) + ((i : Nat) : Int)).fmod 16).toNat := by
                                                rw [hf, Int.toNat_natCast, Int.natCast_pow]
                                                rfl
                                              refine ⟨_, _, rfl, ?_, F7, N7⟩
                                              rw [e8]
                                              exact ⟨_, rfl⟩
                                            · intro D3 h6 tk6 F7 N7 off6
                                              have hys2 := intsAre_map (g := fun x => 2 ^ ((x + i) % 16)) (ts := [a, b, c, d]) hyl hys
                                              obtain ⟨w0, w1, w2, w3, rfl⟩ := ints4 (x := ((2 ^ ((a + i) % 16) : Nat) : Int)) (y := ((2 ^ ((b + i) % 16) : Nat) : Int)) (z := ((2 ^ ((c + i) % 16) : Nat) : Int)) (w := ((2 ^ ((d + i) % 16) : Nat) : Int)) hys2
                                              clear hys2 hys
                                              have hM : maskN [a, b, c, d] i = 0 + 2 ^ ((a + i) % 16) + 2 ^ ((b + i) % 16) + 2 ^ ((c + i) % 16) + 2 ^ ((d + i) % 16) := rfl
                                              obtain ⟨M, hM'⟩ : ∃ M, M = maskN [a, b, c, d] i := ⟨_, rfl⟩
                                              rw [← hM'] at hM ⊢
                                              clear hM'
                                              generalize 2 ^ ((a + i) % 16) = y0 at hM N7
                                              generalize 2 ^ ((b + i) % 16) = y1 at hM N7
                                              generalize 2 ^ ((c + i) % 16) = y2 at hM N7
                                              generalize 2 ^ ((d + i) % 16) = y3 at hM N7
                                              k_steps
                                              rename Fr s1.heap _ _ _ => F12
                                              rename News s1.heap _ _ _ => N12
                                              have eM : ((M : Nat) : Int) = ((y0 : Nat) : Int) + (((y1 : Nat) : Int) + (((y2 : Nat) : Int) + (((y3 : Nat) : Int) + 0))) := by rw [hM, Nat.zero_add, Int.add_zero, Int.natCast_add, Int.natCast_add, Int.natCast_add, Int.add_assoc, Int.add_assoc]
                                              refine ⟨_, _, rfl, ?_, F12, News.tl N12⟩
                                              rw [eM]
                                              exact ⟨_, rfl⟩
                                          · intro D h tk ys hys F10 N10 hlt
                                            clear F8 N9 rg
                                            try k_lt hlt
                                            have hys : IntsAre ys ((masksN [a, b, c, d]).map Int.ofNat) := hys
                                            obtain ⟨ms, hms⟩ : ∃ ms, ms = masksN [a, b, c, d] := ⟨_, rfl⟩
                                            have hml : ms.length = 16 := by rw [hms]; exact masks_len _
                                            rw [← hms] at hys hwok hwf
                                            clear hms
                                            obtain ⟨m0, ms', rfl⟩ : ∃ m0 ms', ms = m0 :: ms' := List.exists_cons_of_length_eq_add_one hml
                                            obtain ⟨tm, ys', rfl, hys'⟩ := ints_uncons (n := ((m0 : Nat) : Int)) (ns := ms'.map Int.ofNat) hys
                                            have hyl : ys'.length = 15 := by
                                              have := ints_len hys'
                                              rw [this]
                                              simpa using hml
                                            k_with "call ref" => refine Stop.mk ?_
                                            k_steps
                                            refine Stop.to ?_
                                            rename Fr s1.heap _ _ _ => F11
                                            rename News s1.heap _ _ _ => N11
                                            rw [show (m0 :: ms').getD 0 0 = m0 from rfl] at hwok hwf
                                            refine ways (ms := m0 :: ms') (ps := [a, b, c, d]) (t := m0) hys hpi hml rfl 4 B1 F11 X0 N11 T0 rfl (show _ < recursionLimit by decide) (show _ < cLine by decide) hwok (fun tq h12 tk12 F12 N12 => ?_)
                                            clear F11 N11
                                            rw [hwf]
                                            k_steps
                                    · rename ((rvs.length : Nat) : Int) ≠ 16 => h16
                                      have h16' : (rowN ts [a, b, c, d]).length ≠ 16 := fun e => h16 (by rw [hrl, e]; rfl)
                                      rename Fr s1.heap _ _ _ => F8
                                      rename News s1.heap _ _ _ => N8
                                      have N9 : News s1.heap _ _ (_ :: _ :: []) := news_pick [2, 7] N8
                                      clear N8
                                      obtain ⟨dv, hdv⟩ : ∃ dv : Nat, dv = if (rowN ts [a, b, c, d]).length = 16 then dueN ls else 0 := ⟨_, rfl⟩
                                      have eX : (0 : Int) = ((dv : Nat) : Int) := by rw [hdv, if_neg h16']; rfl
                                      rw [eX] at F8
                                      rw [← hdv] at hwf
                                      clear eX
                                      try dsimp +zetaDelta only
                                      as_aux_lemma =>
                                        k_with_none
                                        rename Fr s1.heap _ _ _ => F8'
                                        obtain ⟨td, md, F8⟩ := fr_due F8'
                                        clear F8'
                                        refine Assign_CR (n := 16) (g := maskN [a, b, c, d]) F8 rfl (by with_unfolding_all rfl) (by with_unfolding_all rfl) rfl (by rfl) (by rfl) (by rfl) (by rfl) (by decide) (by intro C K; with_unfolding_all rfl) (by rfl) (by rfl) ?_
                                        k_steps
                                        rename Fr s1.heap _ _ _ => F8
                                        rename News s1.heap _ _ _ => N9
                                        rename IsRange _ _ _ _ _ _ _ _ => rg
                                        have r1 : Builtin.Range.small 0 ((16 : Nat) : Int) 1 = true := rfl
                                        have r2 : Builtin.Range.rangeSize 0 ((16 : Nat) : Int) 1 = ((16 : Nat) : Int) := rfl
                                        have r3 : 16 ≤ sizeLine := by rw [sizeLine_eq]; decide
                                        refine ⟨_, _, _, _, _, rfl, F8, N9, rg, r1, r2, r3, ?_, ?_⟩
                                        · clear F8 N9 rg
                                          intro i C K I D oC oK oI ys h tk t E' hi hoK F10 N10 p1 p2 p3 p4
                                          try k_lt p1
                                          k_with "eval ListComp BinOp cons" => refine Stop.mk ?_
                                          k_with "CompSrc" => refine Stop.mk ?_
                                          k_steps
                                          refine Stop.to ?_
                                          refine LCg.ListComp_U F10 (by with_unfolding_all rfl) (by decide) (by rfl) (by decide) (by rfl) ?_
                                          k_steps
                                          refine Stop.to ?_
                                          rename Fr s1.heap _ _ _ => F11
                                          rename News s1.heap _ _ _ => N11
                                          refine LCg.CompSrc.ledger rfl F11 N11 (.tail _ (.tail _ (.tail _ (.tail _ (.head _))))) (by rw [sizeLine_eq]; exact (by decide : 4 ≤ 16777216)) (fun gg => ?_)
                                          refine rest_all (S := LCg.SrcAt _ _ _) _ (.inr ⟨_, .tail _ (.tail _ (.tail _ (.tail _ (.head _)))), rfl, _, rfl⟩) (fun j v => ∃ t, v = .int ((2 ^ (([a, b, c, d].getD j 0 + i) % 16) : Nat) : Int) t) (fun j ys v I2 oI2 C2 oC2 D2 m₂ h5 tk5 E5 hj hPv hoC hm₂ F7 N7 off6 ne6 => ?_) (fun ys hyl hys => ?_)
                                          · obtain ⟨tv, rfl, hjl⟩ := ints_at hpi (j := j) (v := v) (by rw [← List.getElem?_toArray]; exact hPv)
                                            obtain ⟨x, hx⟩ : ∃ x, x = [a, b, c, d].getD j 0 := ⟨_, rfl⟩
                                            rw [← hx] at hm₂ ⊢
                                            have hf : (((x : Nat) : Int) + ((i : Nat) : Int)).fmod 16 = (((x + i) % 16 : Nat) : Int) := by
                                              rw [show ((x : Nat) : Int) + ((i : Nat) : Int) = ((x + i : Nat) : Int) from rfl, Int.fmod_eq_emod_of_nonneg _ (by decide)]
                                              rfl
                                            have hq0 : 0 ≤ (((x : Nat) : Int) + ((i : Nat) : Int)).fmod 16 := by rw [hf]; exact Int.natCast_nonneg _
                                            have hq4 : (((x : Nat) : Int) + ((i : Nat) : Int)).fmod 16 ≤ 1000000 := by rw [hf]; exact Int.ofNat_le.mpr (Nat.le_trans (Nat.le_of_lt (Nat.mod_lt _ (by decide))) (by decide : 16 ≤ 1000000))
                                            k_steps
                                            have e8 : ((2 ^ ((x + i) % 16) : Nat) : Int) = 2 ^ ((((x : Nat) : Int) + ((i : Nat) : Int)).fmod 16).toNat := by
                                              rw [hf, Int.toNat_natCast, Int.natCast_pow]
                                              rfl
                                            refine ⟨_, _, rfl, ?_, F7, N7⟩
                                            rw [e8]
                                            exact ⟨_, rfl⟩
                                          · intro D3 h6 tk6 F7 N7 off6
                                            have hys2 := intsAre_map (g := fun x => 2 ^ ((x + i) % 16)) (ts := [a, b, c, d]) hyl hys
                                            obtain ⟨w0, w1, w2, w3, rfl⟩ := ints4 (x := ((2 ^ ((a + i) % 16) : Nat) : Int)) (y := ((2 ^ ((b + i) % 16) : Nat) : Int)) (z := ((2 ^ ((c + i) % 16) : Nat) : Int)) (w := ((2 ^ ((d + i) % 16) : Nat) : Int)) hys2
                                            clear hys2 hys
                                            have hM : maskN [a, b, c, d] i = 0 + 2 ^ ((a + i) % 16) + 2 ^ ((b + i) % 16) + 2 ^ ((c + i) % 16) + 2 ^ ((d + i) % 16) := rfl
                                            obtain ⟨M, hM'⟩ : ∃ M, M = maskN [a, b, c, d] i := ⟨_, rfl⟩
                                            rw [← hM'] at hM ⊢
                                            clear hM'
                                            generalize 2 ^ ((a + i) % 16) = y0 at hM N7
                                            generalize 2 ^ ((b + i) % 16) = y1 at hM N7
                                            generalize 2 ^ ((c + i) % 16) = y2 at hM N7
                                            generalize 2 ^ ((d + i) % 16) = y3 at hM N7
                                            k_steps
                                            rename Fr s1.heap _ _ _ => F12
                                            rename News s1.heap _ _ _ => N12
                                            have eM : ((M : Nat) : Int) = ((y0 : Nat) : Int) + (((y1 : Nat) : Int) + (((y2 : Nat) : Int) + (((y3 : Nat) : Int) + 0))) := by rw [hM, Nat.zero_add, Int.add_zero, Int.natCast_add, Int.natCast_add, Int.natCast_add, Int.add_assoc, Int.add_assoc]
                                            refine ⟨_, _, rfl, ?_, F12, News.tl N12⟩
                                            rw [eM]
                                            exact ⟨_, rfl⟩
                                        · intro D h tk ys hys F10 N10 hlt
                                          clear F8 N9 rg
                                          try k_lt hlt
                                          have hys : IntsAre ys ((masksN [a, b, c, d]).map Int.ofNat) := hys
                                          obtain ⟨ms, hms⟩ : ∃ ms, ms = masksN [a, b, c, d] := ⟨_, rfl⟩
                                          have hml : ms.length = 16 := by rw [hms]; exact masks_len _
                                          rw [← hms] at hys hwok hwf
                                          clear hms
                                          obtain ⟨m0, ms', rfl⟩ : ∃ m0 ms', ms = m0 :: ms' := List.exists_cons_of_length_eq_add_one hml
                                          obtain ⟨tm, ys', rfl, hys'⟩ := ints_uncons (n := ((m0 : Nat) : Int)) (ns := ms'.map Int.ofNat) hys
                                          have hyl : ys'.length = 15 := by
                                            have := ints_len hys'
                                            rw [this]
                                            simpa using hml
                                          k_with "call ref" => refine Stop.mk ?_
                                          k_steps
                                          refine Stop.to ?_
                                          rename Fr s1.heap _ _ _ => F11
                                          rename News s1.heap _ _ _ => N11
                                          rw [show (m0 :: ms').getD 0 0 = m0 from rfl] at hwok hwf
                                          refine ways (ms := m0 :: ms') (ps := [a, b, c, d]) (t := m0) hys hpi hml rfl 4 B1 F11 X0 N11 T0 rfl (show _ < recursionLimit by decide) (show _ < cLine by decide) hwok (fun tq h12 tk12 F12 N12 => ?_)
                                          clear F11 N11
                                          rw [hwf]
                                          k_steps
                                · exact ⟨0, rfl, fun j v c h => by rw [List.getElem?_nil] at h; exact absurd h (fun e => Option.some_ne_none _ e.symm), fun p hp => hp⟩))
end Mine
end

open PySem PySem.W PyProof.Rows
theorem PySem.Challenge.cw_sr0038_01_holds : PySem.Challenge.rw_sr0038_01.Holds := by
  exact Mine.t1
