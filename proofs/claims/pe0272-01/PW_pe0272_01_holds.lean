import PyProof.Rows.All
import Wide.All
import OpenK.AllK
import Wide.FinOn
import Lean
import PySem.Challenge.RW_pe0272_01
set_option compiler.extract_closed false
open PySem PySem.W PyProof.Rows PySem.Spec PySem.Calls
set_option Elab.async false
set_option maxRecDepth 100000
set_option maxHeartbeats 4000000
namespace Mine
local macro_rules | `(tactic| omega) => `(tactic| ((fail_if_success (fail_if_success (omega (config := {})))); first | lia | omega (config := {})))
noncomputable section
inductive E2 {α0 α1 : Type} (p : α0 → α1 → Prop) : Prop
  | mk (x0 : α0) (x1 : α1) (h : p x0 x1) : E2 p
inductive E3 {α0 α1 α2 : Type} (p : α0 → α1 → α2 → Prop) : Prop
  | mk (x0 : α0) (x1 : α1) (x2 : α2) (h : p x0 x1 x2) : E3 p
inductive E4 {α0 α1 α2 α3 : Type} (p : α0 → α1 → α2 → α3 → Prop) : Prop
  | mk (x0 : α0) (x1 : α1) (x2 : α2) (x3 : α3) (h : p x0 x1 x2 x3) : E4 p
inductive E5 {α0 α1 α2 α3 α4 : Type} (p : α0 → α1 → α2 → α3 → α4 → Prop) : Prop
  | mk (x0 : α0) (x1 : α1) (x2 : α2) (x3 : α3) (x4 : α4) (h : p x0 x1 x2 x3 x4) : E5 p
inductive E6 {α0 α1 α2 α3 α4 α5 : Type} (p : α0 → α1 → α2 → α3 → α4 → α5 → Prop) : Prop
  | mk (x0 : α0) (x1 : α1) (x2 : α2) (x3 : α3) (x4 : α4) (x5 : α5) (h : p x0 x1 x2 x3 x4 x5) : E6 p
inductive E7 {α0 α1 α2 α3 α4 α5 α6 : Type} (p : α0 → α1 → α2 → α3 → α4 → α5 → α6 → Prop) : Prop
  | mk (x0 : α0) (x1 : α1) (x2 : α2) (x3 : α3) (x4 : α4) (x5 : α5) (x6 : α6) (h : p x0 x1 x2 x3 x4 x5 x6) : E7 p
inductive E8 {α0 α1 α2 α3 α4 α5 α6 α7 : Type} (p : α0 → α1 → α2 → α3 → α4 → α5 → α6 → α7 → Prop) : Prop
  | mk (x0 : α0) (x1 : α1) (x2 : α2) (x3 : α3) (x4 : α4) (x5 : α5) (x6 : α6) (x7 : α7) (h : p x0 x1 x2 x3 x4 x5 x6 x7) : E8 p
inductive E9 {α0 α1 α2 α3 α4 α5 α6 α7 α8 : Type} (p : α0 → α1 → α2 → α3 → α4 → α5 → α6 → α7 → α8 → Prop) : Prop
  | mk (x0 : α0) (x1 : α1) (x2 : α2) (x3 : α3) (x4 : α4) (x5 : α5) (x6 : α6) (x7 : α7) (x8 : α8) (h : p x0 x1 x2 x3 x4 x5 x6 x7 x8) : E9 p
inductive E10 {α0 α1 α2 α3 α4 α5 α6 α7 α8 α9 : Type} (p : α0 → α1 → α2 → α3 → α4 → α5 → α6 → α7 → α8 → α9 → Prop) : Prop
  | mk (x0 : α0) (x1 : α1) (x2 : α2) (x3 : α3) (x4 : α4) (x5 : α5) (x6 : α6) (x7 : α7) (x8 : α8) (x9 : α9) (h : p x0 x1 x2 x3 x4 x5 x6 x7 x8 x9) : E10 p
inductive E13 {α0 α1 α2 α3 α4 α5 α6 α7 α8 α9 α10 α11 α12 : Type} (p : α0 → α1 → α2 → α3 → α4 → α5 → α6 → α7 → α8 → α9 → α10 → α11 → α12 → Prop) : Prop
  | mk (x0 : α0) (x1 : α1) (x2 : α2) (x3 : α3) (x4 : α4) (x5 : α5) (x6 : α6) (x7 : α7) (x8 : α8) (x9 : α9) (x10 : α10) (x11 : α11) (x12 : α12) (h : p x0 x1 x2 x3 x4 x5 x6 x7 x8 x9 x10 x11 x12) : E13 p
inductive A3 (p0 p1 p2 : Prop) : Prop
  | mk (h0 : p0) (h1 : p1) (h2 : p2) : A3 p0 p1 p2
inductive A4 (p0 p1 p2 p3 : Prop) : Prop
  | mk (h0 : p0) (h1 : p1) (h2 : p2) (h3 : p3) : A4 p0 p1 p2 p3
inductive A5 (p0 p1 p2 p3 p4 : Prop) : Prop
  | mk (h0 : p0) (h1 : p1) (h2 : p2) (h3 : p3) (h4 : p4) : A5 p0 p1 p2 p3 p4
inductive A6 (p0 p1 p2 p3 p4 p5 : Prop) : Prop
  | mk (h0 : p0) (h1 : p1) (h2 : p2) (h3 : p3) (h4 : p4) (h5 : p5) : A6 p0 p1 p2 p3 p4 p5
inductive A7 (p0 p1 p2 p3 p4 p5 p6 : Prop) : Prop
  | mk (h0 : p0) (h1 : p1) (h2 : p2) (h3 : p3) (h4 : p4) (h5 : p5) (h6 : p6) : A7 p0 p1 p2 p3 p4 p5 p6
inductive A8 (p0 p1 p2 p3 p4 p5 p6 p7 : Prop) : Prop
  | mk (h0 : p0) (h1 : p1) (h2 : p2) (h3 : p3) (h4 : p4) (h5 : p5) (h6 : p6) (h7 : p7) : A8 p0 p1 p2 p3 p4 p5 p6 p7
inductive A9 (p0 p1 p2 p3 p4 p5 p6 p7 p8 : Prop) : Prop
  | mk (h0 : p0) (h1 : p1) (h2 : p2) (h3 : p3) (h4 : p4) (h5 : p5) (h6 : p6) (h7 : p7) (h8 : p8) : A9 p0 p1 p2 p3 p4 p5 p6 p7 p8
inductive A10 (p0 p1 p2 p3 p4 p5 p6 p7 p8 p9 : Prop) : Prop
  | mk (h0 : p0) (h1 : p1) (h2 : p2) (h3 : p3) (h4 : p4) (h5 : p5) (h6 : p6) (h7 : p7) (h8 : p8) (h9 : p9) : A10 p0 p1 p2 p3 p4 p5 p6 p7 p8 p9
inductive A12 (p0 p1 p2 p3 p4 p5 p6 p7 p8 p9 p10 p11 : Prop) : Prop
  | mk (h0 : p0) (h1 : p1) (h2 : p2) (h3 : p3) (h4 : p4) (h5 : p5) (h6 : p6) (h7 : p7) (h8 : p8) (h9 : p9) (h10 : p10) (h11 : p11) : A12 p0 p1 p2 p3 p4 p5 p6 p7 p8 p9 p10 p11

noncomputable def lowc (c : Nat) : Nat := if 65 ≤ c ∧ c ≤ 90 then c + 32 else c
noncomputable def subc (c d : Nat) : Nat := if c = d then 0 else if lowc c = lowc d then 1 else 2

noncomputable def costRow (x : Nat) (ca : List Nat → Nat) : List Nat → Nat
  | [] => 2 + ca []
  | y :: b => min (subc x y + ca b) (min (2 + ca (y :: b)) (2 + costRow x ca b))
noncomputable def cost : List Nat → List Nat → Nat
  | [], b => 2 * b.length
  | x :: a, b => costRow x (cost a) b

theorem subc_self (x : Nat) : subc x x = 0 := by simp [subc]
theorem subc_comm (x y : Nat) : subc x y = subc y x := by
  unfold subc
  by_cases h : x = y
  · subst h; simp
  · have h' : ¬ y = x := fun e => h e.symm
    rw [if_neg h, if_neg h']
    by_cases h2 : lowc x = lowc y
    · rw [if_pos h2, if_pos h2.symm]
    · have h2' : ¬ lowc y = lowc x := fun e => h2 e.symm
      rw [if_neg h2, if_neg h2']
theorem subc_le (x y : Nat) : subc x y ≤ 2 := by unfold subc; split <;> (try split) <;> omega
theorem subc_pos {x y : Nat} (h : x ≠ y) : 1 ≤ subc x y := by unfold subc; rw [if_neg h]; split <;> omega
theorem subc_tri (x y z : Nat) : subc x z ≤ subc x y + subc y z := by
  unfold subc
  by_cases h1 : x = y
  · subst h1; simp
  · by_cases h2 : y = z
    · subst h2; simp
    · rw [if_neg h1, if_neg h2]
      by_cases h3 : lowc x = lowc y
      · by_cases h4 : lowc y = lowc z
        · rw [if_pos h3, if_pos h4]
          rw [if_pos (h3.trans h4)]
          split <;> omega
        · rw [if_pos h3, if_neg h4]
          split <;> (try split) <;> omega
      · rw [if_neg h3]
        split <;> (try split) <;> omega

theorem cost_nil (b : List Nat) : cost [] b = 2 * b.length := by simp [cost]
theorem cost_nil_r : ∀ a : List Nat, cost a [] = 2 * a.length
  | [] => by simp [cost]
  | x :: a => by simp only [cost, costRow, cost_nil_r a, List.length_cons]; omega
theorem cost_cons (x y : Nat) (a b : List Nat) : cost (x :: a) (y :: b) = min (subc x y + cost a b) (min (2 + cost a (y :: b)) (2 + cost (x :: a) b)) := by
  simp only [cost, costRow]

/-- an alignment of two texts and what it costs -/
inductive Al : List Nat → List Nat → Nat → Prop where
  | nil : Al [] [] 0
  | sub (x y : Nat) {a b : List Nat} {n : Nat} : Al a b n → Al (x :: a) (y :: b) (subc x y + n)
  | del (x : Nat) {a b : List Nat} {n : Nat} : Al a b n → Al (x :: a) b (2 + n)
  | ins (y : Nat) {a b : List Nat} {n : Nat} : Al a b n → Al a (y :: b) (2 + n)

theorem al_ins_all : ∀ b : List Nat, Al [] b (2 * b.length)
  | [] => .nil
  | y :: b => by
    have h := Al.ins y (al_ins_all b)
    have e : 2 * (y :: b).length = 2 + 2 * b.length := by simp only [List.length_cons]; omega
    rw [e]; exact h

theorem al_cost : ∀ a b : List Nat, Al a b (cost a b) := by
  intro a
  induction a with
  | nil => intro b; rw [cost_nil]; exact al_ins_all b
  | cons x a iha =>
    intro b
    induction b with
    | nil =>
      have e : cost (x :: a) [] = 2 + cost a [] := by simp only [cost, costRow]
      rw [e]; exact .del x (iha [])
    | cons y b ihb =>
      rw [cost_cons]
      by_cases h1 : subc x y + cost a b ≤ min (2 + cost a (y :: b)) (2 + cost (x :: a) b)
      · rw [Nat.min_eq_left h1]; exact .sub x y (iha b)
      · rw [Nat.min_eq_right (by omega)]
        by_cases h2 : 2 + cost a (y :: b) ≤ 2 + cost (x :: a) b
        · rw [Nat.min_eq_left h2]; exact .del x (iha (y :: b))
        · rw [Nat.min_eq_right (by omega)]; exact .ins y ihb

theorem cost_del (x : Nat) (a b : List Nat) : cost (x :: a) b ≤ 2 + cost a b := by
  cases b with
  | nil => simp only [cost, costRow]; omega
  | cons y b => rw [cost_cons]; omega
theorem cost_ins (y : Nat) (a b : List Nat) : cost a (y :: b) ≤ 2 + cost a b := by
  cases a with
  | nil => simp only [cost_nil, List.length_cons]; omega
  | cons x a => rw [cost_cons]; omega
theorem cost_sub (x y : Nat) (a b : List Nat) : cost (x :: a) (y :: b) ≤ subc x y + cost a b := by rw [cost_cons]; omega

theorem cost_le {a b : List Nat} {n : Nat} (h : Al a b n) : cost a b ≤ n := by
  induction h with
  | nil => simp [cost]
  | @sub x y a b n _ ih => have := cost_sub x y a b; omega
  | @del x a b n _ ih => have := cost_del x a b; omega
  | @ins y a b n _ ih => have := cost_ins y a b; omega

theorem Al.comm {a b : List Nat} {n : Nat} (h : Al a b n) : Al b a n := by
  induction h with
  | nil => exact .nil
  | sub x y _ ih => rw [subc_comm]; exact .sub y x ih
  | del x _ ih => exact .ins x ih
  | ins y _ ih => exact .del y ih
theorem cost_comm (a b : List Nat) : cost a b = cost b a :=
  Nat.le_antisymm (cost_le (al_cost b a).comm) (cost_le (al_cost a b).comm)

theorem Al.append {a b c d : List Nat} {n m : Nat} (h : Al a b n) (k : Al c d m) : Al (a ++ c) (b ++ d) (n + m) := by
  induction h with
  | nil => simpa using k
  | sub x y _ ih => have := Al.sub x y ih; rw [Nat.add_assoc]; exact this
  | del x _ ih => have := Al.del x ih; rw [Nat.add_assoc]; exact this
  | ins y _ ih => have := Al.ins y ih; rw [Nat.add_assoc]; exact this
theorem Al.rev {a b : List Nat} {n : Nat} (h : Al a b n) : Al a.reverse b.reverse n := by
  induction h with
  | nil => exact .nil
  | @sub x y a b n _ ih =>
    have := ih.append (Al.sub x y .nil)
    rw [List.reverse_cons, List.reverse_cons]
    have e : subc x y + n = n + (subc x y + 0) := by omega
    rw [e]; exact this
  | del x _ ih =>
    have := ih.append (Al.del x .nil)
    rw [List.reverse_cons]
    rw [Nat.add_comm]; simpa using this
  | ins y _ ih =>
    have := ih.append (Al.ins y .nil)
    rw [List.reverse_cons]
    rw [Nat.add_comm]; simpa using this
theorem cost_rev (a b : List Nat) : cost a.reverse b.reverse = cost a b := by
  refine Nat.le_antisymm (cost_le (al_cost a b).rev) (cost_le ?_)
  have := (al_cost a.reverse b.reverse).rev
  simpa using this

theorem cost_snoc (x y : Nat) (a b : List Nat) : cost (a ++ [x]) (b ++ [y]) = min (subc x y + cost a b) (min (2 + cost a (b ++ [y])) (2 + cost (a ++ [x]) b)) := by
  have e := cost_cons x y a.reverse b.reverse
  have e1 : cost (a ++ [x]) (b ++ [y]) = cost (x :: a.reverse) (y :: b.reverse) := by rw [← cost_rev]; simp
  have e2 : cost a.reverse (y :: b.reverse) = cost a (b ++ [y]) := by rw [← cost_rev a (b ++ [y])]; simp
  have e3 : cost (x :: a.reverse) b.reverse = cost (a ++ [x]) b := by rw [← cost_rev (a ++ [x]) b]; simp
  rw [e1, e, cost_rev, e2, e3]

theorem tri_al {a b : List Nat} {n : Nat} (h : Al a b n) : ∀ {c : List Nat} {m : Nat}, Al b c m → cost a c ≤ n + m := by
  induction h with
  | nil => intro c m k; have := cost_le k; omega
  | @sub x y a b n h1 ih =>
    intro c m k
    generalize hb : y :: b = bb at k
    induction k with
    | nil => cases hb
    | @sub y' z b' c m' k' _ =>
      cases hb
      have := ih k'
      have h2 := cost_sub x z a c
      have h3 := subc_tri x y z
      omega
    | @del y' b' c m' k' _ =>
      cases hb
      have := ih k'
      have h2 := cost_del x a c
      omega
    | @ins z b' c m' k' ihk =>
      have := ihk hb
      have h2 := cost_ins z (x :: a) c
      omega
  | @del x a b n h1 ih =>
    intro c m k
    have := ih k
    have h2 := cost_del x a c
    omega
  | @ins y a b n h1 ih =>
    intro c m k
    generalize hb : y :: b = bb at k
    induction k with
    | nil => cases hb
    | @sub y' z b' c m' k' _ =>
      cases hb
      have := ih k'
      have h2 := cost_ins z a c
      omega
    | @del y' b' c m' k' _ =>
      cases hb
      have := ih k'
      omega
    | @ins z b' c m' k' ihk =>
      have := ihk hb
      have h2 := cost_ins z a c
      omega
theorem cost_tri (a b c : List Nat) : cost a c ≤ cost a b + cost b c := tri_al (al_cost a b) (al_cost b c)

theorem cost_self : ∀ a : List Nat, cost a a = 0
  | [] => by simp [cost]
  | x :: a => by have := cost_sub x x a a; rw [subc_self, cost_self a] at this; omega
theorem eq_of_cost : ∀ a b : List Nat, cost a b = 0 → a = b
  | [], [], _ => rfl
  | [], y :: b, h => by simp [cost_nil] at h
  | x :: a, [], h => by rw [cost_nil_r] at h; simp at h
  | x :: a, y :: b, h => by
    rw [cost_cons] at h
    have h1 : subc x y + cost a b = 0 := by omega
    have hx : x = y := by
      by_cases e : x = y
      · exact e
      · have := subc_pos e; omega
    rw [hx, eq_of_cost a b (by omega)]

theorem cost_pre : ∀ p a b : List Nat, cost (p ++ a) (p ++ b) = cost a b
  | [], _, _ => rfl
  | x :: p, a, b => by
    have ih := cost_pre p a b
    show cost (x :: (p ++ a)) (x :: (p ++ b)) = _
    have h := cost_cons x x (p ++ a) (p ++ b)
    have h1 := cost_tri (p ++ a) (x :: (p ++ b)) (p ++ b)
    have h2 := cost_tri (p ++ a) (x :: (p ++ a)) (p ++ b)
    have h3 : cost (x :: (p ++ b)) (p ++ b) ≤ 2 := by have := cost_del x (p ++ b) (p ++ b); rw [cost_self] at this; omega
    have h4 : cost (p ++ a) (x :: (p ++ a)) ≤ 2 := by have := cost_ins x (p ++ a) (p ++ a); rw [cost_self] at this; omega
    rw [subc_self] at h
    omega
theorem cost_suf (q a b : List Nat) : cost (a ++ q) (b ++ q) = cost a b := by
  rw [← cost_rev]
  simp only [List.reverse_append]
  rw [cost_pre, cost_rev]

theorem cost_bound : ∀ a b : List Nat, cost a b ≤ 2 * max a.length b.length
  | [], b => by simp [cost_nil]
  | x :: a, [] => by rw [cost_nil_r]; simp
  | x :: a, y :: b => by
    have h := cost_sub x y a b
    have h2 := cost_bound a b
    have h3 := subc_le x y
    simp only [List.length_cons]
    omega
end
noncomputable section
-- the register: how words are parted, and under which path each one comes
noncomputable def figsOf (v : List Nat) (ws : List (List Nat)) : List Nat := (List.range 10).filter fun f => ws.any fun w => cost v w == f
noncomputable def part : Nat → List (List Nat) → List Nat → List (List Nat × List Nat)
  | 0, _, _ => []
  | _ + 1, [], _ => []
  | n + 1, v :: ws, p => (p, v) :: (figsOf v ws).flatMap fun f => part n (ws.filter fun w => cost v w == f) (p ++ [48 + f])
noncomputable def pathIn : Nat → List (List Nat) → List Nat → List Nat → List Nat
  | 0, _, p, _ => p
  | _ + 1, [], p, _ => p
  | n + 1, v :: ws, p, w => if w = v then p else pathIn n (ws.filter fun x => cost v x == cost v w) (p ++ [48 + cost v w]) w
noncomputable def Small (ws : List (List Nat)) : Prop := ∀ v ∈ ws, ∀ w ∈ ws, cost v w < 10
theorem Small.filter {v : List Nat} {ws : List (List Nat)} (h : Small (v :: ws)) (q : List Nat → Bool) : Small (ws.filter q) := fun a ha b hb => h a (.tail _ (List.mem_filter.mp ha).1) b (.tail _ (List.mem_filter.mp hb).1)
theorem figs_mem {v : List Nat} {ws : List (List Nat)} (h : Small (v :: ws)) {f : Nat} : f ∈ figsOf v ws ↔ ∃ w ∈ ws, cost v w = f := by
  unfold figsOf
  rw [List.mem_filter, List.mem_range, List.any_eq_true]
  constructor
  · rintro ⟨_, w, hw, e⟩; exact ⟨w, hw, by simpa using e⟩
  · rintro ⟨w, hw, e⟩; exact ⟨by rw [← e]; exact h v (.head _) w (.tail _ hw), w, hw, by simpa using e⟩
theorem figs_sorted (v : List Nat) (ws : List (List Nat)) : (figsOf v ws).Pairwise (· < ·) := List.Pairwise.filter _ List.pairwise_lt_range
theorem filt_len {ws : List (List Nat)} {q : List Nat → Bool} {n : Nat} (h : ws.length ≤ n) : (ws.filter q).length ≤ n := Nat.le_trans (List.length_filter_le _ _) h
theorem fm_congr {α β : Type} {f g : α → List β} : ∀ {l : List α}, (∀ x ∈ l, f x = g x) → l.flatMap f = l.flatMap g
  | [], _ => rfl
  | a :: l, h => by rw [List.flatMap_cons, List.flatMap_cons, h a (.head _), fm_congr fun x hx => h x (.tail _ hx)]
theorem path_fuel : ∀ (n m : Nat) (ws : List (List Nat)) (p w : List Nat), ws.length ≤ n → ws.length ≤ m → pathIn n ws p w = pathIn m ws p w
  | 0, m, ws, p, w, h, _ => by
    obtain rfl : ws = [] := List.length_eq_zero_iff.mp (by omega)
    cases m <;> rfl
  | n + 1, 0, ws, p, w, _, h => by
    obtain rfl : ws = [] := List.length_eq_zero_iff.mp (by omega)
    rfl
  | n + 1, m + 1, [], p, w, _, _ => rfl
  | n + 1, m + 1, v :: ws, p, w, h, k => by
    simp only [List.length_cons] at h k
    simp only [pathIn]
    split
    · rfl
    · exact path_fuel n m _ _ _ (filt_len (by omega)) (filt_len (by omega))
theorem path_pre : ∀ (n : Nat) (ws : List (List Nat)) (p w : List Nat), ∃ t, pathIn n ws p w = p ++ t ∧ t.length ≤ n ∧ ∀ c ∈ t, 48 ≤ c
  | 0, _, p, _ => ⟨[], (List.append_nil p).symm, Nat.le_refl _, fun _ h => nomatch h⟩
  | n + 1, [], p, _ => ⟨[], (List.append_nil p).symm, Nat.zero_le _, fun _ h => nomatch h⟩
  | n + 1, v :: ws, p, w => by
    simp only [pathIn]
    split
    · exact ⟨[], (List.append_nil p).symm, Nat.zero_le _, fun _ h => nomatch h⟩
    · obtain ⟨t, e, hl, hc⟩ := path_pre n (ws.filter fun x => cost v x == cost v w) (p ++ [48 + cost v w]) w
      refine ⟨(48 + cost v w) :: t, by rw [e, List.append_assoc]; rfl, by simp only [List.length_cons]; omega, fun c hx => ?_⟩
      rcases List.mem_cons.mp hx with rfl | hx
      · omega
      · exact hc c hx
theorem part_mem : ∀ (n : Nat) (ws : List (List Nat)) (p : List Nat), ws.length ≤ n → ws.Nodup → Small ws → ∀ q w, (q, w) ∈ part n ws p ↔ w ∈ ws ∧ q = pathIn n ws p w
  | 0, ws, p, h, _, _, q, w => by
    obtain rfl : ws = [] := List.length_eq_zero_iff.mp (by omega)
    simp [part]
  | n + 1, [], p, _, _, _, q, w => by simp [part]
  | n + 1, v :: ws, p, h, hn, hs, q, w => by
    simp only [List.length_cons] at h
    obtain ⟨hv, hn⟩ := List.nodup_cons.mp hn
    have ih := fun f => part_mem n (ws.filter fun x => cost v x == f) (p ++ [48 + f]) (filt_len (by omega)) (hn.filter _) (hs.filter _) q w
    simp only [part, List.mem_cons, Prod.mk.injEq, List.mem_flatMap]
    constructor
    · rintro (⟨rfl, rfl⟩ | ⟨f, hf, hm⟩)
      · exact ⟨.inl rfl, by simp [pathIn]⟩
      · obtain ⟨h1, h2⟩ := (ih f).mp hm
        obtain ⟨h4, h3⟩ := List.mem_filter.mp h1
        have e : cost v w = f := by simpa using h3
        subst e
        refine ⟨.inr h4, ?_⟩
        rw [h2]
        simp only [pathIn]
        rw [if_neg (fun e : w = v => hv (e ▸ h4))]
    · rintro ⟨h1, h2⟩
      by_cases e : w = v
      · subst e
        left
        simp only [pathIn, if_true] at h2
        exact ⟨h2, rfl⟩
      · right
        have h1 : w ∈ ws := h1.resolve_left e
        simp only [pathIn] at h2
        rw [if_neg e] at h2
        exact ⟨cost v w, (figs_mem hs).mpr ⟨w, h1, rfl⟩, (ih _).mpr ⟨List.mem_filter.mpr ⟨h1, by simp⟩, h2⟩⟩
theorem part_pre (n : Nat) (ws : List (List Nat)) (p : List Nat) (h : ws.length ≤ n) (hn : ws.Nodup) (hs : Small ws) : ∀ x ∈ part n ws p, ∃ t, x.1 = p ++ t := fun x hx => by
  obtain ⟨_, e⟩ := (part_mem n ws p h hn hs x.1 x.2).mp hx
  obtain ⟨t, e2, _⟩ := path_pre n ws p x.2
  exact ⟨t, e.trans e2⟩
theorem lt_digit (p s t : List Nat) {c d : Nat} (h : c < d) : (p ++ [c]) ++ s < (p ++ [d]) ++ t := by
  induction p with
  | nil => exact List.cons_lt_cons_iff.mpr (.inl h)
  | cons a p ih => exact List.cons_lt_cons_iff.mpr (.inr ⟨rfl, ih⟩)
theorem lt_ext (p t : List Nat) (c : Nat) : p < (p ++ [c]) ++ t := by
  induction p with
  | nil => exact List.nil_lt_cons _ _
  | cons a p ih => exact List.cons_lt_cons_iff.mpr (.inr ⟨rfl, ih⟩)
theorem part_sorted : ∀ (n : Nat) (ws : List (List Nat)) (p : List Nat), ws.length ≤ n → ws.Nodup → Small ws → ((part n ws p).map (·.1)).Pairwise (· < ·)
  | 0, _, _, _, _, _ => .nil
  | n + 1, [], _, _, _, _ => .nil
  | n + 1, v :: ws, p, h, hn, hs => by
    simp only [List.length_cons] at h
    obtain ⟨hv, hn⟩ := List.nodup_cons.mp hn
    have pre : ∀ f, ∀ x ∈ part n (ws.filter fun w => cost v w == f) (p ++ [48 + f]), ∃ t, x.1 = (p ++ [48 + f]) ++ t := fun f => part_pre n _ _ (filt_len (by omega)) (hn.filter _) (hs.filter _)
    simp only [part, List.map_cons, List.pairwise_cons, List.map_flatMap]
    refine ⟨fun q hq => ?_, ?_⟩
    · obtain ⟨f, _, hq⟩ := List.mem_flatMap.mp hq
      obtain ⟨x, hx, rfl⟩ := List.mem_map.mp hq
      obtain ⟨t, e⟩ := pre f x hx
      rw [e]; exact lt_ext p t _
    · rw [List.pairwise_flatMap]
      refine ⟨fun f _ => part_sorted n _ _ (filt_len (by omega)) (hn.filter _) (hs.filter _), (figs_sorted v ws).imp fun {f g} hfg a ha b hb => ?_⟩
      obtain ⟨x, hx, rfl⟩ := List.mem_map.mp ha
      obtain ⟨y, hy, rfl⟩ := List.mem_map.mp hb
      obtain ⟨s, e1⟩ := pre f x hx
      obtain ⟨t, e2⟩ := pre g y hy
      rw [e1, e2]; exact lt_digit p s t (by omega)
/-- two strictly rising lists with the same members are one -/
theorem rising_ext : ∀ {a b : List (List Nat)}, a.Pairwise (· < ·) → b.Pairwise (· < ·) → (∀ x, x ∈ a ↔ x ∈ b) → a = b
  | [], [], _, _, _ => rfl
  | [], y :: b, _, _, h => absurd ((h y).mpr (.head _)) List.not_mem_nil
  | x :: a, [], _, _, h => absurd ((h x).mp (.head _)) List.not_mem_nil
  | x :: a, y :: b, ha, hb, h => by
    obtain ⟨a1, a2⟩ := List.pairwise_cons.mp ha
    obtain ⟨b1, b2⟩ := List.pairwise_cons.mp hb
    have e : x = y := by
      rcases List.mem_cons.mp ((h x).mp (.head _)) with e | m1
      · exact e
      · rcases List.mem_cons.mp ((h y).mpr (.head _)) with e | m2
        · exact e.symm
        · exact absurd (List.lt_trans (a1 y m2) (b1 x m1)) (List.lt_irrefl _)
    subst e
    congr 1
    refine rising_ext a2 b2 fun z => ⟨fun hz => ?_, fun hz => ?_⟩
    · rcases List.mem_cons.mp ((h z).mp (.tail _ hz)) with rfl | m
      · exact absurd (a1 z hz) (List.lt_irrefl _)
      · exact m
    · rcases List.mem_cons.mp ((h z).mpr (.tail _ hz)) with rfl | m
      · exact absurd (b1 z hz) (List.lt_irrefl _)
      · exact m
theorem path_append : ∀ (n : Nat) (a b : List (List Nat)) (p w : List Nat), (a ++ b).length ≤ n → w ∈ a → pathIn n (a ++ b) p w = pathIn n a p w
  | 0, [], _, _, _, _, h => nomatch h
  | n + 1, [], _, _, _, _, h => nomatch h
  | 0, v :: a, b, _, _, h, _ => absurd h (by simp)
  | n + 1, v :: a, b, p, w, h, hw => by
    simp only [List.cons_append, List.length_cons] at h
    simp only [List.cons_append, pathIn]
    by_cases e : w = v
    · rw [if_pos e, if_pos e]
    · rw [if_neg e, if_neg e, List.filter_append]
      have hw2 : w ∈ a := (List.mem_cons.mp hw).resolve_left e
      refine path_append n _ _ _ _ ?_ (List.mem_filter.mpr ⟨hw2, by simp⟩)
      rw [← List.filter_append]; exact filt_len (by omega)
-- a walk down the register
inductive Reach (w : List Nat) (ws : List (List Nat)) (p : List Nat) : List (List Nat) → List Nat → Prop
  | refl : Reach w ws p ws p
  | step {v : List Nat} {cur : List (List Nat)} {q : List Nat} : Reach w ws p (v :: cur) q → w ≠ v → Reach w ws p (cur.filter fun x => cost v x == cost v w) (q ++ [48 + cost v w])
theorem Reach.pre {w : List Nat} {ws : List (List Nat)} {p : List Nat} {cur : List (List Nat)} {q : List Nat} (h : Reach w ws p cur q) : (∃ t, q = p ++ t ∧ (∀ c ∈ t, 48 ≤ c) ∧ t.length + cur.length ≤ ws.length) ∧ (∀ x ∈ cur, x ∈ ws) := by
  induction h with
  | refl => exact ⟨⟨[], (List.append_nil p).symm, (fun _ h => nomatch h), by simp⟩, fun _ h => h⟩
  | @step v cur q _ hw ih =>
    obtain ⟨⟨t, e, hc, hl⟩, hx⟩ := ih
    refine ⟨⟨t ++ [48 + cost v w], by rw [e, List.append_assoc], fun c hc' => ?_, ?_⟩, fun x h => hx x (.tail _ (List.mem_filter.mp h).1)⟩
    · rcases List.mem_append.mp hc' with h | h
      · exact hc c h
      · rw [List.mem_singleton.mp h]; omega
    · simp only [List.length_append, List.length_cons, List.length_nil] at hl ⊢
      have := List.length_filter_le (fun x => cost v x == cost v w) cur
      omega
theorem Reach.path {w : List Nat} {ws : List (List Nat)} {p : List Nat} {cur : List (List Nat)} {q : List Nat} (h : Reach w ws p cur q) (hn : ws.Nodup) : cur.Nodup ∧ ∀ x ∈ cur, pathIn ws.length ws p x = pathIn cur.length cur q x := by
  induction h with
  | refl => exact ⟨hn, fun _ _ => rfl⟩
  | @step v cur q _ hw ih =>
    obtain ⟨ihn, ih⟩ := ih
    obtain ⟨hv, ihn⟩ := List.nodup_cons.mp ihn
    refine ⟨ihn.filter _, fun x hx => ?_⟩
    obtain ⟨hx, e⟩ := List.mem_filter.mp hx
    have e : cost v x = cost v w := by simpa using e
    rw [ih x (.tail _ hx)]
    simp only [List.length_cons, pathIn]
    rw [if_neg (fun c : x = v => hv (c ▸ hx)), e]
    exact path_fuel _ _ _ _ _ (filt_len (Nat.le_refl _)) (Nat.le_refl _)
/-- who is not in the group has no path through it -/
theorem Reach.off {w : List Nat} {ws : List (List Nat)} {p : List Nat} {cur : List (List Nat)} {q : List Nat} (h : Reach w ws p cur q) (hn : ws.Nodup) : ∀ x ∈ ws, x ∉ cur → ∀ t, pathIn ws.length ws p x ≠ q ++ t := by
  induction h with
  | refl => exact fun x hx hc => absurd hx hc
  | @step v cur q hr hw ih =>
    intro x hx hc t e
    have hp := hr.path hn
    by_cases h1 : x ∈ v :: cur
    · have e1 := hp.2 x h1
      rw [e1] at e
      simp only [List.length_cons, pathIn] at e
      by_cases h2 : x = v
      · rw [if_pos h2, List.append_assoc] at e
        have := congrArg List.length e
        simp at this
      · rw [if_neg h2] at e
        obtain ⟨t2, e2, _⟩ := path_pre cur.length (cur.filter fun y => cost v y == cost v x) (q ++ [48 + cost v x]) x
        rw [e2, List.append_assoc, List.append_assoc, List.append_cancel_left_eq] at e
        have e3 : 48 + cost v x = 48 + cost v w := by injection e
        have h3 : x ∈ cur := (List.mem_cons.mp h1).resolve_left h2
        exact hc (List.mem_filter.mpr ⟨h3, by simp; omega⟩)
    · exact ih x hx h1 ([48 + cost v w] ++ t) (by rw [e, List.append_assoc])
theorem Reach.head {w : List Nat} {ws : List (List Nat)} {p : List Nat} {cur : List (List Nat)} {q : List Nat} (h : Reach w ws p cur q) (hn : ws.Nodup) {x : List Nat} (hx : x ∈ ws) (e : pathIn ws.length ws p x = q) : ∃ r, cur = x :: r := by
  have hm : x ∈ cur := Decidable.byContradiction fun c => h.off hn x hx c [] (by rw [e, List.append_nil])
  rw [(h.path hn).2 x hm] at e
  cases cur with
  | nil => cases hm
  | cons v r =>
    simp only [List.length_cons, pathIn] at e
    by_cases h2 : x = v
    · exact ⟨r, by rw [h2]⟩
    · rw [if_neg h2] at e
      obtain ⟨t2, e2, _⟩ := path_pre r.length (r.filter fun y => cost v y == cost v x) (q ++ [48 + cost v x]) x
      rw [e2, List.append_assoc] at e
      have := congrArg List.length e
      simp at this
theorem Reach.at_head {w : List Nat} {ws : List (List Nat)} {p : List Nat} {v : List Nat} {cur : List (List Nat)} {q : List Nat} (h : Reach w ws p (v :: cur) q) (hn : ws.Nodup) : v ∈ ws ∧ pathIn ws.length ws p v = q :=
  ⟨h.pre.2 v (.head _), by rw [(h.path hn).2 v (.head _)]; simp [pathIn]⟩
theorem Reach.keeps {w : List Nat} {ws : List (List Nat)} {p : List Nat} {cur : List (List Nat)} {q : List Nat} (h : Reach w ws p cur q) (hw : w ∈ ws) : w ∈ cur := by
  induction h with
  | refl => exact hw
  | step _ hne ih => exact List.mem_filter.mpr ⟨(List.mem_cons.mp ih).resolve_left hne, by simp⟩
theorem Reach.snoc {w : List Nat} {ws : List (List Nat)} {p : List Nat} {cur : List (List Nat)} {q : List Nat} (h : Reach w ws p cur q) : Reach w (ws ++ [w]) p (cur ++ [w]) q := by
  induction h with
  | refl => exact .refl
  | @step v cur q _ hne ih =>
    have := Reach.step (v := v) (cur := cur ++ [w]) ih hne
    rw [List.filter_append, List.filter_cons, if_pos (by simp), List.filter_nil] at this
    exact this
theorem Reach.new {w : List Nat} {ws : List (List Nat)} {p : List Nat} {q : List Nat} (h : Reach w ws p [] q) (hn : ws.Nodup) (hw : w ∉ ws) : pathIn (ws ++ [w]).length (ws ++ [w]) p w = q := by
  have := (h.snoc.path (by rw [List.nodup_append]; exact ⟨hn, by simp, fun a ha b hb e => hw (by rw [List.mem_singleton.mp hb] at e; exact e ▸ ha)⟩)).2 w (by simp)
  rw [this]
  simp [pathIn]

end
noncomputable section
-- the table and the row that the register's words make
noncomputable def tabOf (ws : List (List Nat)) : List (List Nat × List Nat) := ws.map fun v => (pathIn ws.length ws [114] v, v)
noncomputable def rowOf (ws : List (List Nat)) : List (List Nat) := (part ws.length ws [114]).map (·.1)
theorem path_dig : ∀ (n : Nat) (ws : List (List Nat)) (p w : List Nat), (∀ v ∈ ws, cost v w < 10) → ∃ t, pathIn n ws p w = p ++ t ∧ ∀ c ∈ t, 48 ≤ c ∧ c < 58
  | 0, _, p, _, _ => ⟨[], (List.append_nil p).symm, fun _ h => nomatch h⟩
  | n + 1, [], p, _, _ => ⟨[], (List.append_nil p).symm, fun _ h => nomatch h⟩
  | n + 1, v :: ws, p, w, hs => by
    simp only [pathIn]
    split
    · exact ⟨[], (List.append_nil p).symm, fun _ h => nomatch h⟩
    · obtain ⟨t, e, hc⟩ := path_dig n (ws.filter fun x => cost v x == cost v w) (p ++ [48 + cost v w]) w (fun x hx => hs x (.tail _ (List.mem_filter.mp hx).1))
      have h1 := hs v (.head _)
      refine ⟨(48 + cost v w) :: t, by rw [e, List.append_assoc]; rfl, fun c hx => ?_⟩
      rcases List.mem_cons.mp hx with rfl | hx
      · omega
      · exact hc c hx
theorem Reach.dig {w : List Nat} {ws : List (List Nat)} {p : List Nat} {cur : List (List Nat)} {q : List Nat} (h : Reach w ws p cur q) (hs : ∀ v ∈ ws, cost v w < 10) : ∃ t, q = p ++ t ∧ ∀ c ∈ t, 48 ≤ c ∧ c < 58 := by
  induction h with
  | refl => exact ⟨[], (List.append_nil p).symm, fun _ h => nomatch h⟩
  | @step v cur q hr hw ih =>
    obtain ⟨t, e, hc⟩ := ih
    have h1 := hs v (hr.pre.2 v (.head _))
    refine ⟨t ++ [48 + cost v w], by rw [e, List.append_assoc], fun c hx => ?_⟩
    rcases List.mem_append.mp hx with hx | hx
    · exact hc c hx
    · rw [List.mem_singleton.mp hx]; omega
/-- the signs of a path -/
noncomputable def PathLike (q : List Nat) : Prop := ∀ c ∈ q, c = 114 ∨ (48 ≤ c ∧ c < 58)
theorem PathLike.low {q : List Nat} (h : PathLike q) : q.map lowc = q := by
  conv => rhs; rw [← List.map_id q]
  refine List.map_congr_left fun c hc => ?_
  have := h c hc
  show lowc c = c
  unfold lowc
  rw [if_neg (by omega)]
theorem PathLike.ok {q : List Nat} (h : PathLike q) : ∀ c ∈ q, 32 ≤ c ∧ c < 127 := fun c hc => by have := h c hc; omega
theorem path_like {ws : List (List Nat)} (hs : Small ws) {w : List Nat} (hw : w ∈ ws) : PathLike (pathIn ws.length ws [114] w) := by
  obtain ⟨t, e, hc⟩ := path_dig ws.length ws [114] w (fun v hv => hs v hv w hw)
  rw [e]
  intro c hx
  rcases List.mem_append.mp hx with hx | hx
  · exact .inl (List.mem_singleton.mp hx)
  · exact .inr (hc c hx)
theorem Reach.like {w : List Nat} {ws : List (List Nat)} {cur : List (List Nat)} {q : List Nat} (h : Reach w ws [114] cur q) (hs : ∀ v ∈ ws, cost v w < 10) : PathLike q := by
  obtain ⟨t, e, hc⟩ := h.dig hs
  rw [e]
  intro c hx
  rcases List.mem_append.mp hx with hx | hx
  · exact .inl (List.mem_singleton.mp hx)
  · exact .inr (hc c hx)
theorem path_len (ws : List (List Nat)) (w : List Nat) : (pathIn ws.length ws [114] w).length ≤ ws.length + 1 := by
  obtain ⟨t, e, hl, _⟩ := path_pre ws.length ws [114] w
  rw [e, List.length_append]; simp only [List.length_cons, List.length_nil]; omega
theorem find_some' {α : Type} {f : α → Bool} : ∀ {l : List α} {a : α}, a ∈ l → f a = true → (∀ b ∈ l, f b = true → b = a) → l.find? f = some a
  | x :: l, a, ha, hf, hu => by
    rw [List.find?_cons]
    cases e : f x with
    | true => rw [hu x (.head _) e]
    | false =>
      rcases List.mem_cons.mp ha with rfl | ha
      · rw [hf] at e; cases e
      · exact find_some' ha hf fun b hb => hu b (.tail _ hb)
theorem Reach.find_head {w : List Nat} {ws : List (List Nat)} {v : List Nat} {cur : List (List Nat)} {q : List Nat} (h : Reach w ws [114] (v :: cur) q) (hn : ws.Nodup) (hs : Small ws) (hw : ∀ v ∈ ws, cost v w < 10) {f : List Nat × List Nat → Bool} (hf : ∀ p, f p = (p.1.map lowc == q.map lowc)) :
    (tabOf ws).find? f = some (q, v) := by
  obtain ⟨hv, e⟩ := h.at_head hn
  refine find_some' (List.mem_map.mpr ⟨v, hv, by rw [e]⟩) (by rw [hf]; simp) fun b hb hq => ?_
  rw [hf] at hq
  obtain ⟨x, hx, rfl⟩ := List.mem_map.mp hb
  have e1 : pathIn ws.length ws [114] x = q := by
    have := eq_of_beq hq
    rwa [(path_like hs hx).low, (h.like hw).low] at this
  obtain ⟨r, e2⟩ := h.head hn hx e1
  rw [e1]
  injection e2 with e2
  rw [e2]
theorem Reach.find_none {w : List Nat} {ws : List (List Nat)} {q : List Nat} (h : Reach w ws [114] [] q) (hn : ws.Nodup) (hs : Small ws) (hw : ∀ v ∈ ws, cost v w < 10) {f : List Nat × List Nat → Bool} (hf : ∀ p, f p = (p.1.map lowc == q.map lowc)) :
    (tabOf ws).find? f = none := by
  rw [List.find?_eq_none]
  intro b hb hq
  rw [hf] at hq
  obtain ⟨x, hx, rfl⟩ := List.mem_map.mp hb
  have e1 : pathIn ws.length ws [114] x = q := by
    have := eq_of_beq hq
    rwa [(path_like hs hx).low, (h.like hw).low] at this
  obtain ⟨r, e2⟩ := h.head hn hx e1
  cases e2
theorem row_mem {ws : List (List Nat)} (hn : ws.Nodup) (hs : Small ws) (q : List Nat) : q ∈ rowOf ws ↔ ∃ v ∈ ws, q = pathIn ws.length ws [114] v := by
  unfold rowOf
  rw [List.mem_map]
  constructor
  · rintro ⟨⟨q, v⟩, h, rfl⟩
    obtain ⟨h1, h2⟩ := (part_mem _ ws _ (Nat.le_refl _) hn hs q v).mp h
    exact ⟨v, h1, h2⟩
  · rintro ⟨v, h1, h2⟩
    exact ⟨(q, v), (part_mem _ ws _ (Nat.le_refl _) hn hs q v).mpr ⟨h1, h2⟩, rfl⟩
theorem row_rising {ws : List (List Nat)} (hn : ws.Nodup) (hs : Small ws) : (rowOf ws).Pairwise (· < ·) := part_sorted _ ws _ (Nat.le_refl _) hn hs
theorem path_snoc {ws : List (List Nat)} {w x : List Nat} (hx : x ∈ ws) : pathIn (ws ++ [w]).length (ws ++ [w]) [114] x = pathIn ws.length ws [114] x := by
  rw [path_append _ _ _ _ _ (Nat.le_refl _) hx]
  exact path_fuel _ _ _ _ _ (by simp) (Nat.le_refl _)
theorem tab_snoc (ws : List (List Nat)) (w : List Nat) : tabOf (ws ++ [w]) = tabOf ws ++ [(pathIn (ws ++ [w]).length (ws ++ [w]) [114] w, w)] := by
  unfold tabOf
  rw [List.map_append, List.map_cons, List.map_nil]
  congr 1
  exact List.map_congr_left fun x hx => by rw [path_snoc hx]

end
noncomputable section
-- the search: who is asked, level by level
noncomputable def near1 (wd : List Nat) (rad : Nat) (v : List Nat) (f : Nat) : Bool := decide (f ≤ cost wd v + rad ∧ cost wd v ≤ f + rad)
noncomputable def seenT (wd : List Nat) (rad : Nat) : Nat → List (List Nat) → List Nat → List (List Nat × List Nat)
  | 0, _, _ => []
  | _ + 1, [], _ => []
  | n + 1, v :: ws, p => (p, v) :: ((figsOf v ws).filter (near1 wd rad v)).flatMap fun f => seenT wd rad n (ws.filter fun w => cost v w == f) (p ++ [48 + f])
/-- the level j below a place -/
noncomputable def levT (wd : List Nat) (rad : Nat) : Nat → Nat → List (List Nat) → List Nat → List (List Nat × List Nat)
  | _, 0, _, _ => []
  | _, _ + 1, [], _ => []
  | 0, _ + 1, v :: _, p => [(p, v)]
  | j + 1, n + 1, v :: ws, p => ((figsOf v ws).filter (near1 wd rad v)).flatMap fun f => levT wd rad j n (ws.filter fun w => cost v w == f) (p ++ [48 + f])
theorem seen_part (wd : List Nat) (rad : Nat) : ∀ (n : Nat) (ws : List (List Nat)) (p : List Nat), ∀ e ∈ seenT wd rad n ws p, e ∈ part n ws p
  | 0, _, _, _, h => nomatch h
  | _ + 1, [], _, _, h => nomatch h
  | n + 1, v :: ws, p, e, h => by
    simp only [seenT, List.mem_cons, List.mem_flatMap] at h
    simp only [part, List.mem_cons, List.mem_flatMap]
    rcases h with h | ⟨f, hf, h⟩
    · exact .inl h
    · exact .inr ⟨f, (List.mem_filter.mp hf).1, seen_part wd rad n _ _ e h⟩
theorem part_len (n : Nat) (ws : List (List Nat)) (p : List Nat) : ∀ e ∈ part n ws p, p.length ≤ e.1.length := by
  induction n generalizing ws p with
  | zero => exact fun _ h => nomatch h
  | succ n ih =>
    cases ws with
    | nil => exact fun _ h => nomatch h
    | cons v ws =>
      intro e h
      simp only [part, List.mem_cons, List.mem_flatMap] at h
      rcases h with rfl | ⟨f, _, h⟩
      · exact Nat.le_refl _
      · have := ih _ _ e h
        simp only [List.length_append, List.length_cons, List.length_nil] at this
        omega
theorem filter_flatMap {α β : Type} (q : β → Bool) (f : α → List β) : ∀ l : List α, (l.flatMap f).filter q = l.flatMap fun a => (f a).filter q
  | [] => rfl
  | a :: l => by rw [List.flatMap_cons, List.flatMap_cons, List.filter_append, filter_flatMap q f l]
theorem lev_seen (wd : List Nat) (rad : Nat) : ∀ (n j : Nat) (ws : List (List Nat)) (p : List Nat), (seenT wd rad n ws p).filter (fun e => decide (e.1.length = p.length + j)) = levT wd rad j n ws p
  | 0, j, _, _ => by cases j <;> rfl
  | n + 1, j, [], _ => by cases j <;> rfl
  | n + 1, 0, v :: ws, p => by
    simp only [seenT, levT]
    rw [List.filter_cons, if_pos (by simp), filter_flatMap]
    congr 1
    rw [List.flatMap_eq_nil_iff]
    intro f _
    rw [List.filter_eq_nil_iff]
    intro e he
    have := part_len n _ _ e (seen_part wd rad n _ _ e he)
    simp only [List.length_append, List.length_cons, List.length_nil] at this
    simp only [Nat.add_zero, decide_eq_true_eq]
    omega
  | n + 1, j + 1, v :: ws, p => by
    simp only [seenT, levT]
    rw [List.filter_cons, if_neg (by simp), filter_flatMap]
    refine fm_congr fun f _ => ?_
    rw [← lev_seen wd rad n j]
    refine List.filter_congr fun e _ => ?_
    simp only [List.length_append, List.length_cons, List.length_nil]
    rw [show p.length + 1 + j = p.length + (j + 1) by omega]
/-- the groups of a level -/
noncomputable def lvG (wd : List Nat) (rad : Nat) : Nat → List (List Nat) → List Nat → List (List (List Nat) × List Nat)
  | _, [], _ => []
  | 0, ws, p => [(ws, p)]
  | j + 1, v :: ws, p => ((figsOf v ws).filter (near1 wd rad v)).flatMap fun f => lvG wd rad j (ws.filter fun w => cost v w == f) (p ++ [48 + f])
noncomputable def headOf (g : List (List Nat) × List Nat) : List Nat × List Nat := (g.2, g.1.headD [])
theorem lev_grp (wd : List Nat) (rad : Nat) : ∀ (j n : Nat) (ws : List (List Nat)) (p : List Nat), ws.length ≤ n → levT wd rad j n ws p = (lvG wd rad j ws p).map headOf
  | 0, 0, ws, p, h => by
    obtain rfl : ws = [] := List.length_eq_zero_iff.mp (by omega)
    rfl
  | j + 1, 0, ws, p, h => by
    obtain rfl : ws = [] := List.length_eq_zero_iff.mp (by omega)
    rfl
  | 0, n + 1, [], p, _ => rfl
  | j + 1, n + 1, [], p, _ => rfl
  | 0, n + 1, v :: ws, p, _ => rfl
  | j + 1, n + 1, v :: ws, p, h => by
    simp only [List.length_cons] at h
    simp only [levT, lvG, List.map_flatMap]
    exact fm_congr fun f _ => lev_grp wd rad j n _ _ (filt_len (by omega))
noncomputable def kidsOf (wd : List Nat) (rad : Nat) (g : List (List Nat) × List Nat) : List (List (List Nat) × List Nat) :=
  match g.1 with
  | [] => []
  | v :: cur => ((figsOf v cur).filter (near1 wd rad v)).map fun f => (cur.filter fun w => cost v w == f, g.2 ++ [48 + f])
theorem flatMap_assoc' {α β γ : Type} (f : α → List β) (g : β → List γ) : ∀ l : List α, (l.flatMap f).flatMap g = l.flatMap fun a => (f a).flatMap g
  | [] => rfl
  | a :: l => by rw [List.flatMap_cons, List.flatMap_cons, List.flatMap_append, flatMap_assoc' f g l]
theorem lvG_one (wd : List Nat) (rad : Nat) (v : List Nat) (ws : List (List Nat)) (p : List Nat) (hs : Small (v :: ws)) : lvG wd rad 1 (v :: ws) p = kidsOf wd rad (v :: ws, p) := by
  show (((figsOf v ws).filter (near1 wd rad v)).flatMap fun f => lvG wd rad 0 (ws.filter fun w => cost v w == f) (p ++ [48 + f])) = _
  show _ = ((figsOf v ws).filter (near1 wd rad v)).map fun f => (ws.filter fun w => cost v w == f, p ++ [48 + f])
  rw [List.map_eq_flatMap]
  refine fm_congr fun f hf => ?_
  obtain ⟨w, hw, e⟩ := (figs_mem hs).mp (List.mem_filter.mp hf).1
  have hm : w ∈ ws.filter fun w => cost v w == f := List.mem_filter.mpr ⟨hw, by simpa using e⟩
  cases h : ws.filter (fun w => cost v w == f) with
  | nil => rw [h] at hm; cases hm
  | cons u r => rfl
theorem lvG_next (wd : List Nat) (rad : Nat) : ∀ (j : Nat) (ws : List (List Nat)) (p : List Nat), Small ws → lvG wd rad (j + 1) ws p = (lvG wd rad j ws p).flatMap (kidsOf wd rad)
  | j, [], p, _ => by cases j <;> rfl
  | 0, v :: ws, p, hs => by
    rw [lvG_one wd rad v ws p hs]
    show _ = [(v :: ws, p)].flatMap (kidsOf wd rad)
    rw [List.flatMap_cons, List.flatMap_nil, List.append_nil]
  | j + 1, v :: ws, p, hs => by
    show (((figsOf v ws).filter (near1 wd rad v)).flatMap fun f => lvG wd rad (j + 1) (ws.filter fun w => cost v w == f) (p ++ [48 + f])) = (((figsOf v ws).filter (near1 wd rad v)).flatMap fun f => lvG wd rad j (ws.filter fun w => cost v w == f) (p ++ [48 + f])).flatMap (kidsOf wd rad)
    rw [flatMap_assoc']
    exact fm_congr fun f _ => lvG_next wd rad j _ _ (hs.filter _)
-- a group of the register: all the words whose path runs through its place
inductive Grp (W : List (List Nat)) (p : List Nat) : List (List Nat) → List Nat → Prop
  | refl : Grp W p W p
  | step {v : List Nat} {cur : List (List Nat)} {q : List Nat} {f : Nat} : Grp W p (v :: cur) q → f ∈ figsOf v cur → Grp W p (cur.filter fun x => cost v x == f) (q ++ [48 + f])
theorem Grp.mem {W : List (List Nat)} {p : List Nat} {g : List (List Nat)} {q : List Nat} (h : Grp W p g q) : ∀ x ∈ g, x ∈ W := by
  induction h with
  | refl => exact fun _ h => h
  | step _ _ ih => exact fun x hx => ih x (.tail _ (List.mem_filter.mp hx).1)
theorem Grp.path {W : List (List Nat)} {p : List Nat} {g : List (List Nat)} {q : List Nat} (h : Grp W p g q) (hn : W.Nodup) : g.Nodup ∧ ∀ x ∈ g, pathIn W.length W p x = pathIn g.length g q x := by
  induction h with
  | refl => exact ⟨hn, fun _ _ => rfl⟩
  | @step v cur q f _ _ ih =>
    obtain ⟨ihn, ih⟩ := ih
    obtain ⟨hv, ihn⟩ := List.nodup_cons.mp ihn
    refine ⟨ihn.filter _, fun x hx => ?_⟩
    obtain ⟨hx, e⟩ := List.mem_filter.mp hx
    have e : cost v x = f := by simpa using e
    rw [ih x (.tail _ hx)]
    simp only [List.length_cons, pathIn]
    rw [if_neg (fun c : x = v => hv (c ▸ hx)), e]
    exact path_fuel _ _ _ _ _ (filt_len (Nat.le_refl _)) (Nat.le_refl _)
theorem Grp.off {W : List (List Nat)} {p : List Nat} {g : List (List Nat)} {q : List Nat} (h : Grp W p g q) (hn : W.Nodup) : ∀ x ∈ W, x ∉ g → ∀ t, pathIn W.length W p x ≠ q ++ t := by
  induction h with
  | refl => exact fun x hx hc => absurd hx hc
  | @step v cur q f hr hf ih =>
    intro x hx hc t e
    have hp := hr.path hn
    by_cases h1 : x ∈ v :: cur
    · have e1 := hp.2 x h1
      rw [e1] at e
      simp only [List.length_cons, pathIn] at e
      by_cases h2 : x = v
      · rw [if_pos h2, List.append_assoc] at e
        have := congrArg List.length e
        simp at this
      · rw [if_neg h2] at e
        obtain ⟨t2, e2, _⟩ := path_pre cur.length (cur.filter fun y => cost v y == cost v x) (q ++ [48 + cost v x]) x
        rw [e2, List.append_assoc, List.append_assoc, List.append_cancel_left_eq] at e
        have e3 : 48 + cost v x = 48 + f := by injection e
        have h3 : x ∈ cur := (List.mem_cons.mp h1).resolve_left h2
        exact hc (List.mem_filter.mpr ⟨h3, by simp; omega⟩)
    · exact ih x hx h1 ([48 + f] ++ t) (by rw [e, List.append_assoc])
theorem Grp.small {W : List (List Nat)} {p : List Nat} {g : List (List Nat)} {q : List Nat} (h : Grp W p g q) (hs : Small W) : Small g := fun a ha b hb => hs a (h.mem a ha) b (h.mem b hb)
theorem Grp.kids {W : List (List Nat)} {p : List Nat} {g : List (List Nat)} {q : List Nat} (h : Grp W p g q) (wd : List Nat) (rad : Nat) : ∀ e ∈ kidsOf wd rad (g, q), Grp W p e.1 e.2 := by
  intro e he
  cases g with
  | nil => cases he
  | cons v cur =>
    obtain ⟨f, hf, rfl⟩ := List.mem_map.mp he
    exact h.step (List.mem_filter.mp hf).1
/-- the paths one figure below a place -/
theorem Grp.under {W : List (List Nat)} {v : List Nat} {cur : List (List Nat)} {q : List Nat} (h : Grp W [114] (v :: cur) q) (hn : W.Nodup) (hs : Small W) (c : Nat) : q ++ [c] ∈ rowOf W ↔ ∃ f ∈ figsOf v cur, c = 48 + f := by
  rw [row_mem hn hs]
  have hp := h.path hn
  have hv := (List.nodup_cons.mp hp.1).1
  constructor
  · rintro ⟨x, hx, e⟩
    have hg : x ∈ v :: cur := Decidable.byContradiction fun k => h.off hn x hx k [c] e.symm
    rw [hp.2 x hg] at e
    simp only [List.length_cons, pathIn] at e
    by_cases h2 : x = v
    · rw [if_pos h2] at e
      have := congrArg List.length e
      simp at this
    · rw [if_neg h2] at e
      have h3 : x ∈ cur := (List.mem_cons.mp hg).resolve_left h2
      obtain ⟨t2, e2, _⟩ := path_pre cur.length (cur.filter fun y => cost v y == cost v x) (q ++ [48 + cost v x]) x
      rw [e2, List.append_assoc, List.append_cancel_left_eq] at e
      injection e with e _
      exact ⟨cost v x, (figs_mem (h.small hs)).mpr ⟨x, h3, rfl⟩, e⟩
  · rintro ⟨f, hf, rfl⟩
    have hk := h.step hf
    obtain ⟨w, hw, e⟩ := (figs_mem (h.small hs)).mp hf
    have hm : w ∈ cur.filter fun x => cost v x == f := List.mem_filter.mpr ⟨hw, by simpa using e⟩
    cases e3 : cur.filter (fun x => cost v x == f) with
    | nil => rw [e3] at hm; cases hm
    | cons u r =>
      rw [e3] at hk
      refine ⟨u, hk.mem u (.head _), ?_⟩
      rw [(hk.path hn).2 u (.head _)]
      simp [pathIn]

end
noncomputable section
-- the queue of the search
noncomputable def levUp (wd : List Nat) (rad : Nat) (W : List (List Nat)) : Nat → List (List (List Nat) × List Nat)
  | 0 => []
  | j + 1 => levUp wd rad W j ++ lvG wd rad j W [114]
noncomputable def QAt (wd : List Nat) (rad : Nat) (W : List (List Nat)) (dn ah : List (List (List Nat) × List Nat)) : Prop :=
  ∃ j A B, lvG wd rad j W [114] = A ++ B ∧ dn = levUp wd rad W j ++ A ∧ ah = B ++ A.flatMap (kidsOf wd rad)
theorem QAt.start (wd : List Nat) (rad : Nat) (W : List (List Nat)) (h : W ≠ []) : QAt wd rad W [] [(W, [114])] :=
  ⟨0, [], [(W, [114])], by cases W with
    | nil => exact absurd rfl h
    | cons => rfl, rfl, rfl⟩
theorem QAt.step {wd : List Nat} {rad : Nat} {W : List (List Nat)} (hs : Small W) {dn ah : List (List (List Nat) × List Nat)} {g : List (List Nat) × List Nat} (h : QAt wd rad W dn (g :: ah)) : QAt wd rad W (dn ++ [g]) (ah ++ kidsOf wd rad g) := by
  obtain ⟨j, A, B, e, rfl, e2⟩ := h
  cases B with
  | cons b B =>
    injection e2 with e3 e4
    subst e3
    refine ⟨j, A ++ [g], B, by rw [e, List.append_assoc]; rfl, by rw [List.append_assoc], ?_⟩
    rw [e4, List.flatMap_append, List.flatMap_cons, List.flatMap_nil, List.append_nil]
    exact List.append_assoc _ _ _
  | nil =>
    rw [List.append_nil] at e
    rw [List.nil_append, ← e, ← lvG_next wd rad j W [114] hs] at e2
    refine ⟨j + 1, [g], ah, e2.symm, ?_, ?_⟩
    · show levUp wd rad W j ++ A ++ [g] = (levUp wd rad W j ++ lvG wd rad j W [114]) ++ [g]
      rw [e]
    · rw [List.flatMap_cons, List.flatMap_nil, List.append_nil]
theorem lvG_none {wd : List Nat} {rad : Nat} {W : List (List Nat)} (hs : Small W) {j : Nat} (h : lvG wd rad j W [114] = []) : ∀ k, lvG wd rad (j + k) W [114] = []
  | 0 => h
  | k + 1 => by
    show lvG wd rad (j + k + 1) W [114] = []
    rw [lvG_next wd rad (j + k) W [114] hs, lvG_none hs h k]; rfl
theorem levUp_more {wd : List Nat} {rad : Nat} {W : List (List Nat)} (hs : Small W) {j : Nat} (h : lvG wd rad j W [114] = []) : ∀ k, levUp wd rad W (j + k) = levUp wd rad W j
  | 0 => rfl
  | k + 1 => by
    show levUp wd rad W (j + k) ++ lvG wd rad (j + k) W [114] = _
    rw [lvG_none hs h k, List.append_nil, levUp_more hs h k]
/-- when the queue is empty, all levels have been asked -/
theorem QAt.done {wd : List Nat} {rad : Nat} {W : List (List Nat)} (hs : Small W) {dn : List (List (List Nat) × List Nat)} (h : QAt wd rad W dn []) : ∃ j, ∀ k, dn = levUp wd rad W (j + k) := by
  obtain ⟨j, A, B, e, rfl, e2⟩ := h
  have h1 : B = [] := by cases B with
    | nil => rfl
    | cons => cases e2
  subst h1
  rw [List.nil_append] at e2
  rw [List.append_nil] at e
  have h2 : lvG wd rad (j + 1) W [114] = [] := by rw [lvG_next wd rad j W [114] hs, e, ← e2]
  refine ⟨j + 1, fun k => ?_⟩
  rw [levUp_more hs h2 k, ← e]; rfl
/-- how much is left to ask -/
noncomputable def sizeG (l : List (List (List Nat) × List Nat)) : Nat := (l.map fun g => g.1.length).sum
theorem sizeG_append (a b : List (List (List Nat) × List Nat)) : sizeG (a ++ b) = sizeG a + sizeG b := by simp [sizeG]
theorem filter_two {α : Type} (p : α → Bool) : ∀ l : List α, (l.filter p).length + (l.filter fun a => !(p a)).length = l.length
  | [] => rfl
  | a :: l => by
    have ih := filter_two p l
    rw [List.filter_cons, List.filter_cons]
    cases p a <;> simp only [Bool.not_true, Bool.not_false, if_true, Bool.false_eq_true, if_false, List.length_cons] <;> omega
theorem split_len (q : List Nat → Nat) : ∀ (fs : List Nat), fs.Pairwise (· < ·) → ∀ ws : List (List Nat), (fs.map fun f => (ws.filter fun w => q w == f).length).sum ≤ ws.length
  | [], _, _ => Nat.zero_le _
  | f :: fs, hp, ws => by
    obtain ⟨h1, h2⟩ := List.pairwise_cons.mp hp
    rw [List.map_cons, List.sum_cons]
    have e : (fs.map fun g => (ws.filter fun w => q w == g).length) = fs.map fun g => ((ws.filter fun w => !(q w == f)).filter fun w => q w == g).length := List.map_congr_left fun g hg => by
      rw [List.filter_filter]
      congr 1
      refine List.filter_congr fun w _ => ?_
      by_cases c : q w = g
      · have := h1 g hg
        have c2 : ¬ q w = f := by omega
        simp [c, c2, beq_eq_false_iff_ne.mpr c2]
        omega
      · simp [c]
    rw [e]
    have ih := split_len q fs h2 (ws.filter fun w => !(q w == f))
    have := filter_two (fun w => q w == f) ws
    omega
theorem kids_size (wd : List Nat) (rad : Nat) (v : List Nat) (cur : List (List Nat)) (q : List Nat) : sizeG (kidsOf wd rad (v :: cur, q)) ≤ cur.length := by
  show (((((figsOf v cur).filter (near1 wd rad v)).map fun f => (cur.filter fun w => cost v w == f, q ++ [48 + f])).map fun g => g.1.length).sum) ≤ _
  rw [List.map_map]
  exact split_len (cost v) _ ((figs_sorted v cur).filter _) cur

end
noncomputable section
theorem om_lo1 (n j : Nat) : -(n : Int) ≤ (j : Int) := by omega
theorem om_z (j : Nat) : (0 : Int) ≤ 0 + (j : Int) := by omega
theorem om_hi {n j : Nat} (h : j < n) : 0 + (j : Int) < (n : Int) := by omega
theorem om_hi1 {n j : Nat} (h : j < n) : (j : Int) < (n : Int) := by omega
theorem om_le {a b c : Nat} (h : a ≤ b) (k : b ≤ c) : a ≤ c := Nat.le_trans h k
theorem om_le2 {a b c d : Nat} (e : a = b) (h : b ≤ c) (k : c ≤ d) : a ≤ d := by omega
theorem om_leI {a b : Nat} {c : Int} (h : a ≤ b) (k : (b : Int) < c) : (a : Int) < c := by omega
theorem om_leI2 {a b d : Nat} {c : Int} (e : a = d) (h : d ≤ b) (k : (b : Int) < c) : (a : Int) < c := by omega
theorem om_leJ {a b : Nat} {c : Int} (h : a ≤ b) (k : (b : Int) ≤ c) : (a : Int) ≤ c := by omega
theorem om_leJ2 {a b d : Nat} {c : Int} (e : a = d) (h : d ≤ b) (k : (b : Int) ≤ c) : (a : Int) ≤ c := by omega
theorem om_neg {a : Nat} {c : Int} (k : c ≤ 0) : c ≤ (a : Int) := by omega
theorem om_negL {a : Nat} {c : Int} (k : c < 0) : c < (a : Int) := by omega
theorem om_nat (q : Nat) : (0 + (q : Int)).toNat = q := by omega
/-- a text by its signs -/
noncomputable def sl (l : List Nat) : Str := ⟨l.toArray⟩
theorem sl_cps (l : List Nat) : (sl l).cps.toList = l := by simp [sl]
theorem sl_length (l : List Nat) : (sl l).length = l.length := by simp [sl, Str.length]
theorem sl_inj {a b : List Nat} : sl a = sl b ↔ a = b := ⟨fun h => by have := congrArg (fun x => x.cps.toList) h; simpa [sl] using this, fun h => by rw [h]⟩
theorem sl_beq (a b : List Nat) : (sl a == sl b) = decide (a = b) := by
  by_cases h : a = b
  · subst h; simp
  · simp [h, sl_inj]
theorem sl_append (a b : List Nat) : sl a ++ sl b = sl (a ++ b) := by
  apply Str.ext'; simp [sl, Str.cps_append]
theorem slice_from (l : List Nat) (i : Nat) (h : i ≤ l.length) : Txt.slice (sl l) (some (i : Int)) none = sl (l.drop i) := by
  rw [slice_from_eq (b := (l.length : Int)) (by omega) (by rw [sl_length]; omega) (by rw [sl_length])]
  rw [sl_cps]
  have : ((l.length : Int) - (i : Int)).toNat = l.length - i := by omega
  simp only [this, Int.toNat_natCast, sl]
  congr 2
  rw [List.take_of_length_le]; simp
theorem slice_neg (l : List Nat) (k : Nat) (h : k ≤ l.length) (h1 : 1 ≤ k) : Txt.slice (sl l) none (some (-(k : Int))) = sl (l.take (l.length - k)) := by
  have e : Txt.slice (sl l) none (some (-(k : Int))) = Txt.slice (sl l) none (some ((l.length - k : Nat) : Int)) := by
    unfold Txt.slice
    rw [sl_length]
    have h2 : (-(k : Int)) < 0 := by omega
    have h3 : ¬ (((l.length - k : Nat) : Int) < 0) := by omega
    have h4 : -(k : Int) + (l.length : Int) = ((l.length - k : Nat) : Int) := by omega
    simp only [Builtin.Str.strSliceIndices, h2, h3, h4, if_true, if_false]
  rw [e]
  have := slice_closes_to (x := sl l) (j := ((l.length - k : Nat) : Int)) ⟨by omega, by rw [sl_cps]; omega⟩
  rw [beq_iff_eq.mp this]
  simp [sl]
theorem slice_none (l : List Nat) : Txt.slice (sl l) none none = sl l := by
  have e : Txt.slice (sl l) none none = Txt.slice (sl l) none (some (l.length : Int)) := by
    unfold Txt.slice
    rw [sl_length]
    have h3 : ¬ ((l.length : Int) < 0) := by omega
    have h5 : (1 : Int) > 0 := by decide
    simp only [Builtin.Str.strSliceIndices, h3, h5, if_true, if_false, Int.min_self]
    rw [Int.max_eq_right (by omega)]
  rw [e]
  have := slice_closes_to (x := sl l) (j := (l.length : Int)) ⟨by omega, by rw [sl_cps]; omega⟩
  rw [beq_iff_eq.mp this]
  simp [sl]
theorem lower_one {c : Nat} (h : c < 128) : Txt.lower (sl [c]) = sl [lowc c] := by
  rw [lower_ascii (by intro d hd; simp [sl] at hd; omega)]
  simp [sl, lo1, lowc]

theorem item_sl (l : List Nat) (i : Nat) (h : i < l.length) : Txt.item (sl l) (i : Int) = sl [l[i]] := by
  have h2 : seqIndex? (i : Int) l.length = some i := by
    unfold seqIndex?
    have h0 : ¬ ((i : Int) < 0) := by omega
    simp only [h0, if_false]
    simp; omega
  unfold Txt.item Txt.charAt
  rw [sl_length, h2]
  simp [sl, h]
theorem item_neg (l : List Nat) (k : Nat) (h1 : 1 ≤ k) (h : k ≤ l.length) (j : Int) (hj : j = -(k : Int)) : Txt.item (sl l) j = sl [l[l.length - k]] := by
  subst hj
  have h2 : seqIndex? (-(k : Int)) l.length = some (l.length - k) := by
    unfold seqIndex?
    have h0 : (-(k : Int)) < 0 := by omega
    simp only [h0, if_true]
    have h3 : (0 : Int) ≤ -(k : Int) + (l.length : Int) := by omega
    have h4 : -(k : Int) + (l.length : Int) < (l.length : Int) := by omega
    simp only [h3, h4, decide_true, Bool.and_self, if_true]
    congr 1; omega
  unfold Txt.item Txt.charAt
  rw [sl_length, h2]
  have h5 : l.length - k < l.length := by omega
  simp [sl, h5]

/-- a frame's names and values, written -/
noncomputable def mp (l : List (Str × Value)) : Str → Option Value := fun y => l.lookup y
noncomputable def put (x : Str) (v : Value) : List (Str × Value) → List (Str × Value)
  | [] => [(x, v)]
  | p :: r => if x == p.1 then (x, v) :: r else p :: put x v r
theorem lookup_put (x : Str) (v : Value) : ∀ (l : List (Str × Value)) (y : Str), (put x v l).lookup y = if y = x then some v else l.lookup y
  | [], y => by
    simp only [put, List.lookup]
    by_cases h : y = x
    · subst h; simp
    · have : (y == x) = false := beq_eq_false_iff_ne.mpr h
      simp [h, this]
  | (n, u) :: r, y => by
    unfold put
    by_cases hx : x = n
    · subst hx
      rw [if_pos (beq_self_eq_true _), List.lookup_cons, List.lookup_cons]
      by_cases h : y = x
      · subst h; simp
      · have h1 : (y == x) = false := beq_eq_false_iff_ne.mpr h
        simp [h, h1]
    · have hb : ¬ ((x == n) = true) := fun e => hx (beq_iff_eq.mp e)
      rw [if_neg hb, List.lookup_cons, List.lookup_cons, lookup_put x v r y]
      by_cases h : y = n
      · subst h
        have h2 : ¬ y = x := fun e => hx e.symm
        simp [h2]
      · have h1 : (y == n) = false := beq_eq_false_iff_ne.mpr h
        simp only [h1]
theorem mp_put {x : Str} {v : Value} {m : Str → Option Value} {l : List (Str × Value)} (h : ∀ y, m y = mp l y) : ∀ y, (if y = x then some v else m y) = mp (put x v l) y := fun y => by
  show _ = (put x v l).lookup y
  rw [lookup_put, h]; rfl
theorem Fr_eqv {h₀ : Heap} {L : Addr} {h : Heap} {m m' : Str → Option Value} (F : Fr h₀ L h m) (e : ∀ y, m y = m' y) : Fr h₀ L h m' := by
  have : m = m' := funext e
  exact this ▸ F

theorem Fr_as {h₀ : Heap} {L : Addr} {h : Heap} {m : Str → Option Value} {l l' : List (Str × Value)} (F : Fr h₀ L h m) (e : ∀ y, m y = mp l y) (e2 : l = l') : Fr h₀ L h (mp l') := Fr_eqv F (e2 ▸ e)

/-- a cut behind the first statements -/
noncomputable def Hit (P : Shared → Prop) (s : Shared) : Prop := P s
/-- here the walk stops -/
noncomputable def Stop (P : Prop) : Prop := P
theorem Stop.out {P : Prop} (h : Stop P) : P := h
noncomputable def Hit2 (P : Value → Shared → Prop) (v : Value) (s : Shared) : Prop := P v s
noncomputable def CutP (P : Shared → Prop) (Q : Flow → Shared → Prop) (f : Flow) (s : Shared) : Prop := match f with
  | .next => Hit P s
  | f => Q f s
theorem execs_append (env : Env) (r : List Stmt) : ∀ l : List Stmt, execs (l ++ r) env = (execs l env >>= fun f => match f with | .next => execs r env | f => pure f)
  | [] => by rw [execs_nil, pure_bind]; rfl
  | st :: l => by
    rw [List.cons_append, execs_cons, execs_cons, bind_assoc]
    congr 1; funext f
    cases f with
    | next => exact execs_append env r l
    | ret v => rfl
    | brk => rfl
    | cont => rfl
theorem cut {M : Model} {A : Around} {E : Value → Shared → Prop} {env : Env} {Q : Flow → Shared → Prop} {s : Shared} (P : Shared → Prop) (k : Nat) {l : List Stmt}
    (h1 : wpAny M A (execs (l.take k) env) (CutP P Q) E s) (h2 : ∀ s', P s' → wpAny M A (execs (l.drop k) env) Q E s') : wpAny M A (execs l env) Q E s := by
  have e : execs l env = execs (l.take k ++ l.drop k) env := by rw [List.take_append_drop]
  rw [e, execs_append]
  refine wpAny_bind (wpAny_mono h1 (fun f s' h => ?_) fun _ _ x => x)
  cases f with
  | next => exact h2 s' h
  | ret v => exact wpAny_pure h
  | brk => exact wpAny_pure h
  | cont => exact wpAny_pure h
/-- the same, where the block does not leave: what holds behind it stands under a name (the proof's terms stay small) -/
theorem cutO {M : Model} {A : Around} {E : Value → Shared → Prop} {env : Env} {Q : Flow → Shared → Prop} {s : Shared} (P : Shared → Prop) (k : Nat) {l : List Stmt}
    (h1 : ∀ P' : Shared → Prop, (∀ s', P s' → P' s') → wpAny M A (execs (l.take k) env) (CutP P' (fun _ _ => False)) E s) (h2 : ∀ s', P s' → wpAny M A (execs (l.drop k) env) Q E s') : wpAny M A (execs l env) Q E s :=
  cut P k (wpAny_mono (h1 P fun _ h => h) (fun f s' h => by
    cases f with
    | next => exact h
    | ret v => exact h.elim
    | brk => exact h.elim
    | cont => exact h.elim) fun _ _ x => x) h2
theorem room3 {a i c b X : Nat} (h : a + b < X) (k : i + c ≤ b) : a + i + c < X := by omega
end
noncomputable section
/-- X[:post or None], where post is nought or below -/
theorem cutTo {prog : Program} {w : World} {A : Around} {E : Value → Shared → Prop} {s : Shared} {name : Str} {scope : Scope} {L a : Addr} {cd : Value} {h₀ : Heap} {m : Str → Option Value} {news : List (Addr × Obj)}
    {x y : Str} {p1 p2 p3 p4 p5 p6 : Pos} {n0 : Nat} {l : List Nat} {t u : Tok} {v : Int} {k : Nat} {Q : Value → Shared → Prop}
    (F : Fr h₀ L s.heap m) (N : News h₀ L s.heap news) (hx : m x = some (.str (sl l) t)) (hy : m y = some (.int v u)) (hv : v = -(k : Int)) (hk : k ≤ l.length) (hl : l.length ≤ 20)
    (h : ∀ h' t' tk, Fr h₀ L h' m → News h₀ L h' news → (sl (l.take (l.length - k))).length = l.length - k → Q (.str (sl (l.take (l.length - k))) t') { s with heap := h', toks := tk })
    (hsk : scope.kind = .function := by rfl) (hxl : (envOf name scope L a cd).kindOf x = some .local := by rfl) (hyl : (envOf name scope L a cd).kindOf y = some .local := by rfl)
    (hxd : (x == ("__debug__" : Str)) = false := by decide) (hyd : (y == ("__debug__" : Str)) = false := by decide) :
    wpAny (model prog w) A (eval (.Subscript (.Name x p1) (.Slice none (some (.BoolOp .Or [.Name y p2, .Constant .none n0 p3] p4)) none p5) p6) (envOf name scope L a cd)) Q E s := by
  obtain ⟨hh, g, d, tk, os⟩ := s
  refine Subscript_ (ld F hx ?_ hsk hxl hxd)
  refine wpAny_Slice (wpAny_evalPart_none (wpAny_evalPart_some (BoolOp_or (ld F hy (PyProof.Rows.truthy_int ?_) hsk hyl hyd))))
  have hlen : (sl (l.take (l.length - k))).length = l.length - k := by rw [sl_length, List.length_take]; omega
  have hsz : (sl l).length ≤ sizeLine := by rw [sl_length, sizeLine_eq]; omega
  by_cases h0 : v = 0
  · subst h0
    have hk0 : k = 0 := by omega
    subst hk0
    rw [if_neg (by decide)]
    refine BoolOp_one ?_
    show wpAny _ _ (pure Value.none) _ _ _
    refine wpAny_pure (wpAny_evalPart_none ?_)
    refine slice_strN_nn (s := ⟨hh, g, d, tk, os⟩) F N (fun h' t' tk' F' N' => ?_) (hsz := hsz)
    rw [slice_none]
    have := h h' t' tk' F' N' hlen
    simpa using this
  · rw [if_pos (by simpa using h0)]
    refine wpAny_evalPart_none ?_
    refine slice_strN_ns (s := ⟨hh, g, d, tk, os⟩) F N (fun h' t' tk' F' N' => ?_) (hsz := hsz)
    rw [hv, slice_neg l k hk (by omega)]
    exact h h' t' tk' F' N' hlen

end
noncomputable section
/-- a caller that handles nothing -/
noncomputable abbrev Ar (dp un : Nat) (fr : Option (List Env)) (gd : Option (List Code)) : Around := { handled := none, depth := dp, frames := fr, guards := gd, units := un }

theorem News_hide {s : Shared} {S : List (Addr × Obj)} {h₁ : Heap} {L : Addr} (hS : ∀ p ∈ S, s.heap.get? p.1 = some p.2) (hL : s.heap.objs.size = L) (hk : ∀ b o, s.heap.get? b = some o → h₁.get? b = some o) :
    News (hideAll s.heap (S.map (·.1))) L h₁ S := fun p hp =>
  ⟨hk _ _ (hS p hp), hL ▸ Nat.ne_of_lt (Heap.lt_size (hS p hp)), hideAll_none _ (List.mem_map_of_mem hp)⟩

section
variable {prog : Program} {w : World} {A : Around} {s : Shared} {K : Frag} {p : Program} {loose : List Str} {mean : ExcName → Option Value} {mg mb : Str → Option Value} {Q E : Value → Shared → Prop}
  {name qual : Str} {params : Arguments} {body : List Stmt} {scope : Scope} {dV kV doc pm cdv ct oc : Value} {an od : Option Addr} {osl : Array (Option Value)} {f : Addr} {args : Args} {binds : List (Str × Value)}

/-- into a def's body: S are the objects that it may change, all else stands in g -/
theorem enterS (S : List (Addr × Obj)) (hS : ∀ q ∈ S, s.heap.get? q.1 = some q.2) (X : K.In (hideAll s.heap (S.map (·.1)))) (T : Top p loose mean mg mb (hideAll s.heap (S.map (·.1))))
    (ho : K.lookup f = some ⟨oc, od, .func (fnOf name qual params body scope dV kV doc pm an cdv ct), osl⟩) (hcd : codeIn K cdv qual = true) (hroom : A.depth < recursionLimit)
    (hbind : BindsTo s (fnOf name qual params body scope dV kV doc pm an cdv ct) args binds) (hloc : ∀ y ∈ binds, scope.names.lookup y.1 = some .local)
    (h : ∀ g L' h₁, (∀ b o, s.heap.get? b = some o → b ∉ S.map (·.1) → g.get? b = some o) → Fr g L' h₁ (fun y => binds.reverse.lookup y) → News g L' h₁ S → K.In g → Top p loose mean mg mb g → (∀ q ∈ S, q.1 < L') →
      wpAny (model prog w) (A.deeper (envOf qual scope L' f cdv)) (execs body (envOf qual scope L' f cdv)) (fun fl s' => Q (match fl with | .ret v => v | _ => .none) s') (fun _ _ => False) { s with heap := h₁, toks := s.toks + binds.length })
    (hco : scope.isCoroutine = false) (hgen : scope.isGenerator = false) (hk : scope.kind = .function) (hcell : ∀ x ∈ scope.names, x.2 ≠ .cell) :
    wpAny (model prog w) A (call (.ref f) args.pos args.kw) Q E s := by
  have keep : ∀ b o, (hideAll s.heap (S.map (·.1))).get? b = some o → s.heap.get? b = some o := fun b o e => of_hideAll _ e
  refine wpAny_call ?_
  refine codeAny_call_def (fd := fnOf name qual params body scope dV kV doc pm an cdv ct) (body := body) (binds := binds) hroom ((X.keeps keep) _ _ ho) rfl (T.nolimit.keeps keep) (codeRec_of (X.keeps keep) hcd) rfl hbind hcell hloc (fun h₁ hns hk₁ => ?_) hco hgen hk
  refine wpAny_mono (h _ s.heap.objs.size h₁ (fun b o e hb => hideAll_get _ e hb) ⟨hns, fun b o e => hk₁ b o (of_hideAll _ e), Nat.le_of_eq (hideAll_size _ _)⟩ (News_hide hS rfl hk₁) X T fun q hq => Heap.lt_size (hS q hq)) (fun fl s' hl => hl) fun _ _ x => x.elim

/-- the same, where the call is a code: S are the objects that it may change, all else stands in g -/
theorem enterK {R : Result → Shared → Prop} (S : List (Addr × Obj)) (hS : ∀ q ∈ S, s.heap.get? q.1 = some q.2) (X : K.In (hideAll s.heap (S.map (·.1)))) (T : Top p loose mean mg mb (hideAll s.heap (S.map (·.1))))
    (ho : K.lookup f = some ⟨oc, od, .func (fnOf name qual params body scope dV kV doc pm an cdv ct), osl⟩) (hcd : codeIn K cdv qual = true) (hroom : A.depth < recursionLimit)
    (hbind : BindsTo s (fnOf name qual params body scope dV kV doc pm an cdv ct) args binds) (hloc : ∀ y ∈ binds, scope.names.lookup y.1 = some .local)
    (h : ∀ g L' h₁, (∀ b o, s.heap.get? b = some o → b ∉ S.map (·.1) → g.get? b = some o) → Fr g L' h₁ (fun y => binds.reverse.lookup y) → News g L' h₁ S → K.In g → Top p loose mean mg mb g → (∀ q ∈ S, q.1 < L') →
      wpAny (model prog w) (A.deeper (envOf qual scope L' f cdv)) (execs body (envOf qual scope L' f cdv)) (fun fl s' => R (.ok (.ret (match fl with | .ret v => v | _ => .none))) s') (fun _ _ => False) { s with heap := h₁, toks := s.toks + binds.length })
    (hco : scope.isCoroutine = false) (hgen : scope.isGenerator = false) (hk : scope.kind = .function) (hcell : ∀ x ∈ scope.names, x.2 ≠ .cell) :
    codeAny (model prog w) A (.call (.ref f) args) R s := by
  have keep : ∀ b o, (hideAll s.heap (S.map (·.1))).get? b = some o → s.heap.get? b = some o := fun b o e => of_hideAll _ e
  refine codeAny_call_def (fd := fnOf name qual params body scope dV kV doc pm an cdv ct) (body := body) (binds := binds) hroom ((X.keeps keep) _ _ ho) rfl (T.nolimit.keeps keep) (codeRec_of (X.keeps keep) hcd) rfl hbind hcell hloc (fun h₁ hns hk₁ => ?_) hco hgen hk
  refine wpAny_mono (h _ s.heap.objs.size h₁ (fun b o e hb => hideAll_get _ e hb) ⟨hns, fun b o e => hk₁ b o (of_hideAll _ e), Nat.le_of_eq (hideAll_size _ _)⟩ (News_hide hS rfl hk₁) X T fun q hq => Heap.lt_size (hS q hq)) (fun fl s' hl => hl) fun _ _ x => x.elim

theorem enterC (S : List (Addr × Obj)) (hS : ∀ q ∈ S, s.heap.get? q.1 = some q.2) (X : K.In (hideAll s.heap (S.map (·.1)))) (T : Top p loose mean mg mb (hideAll s.heap (S.map (·.1))))
    (ho : K.lookup f = some ⟨oc, od, .func (fnOf name qual params body scope dV kV doc pm an cdv ct), osl⟩) (hcd : codeIn K cdv qual = true) (hroom : A.depth < recursionLimit)
    (hbind : BindsTo s (fnOf name qual params body scope dV kV doc pm an cdv ct) args binds) (hkind : (binds.all fun y => scope.names.lookup y.1 == some .local || scope.names.lookup y.1 == some .cell) = true)
    (hnd : ((cellsFrom 0 scope.names []).map (·.1)).Nodup)
    (h : ∀ g L' h₁ tk cells, (∀ b o, s.heap.get? b = some o → b ∉ S.map (·.1) → g.get? b = some o) → Fr g L' h₁ (bindL (envOfC qual scope L' f cdv).kindOf binds fun _ => none) → News g L' h₁ (cells ++ S) →
      CellsAre (bindC (envOfC qual scope L' f cdv).kindOf binds fun _ => none) (cellsFrom (L' + 1) scope.names []) cells → K.In g → Top p loose mean mg mb g → (∀ q ∈ S, q.1 < L') →
      wpAny (model prog w) (A.deeper (envOfC qual scope L' f cdv)) (execs body (envOfC qual scope L' f cdv)) (fun fl s' => Q (match fl with | .ret v => v | _ => .none) s') (fun _ _ => False) { s with heap := h₁, toks := tk })
    (hco : scope.isCoroutine = false) (hgen : scope.isGenerator = false) (hk : scope.kind = .function) :
    wpAny (model prog w) A (call (.ref f) args.pos args.kw) Q E s := by
  have keep : ∀ b o, (hideAll s.heap (S.map (·.1))).get? b = some o → s.heap.get? b = some o := fun b o e => of_hideAll _ e
  refine wpAny_call ?_
  refine codeAny_call_function hroom ((X.keeps keep) _ _ ho) rfl hco hgen rfl (codeRec_of (X.keeps keep) hcd) (hbind _ _ _ _ ?_)
  refine wpAny_newFunctionEnv_cells hk (kindsX hkind _) fun env' he s' x => ?_
  subst he
  refine ⟨(T.nolimit.keeps keep).keeps x.toInCall.keep, codeAny_func ?_⟩
  obtain ⟨h₁, tk, rfl, _⟩ := x.done
  have hk₁ := x.toInCall.keep
  obtain ⟨cells, NC, Y⟩ := Cl.news (h₀ := s.heap) (Nat.le_refl _) fun n c hm => ⟨x.cell n c (lookup_of_mem_nodup (cellsFrom_names scope.names 0 (s.heap.objs.size + 1) [] [] rfl ▸ hnd) hm), x.above n c hm⟩
  refine wpAny_mono (h _ s.heap.objs.size h₁ tk cells (fun b o e hb => hideAll_get _ e hb) ⟨x.toInCall.ns, fun b o e => hk₁ b o (of_hideAll _ e), Nat.le_of_eq (hideAll_size _ _)⟩ (fun q hp => ?_) Y X T fun q hq => Heap.lt_size (hS q hq)) (fun fl s' hl => hl) fun _ _ x => x.elim
  rcases List.mem_append.mp hp with hp | hp
  · refine ⟨(NC q hp).1, (NC q hp).2.1, ?_⟩
    cases e : (hideAll s.heap (S.map (·.1))).get? q.1 with
    | none => rfl
    | some o => have := of_hideAll _ e; rw [(NC q hp).2.2] at this; cases this
  · exact ⟨hk₁ _ _ (hS q hp), Nat.ne_of_lt (Heap.lt_size (hS q hp)), hideAll_none _ (List.mem_map_of_mem hp)⟩
end

/-- what a call binds -/
noncomputable def BindsF (K : Params → Frag) (f : Addr) (args : Args) (binds : List (Str × Value)) : Prop :=
  ∀ (P : Params) (oc : Value) (od : Option Addr) (osl : Array (Option Value)) (fd : FuncData), (K P).lookup f = some ⟨oc, od, .func fd, osl⟩ → ∀ s : Shared, (K P).In s.heap → BindsTo s fd args binds

/-- what a def gives back that changes nothing that stands -/
noncomputable def Pure (K : Params → Frag) (prog : Program) (f need : Nat) (args : Args) (pre : World → Heap → Prop) (R : Value → Heap → Prop) : Prop :=
  ∀ (w : World) (p : Program) (loose : List Str) (mean : ExcName → Option Value) (mg mb : Str → Option Value) (dp un : Nat) (fr : Option (List Env)) (gd : Option (List Code)) (s : Shared) (Q E : Value → Shared → Prop),
    (K w.params).In s.heap → Top p loose mean mg mb s.heap → pre w s.heap → dp + need < recursionLimit → un + 8 * need < cLine →
    (∀ r h' tk', s.heap.StaysIn h' → R r h' → Q r { s with heap := h', toks := tk' }) →
    wpAny (model prog w) (Ar dp un fr gd) (call (.ref f) args.pos args.kw) Q E s
theorem Pure.use {K : Params → Frag} {prog : Program} {f need : Nat} {args : Args} {pre : World → Heap → Prop} {R : Value → Heap → Prop} (C : Pure K prog f need args pre R) {w : World} {p : Program} {loose : List Str} {mean : ExcName → Option Value} {mg mb : Str → Option Value}
    {dp un : Nat} {fr : Option (List Env)} {gd : Option (List Code)} {s : Shared} {Q E : Value → Shared → Prop} {h₀ : Heap} {L : Addr} {m : Str → Option Value} {news : List (Addr × Obj)}
    (F : Fr h₀ L s.heap m) (X : (K w.params).In h₀) (N : News h₀ L s.heap news) (T : Top p loose mean mg mb h₀) (hp : pre w s.heap) (hd : dp + need < recursionLimit) (hu : un + 8 * need < cLine)
    (hret : ∀ r h' tk', Fr h₀ L h' m → News h₀ L h' news → s.heap.StaysIn h' → R r h' → Q r { s with heap := h', toks := tk' }) :
    wpAny (model prog w) (Ar dp un fr gd) (call (.ref f) args.pos args.kw) Q E s :=
  C w p loose mean mg mb dp un fr gd s Q E (X.keeps F.keep) (T.keeps F.keep) hp hd hu fun r h' tk' hk hr => hret r h' tk' (F.keeps hk) (fun p hp => ⟨hk _ _ (N p hp).1, (N p hp).2⟩) hk hr
-- what stood stands
theorem stays_of {h g h' : Heap} {L : Addr} {m : Str → Option Value} (hg : ∀ b o, h.get? b = some o → b ∉ ([] : List Addr) → g.get? b = some o) (F : Fr g L h' m) : h.StaysIn h' := fun b o e => F.keep b o (hg b o e List.not_mem_nil)
theorem ret_int {s : Shared} {Q : Value → Shared → Prop} {x y : Int} {t : Tok} {h' : Heap} {tk' : Nat} (hret : ∀ r h' tk', s.heap.StaysIn h' → (∃ t, r = Value.int x t) → Q r { s with heap := h', toks := tk' }) (e : y = x) (k : s.heap.StaysIn h') :
    Q (.int y t) { s with heap := h', toks := tk' } := hret _ _ _ k ⟨t, by rw [e]⟩
theorem ret_str {s : Shared} {Q : Value → Shared → Prop} {x y : Str} {t : Tok} {h' : Heap} {tk' : Nat} (hret : ∀ r h' tk', s.heap.StaysIn h' → (∃ t, r = Value.str x t) → Q r { s with heap := h', toks := tk' }) (e : y = x) (k : s.heap.StaysIn h') :
    Q (.str y t) { s with heap := h', toks := tk' } := hret _ _ _ k ⟨t, by rw [e]⟩
theorem om_take {k n : Nat} (h : k ≤ n) (e : ((min (n - k) n : Nat) : Int) ≠ 0) : k < n := Nat.lt_of_le_of_ne h fun q => e (by rw [q, Nat.sub_self, Nat.zero_min]; rfl)
theorem om_sub {k n : Nat} (h : k < n) : n - (k + 1) < n - k := Nat.sub_lt_sub_left h (Nat.lt_succ_self k)
theorem om_negs {k : Nat} {v : Int} (h : v = -(k : Int)) : v - 1 = -((k + 1 : Nat) : Int) := by rw [h, Int.natCast_add, Int.neg_add]; rfl
theorem om_app {a b c : Nat} (h : c = a + b) (k : c ≤ 20) : b ≤ 20 := Nat.le_trans (h ▸ Nat.le_add_left b a) k
theorem om_hi5 {n m j : Nat} (e : m = n) (h : j < n) : (j : Int) < (m : Int) := by rw [e]; exact Int.ofNat_lt.mpr h

end
noncomputable section
/-- the end of a turn -/
noncomputable def TurnEnd (h₀ : Heap) (L : Addr) (s : Shared) (It : Addr) (o : Obj) (J : (Str → Option Value) → List (Addr × Obj) → Prop) (Q : Flow → Shared → Prop) (f : Flow) (s' : Shared) : Prop := match f with
  | .ret v => Q (.ret v) s'
  | .brk => Q .next s'
  | _ => E4 fun h' tk' m' nw' => A5 (s' = { s with heap := h', toks := tk' }) (Fr h₀ L h' m') (News h₀ L h' ((It, o) :: nw')) (∀ p ∈ nw', p.1 ≠ It) (J m' nw')

section
variable {prog : Program} {w : World} {A : Around} {s : Shared} {env : Env} {h₀ : Heap} {Q : Flow → Shared → Prop} {target iter : Expr} {body : List Stmt} {pos : Pos}

theorem letOwned_list {M : Model} {It l : Addr} {i : Nat} {v : Value} {P : Unit → Shared → Prop} {E : Value → Shared → Prop} {s : Shared} (hI : s.heap.IsListIter It l i) (h : P () s) : wpAny M A (letOwnedTupleGo target (.ref It) v) P E s := by
  obtain ⟨o, ho, hc, hd⟩ := hI
  unfold letOwnedTupleGo
  split
  · split
    · rename_i r a e
      cases e
      refine wpAny_bind (wpAny_load ho ?_)
      rw [hc, hd]
      dsimp only
      rw [if_neg (by simp)]
      exact wpAny_pure h
    · exact wpAny_pure h
  · split
    · rename_i r a e
      cases e
      refine wpAny_bind (wpAny_load ho ?_)
      rw [hc, hd]
      dsimp only
      rw [if_neg (by simp)]
      exact wpAny_pure h
    · exact wpAny_pure h
  · exact wpAny_pure h

theorem for_listX {L : Addr} (hL : env.locals = L) (hh : A.handled = none)
    (h : wpAny (model prog w) A (eval iter env) (Hit2 fun x s₁ => E7 fun (l : Addr) (items : Array Value) (J : Nat → (Str → Option Value) → List (Addr × Obj) → Prop) (h1 : Heap) (tk1 : Nat) (m1 : Str → Option Value) (nw1 : List (Addr × Obj)) => A8 (x = .ref l) (s₁ = { s with heap := h1, toks := tk1 }) (Fr h₀ L h1 m1) (News h₀ L h1 nw1) (J 0 m1 nw1) (∀ i m nw h, J i m nw → Fr h₀ L h m → News h₀ L h nw → h.IsList l items) (∀ i v m nw It o h tk, items[i]? = some v → J i m nw → (∀ p ∈ nw, p.1 ≠ It) → Fr h₀ L h m → News h₀ L h ((It, o) :: nw) →
        wpAny (model prog w) A (assign target env v) (fun _ s₂ => wpAny (model prog w) A (execs body env) (TurnEnd h₀ L s It o (J (i + 1)) Q) (fun _ _ => False) s₂) (fun _ _ => False) { s with heap := h, toks := tk }) (∀ m nw h tk, J items.size m nw → Fr h₀ L h m → News h₀ L h nw → Q .next { s with heap := h, toks := tk })) (fun _ _ => False) s)
    (hs : ∀ x, foldedSetIterable iter env x = pure x := by intro _; rfl) :
    wpAny (model prog w) A (exec (.For target iter body [] pos) env) Q (fun _ _ => False) s := by
  subst hL
  refine wpAny_For (wpAny_mono h (fun x s₁ h₁ => ?_) fun _ _ x => x) hs
  obtain ⟨l, items, J, h1, tk1, m1, nw1, rfl, rfl, F1, N1, J1, hl, turn, done⟩ := h₁
  have hl1 : h1.IsList l items := hl _ _ _ _ J1 F1 N1
  refine wpAny_pyIter_list hl1 ?_
  have hne : l ≠ h1.objs.size := by obtain ⟨ol, hol, _⟩ := hl1; exact Nat.ne_of_lt (Heap.lt_size hol)
  have W := Walks.list (prog := prog) (w := w) hh h1.objs.size l hne items
  refine codeAny_forLoop_any (fun k s' => E6 fun i h tk m nw o => A8 (s' = { s with heap := h, toks := tk }) (Fr h₀ env.locals h m) (News h₀ env.locals h ((h1.objs.size, o) :: nw)) (∀ p ∈ nw, p.1 ≠ h1.objs.size) (J i m nw) (h.IsListIter h1.objs.size l i) (i ≤ items.size) (k = items.size - i)) ?_ items.size ⟨0, _, _, m1, nw1, _, rfl, F1.push _, N1.push F1 _, fun p hp => Nat.ne_of_lt (Heap.lt_size (N1 p hp).1), J1, ⟨_, Heap.get?_push_size _ rfl, rfl, rfl⟩, Nat.zero_le _, rfl⟩
  rintro k s' ⟨i, h, tk, m, nw, o, rfl, F, N, hf, hJ, hI, hi, rfl⟩
  have hl2 : h.IsList l items := hl _ _ _ _ hJ F (fun p hp => N p (.tail _ hp))
  by_cases hlt : i < items.size
  · refine W.item i _ _ _ hlt ⟨hI, hl2⟩ fun v h' tk' hv st hk => ?_
    obtain ⟨o', ho', hc', hd'⟩ := st.1
    have hIL : h1.objs.size ≠ env.locals := (N _ (.head _)).2.1
    have hI0 : h₀.get? h1.objs.size = none := (N _ (.head _)).2.2
    have F' : Fr h₀ env.locals h' m := by
      obtain ⟨oL, es, ep, hL, hLd, hLk, hLf⟩ := F.ns
      refine ⟨⟨oL, es, ep, hk _ _ (by simpa using Ne.symm hIL) hL, hLd, hLk, hLf⟩, fun b ob e => hk b ob (fun hb => ?_) (F.keep b ob e), F.above⟩
      rw [List.mem_singleton.mp hb, hI0] at e; cases e
    have N' : News h₀ env.locals h' ((h1.objs.size, o') :: nw) := by
      intro p hp
      rcases List.mem_cons.mp hp with rfl | hp
      · exact ⟨ho', hIL, hI0⟩
      · exact ⟨hk _ _ (by simpa using hf p hp) (N p (.tail _ hp)).1, (N p (.tail _ hp)).2⟩
    refine letOwned_list st.1 ?_
    refine wpAny_mono (turn i v m nw h1.objs.size o' h' tk' hv hJ hf F' N') (fun _ s₂ h₂ => ?_) fun _ _ x => x.elim
    refine wpAny_mono h₂ (fun f s₃ h₃ => ?_) fun _ _ x => x.elim
    have fin : (E4 fun h' tk' m' nw' => A5 (s₃ = { s with heap := h', toks := tk' }) (Fr h₀ env.locals h' m') (News h₀ env.locals h' ((h1.objs.size, o') :: nw')) (∀ p ∈ nw', p.1 ≠ h1.objs.size) (J (i + 1) m' nw')) →
        ∃ k', k' < items.size - i ∧ E6 fun i h tk m nw o => A8 (s₃ = { s with heap := h, toks := tk }) (Fr h₀ env.locals h m) (News h₀ env.locals h ((h1.objs.size, o) :: nw)) (∀ p ∈ nw, p.1 ≠ h1.objs.size) (J i m nw) (h.IsListIter h1.objs.size l i) (i ≤ items.size) (k' = items.size - i) := by
      rintro ⟨h9, tk9, m9, nw9, rfl, F9, N9, hf9, J9⟩
      exact ⟨items.size - (i + 1), by omega, i + 1, h9, tk9, m9, nw9, o', rfl, F9, N9, hf9, J9, ⟨o', (N9 _ (.head _)).1, hc', hd'⟩, hlt, rfl⟩
    cases f with
    | next => exact fin h₃
    | cont => exact fin h₃
    | brk => exact h₃
    | ret v => exact h₃
  · have hie : i = items.size := by omega
    subst hie
    refine W.done _ _ _ ⟨hI, hl2⟩ fun h' tk' hk => ?_
    have hIL : h1.objs.size ≠ env.locals := (N _ (.head _)).2.1
    have hI0 : h₀.get? h1.objs.size = none := (N _ (.head _)).2.2
    refine wpAny_execs_nil (done m nw h' tk' hJ ?_ ?_)
    · obtain ⟨oL, es, ep, hL, hLd, hLk, hLf⟩ := F.ns
      refine ⟨⟨oL, es, ep, hk _ _ (by simpa using Ne.symm hIL) hL, hLd, hLk, hLf⟩, fun b ob e => hk b ob (fun hb => ?_) (F.keep b ob e), F.above⟩
      rw [List.mem_singleton.mp hb, hI0] at e; cases e
    · exact fun p hp => ⟨hk _ _ (by simpa using hf p hp) (N p (.tail _ hp)).1, (N p (.tail _ hp)).2⟩
/-- for .. in a list that stands as it is while the loop goes -/
theorem for_list {l : Addr} {items : Array Value} {L : Addr} (J : Nat → (Str → Option Value) → List (Addr × Obj) → Prop) (hL : env.locals = L) (hh : A.handled = none)
    (hl : ∀ i m nw h, J i m nw → Fr h₀ L h m → News h₀ L h nw → h.IsList l items)
    (h : wpAny (model prog w) A (eval iter env) (Hit2 fun x s₁ => x = .ref l ∧ E4 fun h1 tk1 m1 nw1 => A4 (s₁ = { s with heap := h1, toks := tk1 }) (Fr h₀ L h1 m1) (News h₀ L h1 nw1) (J 0 m1 nw1)) (fun _ _ => False) s)
    (turn : ∀ i v m nw It o h tk, items[i]? = some v → J i m nw → (∀ p ∈ nw, p.1 ≠ It) → Fr h₀ L h m → News h₀ L h ((It, o) :: nw) →
      wpAny (model prog w) A (assign target env v) (fun _ s₂ => wpAny (model prog w) A (execs body env) (TurnEnd h₀ L s It o (J (i + 1)) Q) (fun _ _ => False) s₂) (fun _ _ => False) { s with heap := h, toks := tk })
    (done : ∀ m nw h tk, J items.size m nw → Fr h₀ L h m → News h₀ L h nw → Q .next { s with heap := h, toks := tk })
    (hs : ∀ x, foldedSetIterable iter env x = pure x := by intro _; rfl) :
    wpAny (model prog w) A (exec (.For target iter body [] pos) env) Q (fun _ _ => False) s :=
  for_listX hL hh (wpAny_mono h (fun _ _ z => by
    obtain ⟨e, h1, tk1, m1, nw1, e2, F, N, j⟩ := z
    exact ⟨l, items, J, h1, tk1, m1, nw1, e, e2, F, N, j, hl, turn, done⟩) fun _ _ x => x) hs
end

end
noncomputable section
section
variable {prog : Program} {w : World} {A : Around} {s : Shared} {env : Env} {h₀ : Heap} {Q : Flow → Shared → Prop} {iter : Expr} {body : List Stmt} {pos px : Pos} {x : Str}

/-- for x in .., over an iterator of its own -/
theorem for_gen {n : Nat} {P : Nat → Value → Prop} (J : Nat → (Str → Option Value) → List (Addr × Obj) → Prop)
    (hx : env.kindOf x = some .local) (hp : (env.scope.kind == .class || (env.scope.kind == .module && env.locals != env.globals)) = false)
    (h : wpAny (model prog w) A (eval iter env) (fun xv s₁ => wpAny (model prog w) A (pyIter xv) (fun it s₂ => E7 fun (It : Addr) (St : Nat → Heap → Prop) (h2 : Heap) (tk2 : Nat) (o : Obj) (m1 : Str → Option Value) (nw1 : List (Addr × Obj)) => A9 (it = .ref It) (s₂ = { s with heap := h2, toks := tk2 }) (Walks prog w A It [It] [It] n P St) (∀ i h, St i h → ∃ o, h.get? It = some o) (St 0 h2) (Fr h₀ env.locals h2 m1) (News h₀ env.locals h2 ((It, o) :: nw1)) (∀ p ∈ nw1, p.1 ≠ It) (J 0 m1 nw1)) (fun _ _ => False) s₁) (fun _ _ => False) s)
    (turn : ∀ i v m nw It o h tk, i < n → P i v → J i m nw → (∀ p ∈ nw, p.1 ≠ It) → Fr h₀ env.locals h (fun y => if y = x then some v else m y) → News h₀ env.locals h ((It, o) :: nw) →
      wpAny (model prog w) A (execs body env) (TurnEnd h₀ env.locals s It o (J (i + 1)) Q) (fun _ _ => False) { s with heap := h, toks := tk })
    (done : ∀ m nw h tk, J n m nw → Fr h₀ env.locals h m → News h₀ env.locals h nw → Q .next { s with heap := h, toks := tk })
    (hs : ∀ x, foldedSetIterable iter env x = pure x := by intro _; rfl) :
    wpAny (model prog w) A (exec (.For (.Name x px) iter body [] pos) env) Q (fun _ _ => False) s := by
  refine wpAny_For (wpAny_mono h (fun x s₁ h₁ => wpAny_mono h₁ (fun it s₂ h₂ => ?_) fun _ _ x => x.elim) fun _ _ x => x.elim) hs
  obtain ⟨It, St, h2, tk2, o, m1, nw1, rfl, rfl, W, hSt, st0, F1, N1, hf1, J1⟩ := h₂
  have push : ∀ {h h' : Heap} {m : Str → Option Value} {nw : List (Addr × Obj)} {o : Obj}, Fr h₀ env.locals h m → News h₀ env.locals h ((It, o) :: nw) → (∀ p ∈ nw, p.1 ≠ It) → (∀ b o, b ∉ [It] → h.get? b = some o → h'.get? b = some o) →
      Fr h₀ env.locals h' m ∧ ∀ p ∈ nw, h'.get? p.1 = some p.2 ∧ p.1 ≠ env.locals ∧ h₀.get? p.1 = none := by
    intro h h' m nw o F N hf hk
    have hIL : It ≠ env.locals := (N _ (.head _)).2.1
    have hI0 : h₀.get? It = none := (N _ (.head _)).2.2
    obtain ⟨oL, es, ep, hL, hLd, hLk, hLf⟩ := F.ns
    refine ⟨⟨⟨oL, es, ep, hk _ _ (by simpa using Ne.symm hIL) hL, hLd, hLk, hLf⟩, fun b ob e => hk b ob (fun hb => ?_) (F.keep b ob e), F.above⟩, fun p hp => ⟨hk _ _ (by simpa using hf p hp) (N p (.tail _ hp)).1, (N p (.tail _ hp)).2⟩⟩
    rw [List.mem_singleton.mp hb, hI0] at e; cases e
  refine codeAny_forLoop_any (fun k s' => E6 fun i h tk m nw o => A8 (s' = { s with heap := h, toks := tk }) (Fr h₀ env.locals h m) (News h₀ env.locals h ((It, o) :: nw)) (∀ p ∈ nw, p.1 ≠ It) (J i m nw) (St i h) (i ≤ n) (k = n - i)) ?_ n
    ⟨0, _, _, m1, nw1, _, rfl, F1, N1, hf1, J1, st0, Nat.zero_le _, rfl⟩
  rintro k s' ⟨i, h, tk, m, nw, o, rfl, F, N, hf, hJ, hI, hi, rfl⟩
  have hIL : It ≠ env.locals := (N _ (.head _)).2.1
  have hI0 : h₀.get? It = none := (N _ (.head _)).2.2
  by_cases hlt : i < n
  · refine W.item i _ _ _ hlt hI fun v h' tk' hv st hk => ?_
    obtain ⟨o', ho'⟩ := hSt _ _ st
    obtain ⟨F', N'⟩ := push F N hf hk
    refine wpAny_pure (wpAny_assign_Name (wpAny_storeName_local hx F'.ns (fun h'' hn hsb => ?_) hp))
    have N'' : News h₀ env.locals h'' ((It, o') :: nw) := by
      intro p hp
      rcases List.mem_cons.mp hp with rfl | hp
      · exact ⟨(hsb.2 _ hIL).trans ho', hIL, hI0⟩
      · exact ⟨(hsb.2 _ (N' p hp).2.1).trans (N' p hp).1, (N' p hp).2⟩
    refine wpAny_mono (turn i v m nw It o' h'' _ hlt hv hJ hf (F'.set hn hsb) N'') (fun f s₃ h₃ => ?_) fun _ _ x => x.elim
    have fin : (E4 fun h' tk' m' nw' => A5 (s₃ = { s with heap := h', toks := tk' }) (Fr h₀ env.locals h' m') (News h₀ env.locals h' ((It, o') :: nw')) (∀ p ∈ nw', p.1 ≠ It) (J (i + 1) m' nw')) →
        ∃ k', k' < n - i ∧ E6 fun i h tk m nw o => A8 (s₃ = { s with heap := h, toks := tk }) (Fr h₀ env.locals h m) (News h₀ env.locals h ((It, o) :: nw)) (∀ p ∈ nw, p.1 ≠ It) (J i m nw) (St i h) (i ≤ n) (k' = n - i) := by
      rintro ⟨h9, tk9, m9, nw9, rfl, F9, N9, hf9, J9⟩
      refine ⟨n - (i + 1), by omega, i + 1, h9, tk9, m9, nw9, o', rfl, F9, N9, hf9, J9, W.frame _ _ _ st fun b hb ob e => ?_, hlt, rfl⟩
      rw [List.mem_singleton.mp hb] at e ⊢
      rw [ho'] at e
      exact e ▸ (N9 _ (.head _)).1
    cases f with
    | next => exact fin h₃
    | cont => exact fin h₃
    | brk => exact h₃
    | ret v => exact h₃
  · have hie : i = n := by omega
    subst hie
    refine W.done _ _ _ hI fun h' tk' hk => ?_
    obtain ⟨F', N'⟩ := push F N hf hk
    exact wpAny_execs_nil (done m nw h' tk' hJ F' N')

/-- for x in range(..) -/
theorem for_range {a b c : Int} {n : Nat} {L : Addr} (J : Nat → (Str → Option Value) → List (Addr × Obj) → Prop) (hL : env.locals = L) (hh : A.handled = none) (hsmall : Builtin.Range.small a b c = true) (hn : Builtin.Range.rangeSize a b c = (n : Int))
    (hx : env.kindOf x = some .local) (hp : (env.scope.kind == .class || (env.scope.kind == .module && env.locals != env.globals)) = false)
    (h : wpAny (model prog w) A (eval iter env) (Hit2 fun xv s₁ => E8 fun r t u v h1 tk1 m1 nw1 => A6 (xv = .ref r) (s₁ = { s with heap := h1, toks := tk1 }) (IsRange h1 r a b c t u v) (Fr h₀ L h1 m1) (News h₀ L h1 nw1) (J 0 m1 nw1)) (fun _ _ => False) s)
    (turn : ∀ i v t m nw It o h tk, i < n → v = a + (i : Nat) * c → J i m nw → (∀ p ∈ nw, p.1 ≠ It) → Fr h₀ L h (fun y => if y = x then some (.int v t) else m y) → News h₀ L h ((It, o) :: nw) →
      wpAny (model prog w) A (execs body env) (TurnEnd h₀ L s It o (J (i + 1)) Q) (fun _ _ => False) { s with heap := h, toks := tk })
    (done : ∀ m nw h tk, J n m nw → Fr h₀ L h m → News h₀ L h nw → Q .next { s with heap := h, toks := tk })
    (hs : ∀ x, foldedSetIterable iter env x = pure x := by intro _; rfl) :
    wpAny (model prog w) A (exec (.For (.Name x px) iter body [] pos) env) Q (fun _ _ => False) s := by
  subst hL
  refine for_gen (n := n) (P := fun i v => ∃ t, v = .int (a + (i : Nat) * c) t) J hx hp (wpAny_mono h (fun xv s₁ h₁ => ?_) fun _ _ x => x.elim) (fun i v m nw It o h tk hi hv hJ hf F N => ?_) done hs
  · obtain ⟨r, t, u, v, h1, tk1, m1, nw1, rfl, rfl, hr, F1, N1, J1⟩ := h₁
    refine wpAny_pyIter_range hr hsmall ?_
    refine ⟨_, _, _, _, _, m1, nw1, rfl, rfl, Walks.range hh _ a c n, fun i h st => ⟨_, st⟩, (by show IsRangeIter _ _ _ _ _; rw [hn]; simpa using Heap.get?_push_size _ rfl), F1.push _, N1.push F1 _, fun p hp => Nat.ne_of_lt (Heap.lt_size (N1 p hp).1), J1⟩
  · obtain ⟨t, rfl⟩ := hv
    exact turn i _ t m nw It o h tk hi rfl hJ hf F N

/-- for x in a text -/
theorem for_text {l : List Nat} {L : Addr} (J : Nat → (Str → Option Value) → List (Addr × Obj) → Prop) (hL : env.locals = L) (hh : A.handled = none)
    (hx : env.kindOf x = some .local) (hp : (env.scope.kind == .class || (env.scope.kind == .module && env.locals != env.globals)) = false)
    (h : wpAny (model prog w) A (eval iter env) (Hit2 fun xv s₁ => E5 fun t h1 tk1 m1 nw1 => A5 (xv = .str (sl l) t) (s₁ = { s with heap := h1, toks := tk1 }) (Fr h₀ L h1 m1) (News h₀ L h1 nw1) (J 0 m1 nw1)) (fun _ _ => False) s)
    (turn : ∀ i c t m nw It o h tk, l[i]? = some c → J i m nw → (∀ p ∈ nw, p.1 ≠ It) → Fr h₀ L h (fun y => if y = x then some (.str (sl [c]) t) else m y) → News h₀ L h ((It, o) :: nw) →
      wpAny (model prog w) A (execs body env) (TurnEnd h₀ L s It o (J (i + 1)) Q) (fun _ _ => False) { s with heap := h, toks := tk })
    (done : ∀ m nw h tk, J l.length m nw → Fr h₀ L h m → News h₀ L h nw → Q .next { s with heap := h, toks := tk })
    (hs : ∀ x, foldedSetIterable iter env x = pure x := by intro _; rfl) :
    wpAny (model prog w) A (exec (.For (.Name x px) iter body [] pos) env) Q (fun _ _ => False) s := by
  subst hL
  refine for_gen (n := l.length) (P := SignAt (sl l)) J hx hp (wpAny_mono h (fun xv s₁ h₁ => ?_) fun _ _ x => x.elim) (fun i v m nw It o h tk hi hv hJ hf F N => ?_) done hs
  · obtain ⟨t, h1, tk1, m1, nw1, rfl, rfl, F1, N1, J1⟩ := h₁
    have hl : (sl l).cps.size = l.length := by simp [sl]
    cases ha : (sl l).cps.all (· < 128)
    · refine wpAny_pyIter_wide ha ?_
      exact ⟨_, _, _, _, _, m1, nw1, rfl, rfl, hl ▸ Walks.strWide hh _ (sl l) t, fun i h st => let ⟨o, ho, _⟩ := st; ⟨o, ho⟩, ⟨_, Heap.get?_push_size _ rfl, rfl, rfl⟩, F1.push _, N1.push F1 _, fun p hp => Nat.ne_of_lt (Heap.lt_size (N1 p hp).1), J1⟩
    · refine wpAny_pyIter_ascii ha ?_
      exact ⟨_, _, _, _, _, m1, nw1, rfl, rfl, hl ▸ Walks.strAscii hh _ (sl l) t, fun i h st => let ⟨o, ho, _⟩ := st; ⟨o, ho⟩, ⟨_, Heap.get?_push_size _ rfl, rfl, rfl⟩, F1.push _, N1.push F1 _, fun p hp => Nat.ne_of_lt (Heap.lt_size (N1 p hp).1), J1⟩
  · obtain ⟨c, u, hc, rfl⟩ := hv
    have hc' : l[i]? = some c := by simpa [sl] using hc
    exact turn i c u m nw It o h tk hc' hJ hf F N
end

section
variable {prog : Program} {w : World} {A : Around} {E : Value → Shared → Prop} {Q : Flow → Shared → Prop} {s : Shared} {env : Env} {h₀ : Heap} {L : Addr}
/-- the end of a turn of while -/
noncomputable def WEnd (h₀ : Heap) (L : Addr) (s : Shared) (J : Nat → (Str → Option Value) → List (Addr × Obj) → Prop) (Q : Flow → Shared → Prop) (n : Nat) (f : Flow) (s₃ : Shared) : Prop := match f with
  | .brk => Q .next s₃
  | .ret v => Q (.ret v) s₃
  | _ => E5 fun h' tk m₂ news₂ n' => A5 (s₃ = { s with heap := h', toks := tk }) (Fr h₀ L h' m₂) (News h₀ L h' news₂) (n' < n) (J n' m₂ news₂)
theorem While_inv3 {test : Expr} {body : List Stmt} {pos : Pos} {m : Str → Option Value} {news : List (Addr × Obj)} (J : Nat → (Str → Option Value) → List (Addr × Obj) → Prop) {n₀ : Nat}
    (F : Fr h₀ L s.heap m) (N : News h₀ L s.heap news) (hJ : J n₀ m news)
    (turn : ∀ n m₁ news₁ h₁ tk₁, Fr h₀ L h₁ m₁ → News h₀ L h₁ news₁ → J n m₁ news₁ →
      wpAny (model prog w) A (isTrue test env (eval test env)) (fun b s₂ =>
        if b = true then wpAny (model prog w) A (execs body env) (WEnd h₀ L s J Q n) E s₂ else Q .next s₂) E { s with heap := h₁, toks := tk₁ })
    (hE : PassesOwn (model prog w) A env E := by passes_own) :
    wpAny (model prog w) A (exec (.While test body [] pos) env) Q E s :=
  While_inv2 J F N hJ (fun n m nw h tk F N j => wpAny_mono (turn n m nw h tk F N j) (fun b s₂ hb => by
    by_cases e : b = true
    · rw [if_pos e] at hb ⊢
      refine wpAny_mono hb (fun f s₃ h₃ => ?_) fun _ _ x => x
      cases f with
      | next => obtain ⟨h', tk', m', nw', n', e1, F', N', hn, j'⟩ := h₃; exact ⟨h', tk', m', nw', n', e1, F', N', hn, j'⟩
      | cont => obtain ⟨h', tk', m', nw', n', e1, F', N', hn, j'⟩ := h₃; exact ⟨h', tk', m', nw', n', e1, F', N', hn, j'⟩
      | brk => exact h₃
      | ret v => exact h₃
    · rw [if_neg e] at hb ⊢
      exact hb) fun _ _ x => x) hE
end

end
noncomputable section
/-- a frame of which some names are known -/
noncomputable def mq (l : List (Str × Value)) (u : Str → Option Value) : Str → Option Value := fun y => match l.lookup y with
  | some v => some v
  | none => u y
theorem mq_self {m : Str → Option Value} : ∀ {l : List (Str × Value)}, (∀ p ∈ l, m p.1 = some p.2) → ∀ y, m y = mq l m y
  | [], _, y => rfl
  | (n, v) :: r, h, y => by
    unfold mq
    rw [List.lookup_cons]
    by_cases e : y = n
    · subst e
      simp only [beq_self_eq_true]
      exact h _ (.head _)
    · have e' : (y == n) = false := beq_eq_false_iff_ne.mpr e
      rw [e']
      exact mq_self (l := r) (fun p hp => h p (.tail _ hp)) y
theorem Fr_mq {h₀ : Heap} {L : Addr} {h : Heap} {m : Str → Option Value} {l : List (Str × Value)} (F : Fr h₀ L h m) (e : ∀ p ∈ l, m p.1 = some p.2) : Fr h₀ L h (mq l m) := Fr_eqv F (mq_self e)

theorem ints_of : ∀ (vs : List Value) (rs : List Int), vs.length = rs.length → (∀ (j : Nat) (v : Value), vs[j]? = some v → ∃ t, v = .int (rs.getD j 0) t) → IntsAre vs rs
  | [], [], _, _ => .nil
  | v :: vs, r :: rs, e, h => by
    obtain ⟨t, ht⟩ := h 0 v rfl
    have : v = .int r t := ht
    subst this
    exact .cons _ _ (ints_of vs rs (by simpa using e) fun j v hj => h (j + 1) v hj)
section
variable {prog : Program} {w : World} {A : Around} {E : Value → Shared → Prop} {s : Shared} {h₀ : Heap} {L r : Addr} {m : Str → Option Value} {news : List (Addr × Obj)} {a b c : Int} {t₀ u₀ v₀ : Tok} {n : Nat} {Q : Value → Shared → Prop}
/-- list(range(..)) of any step -/
theorem list_range_any (hh : A.handled = none) (F : Fr h₀ L s.heap m) (N : News h₀ L s.heap news) (hr : IsRange s.heap r a b c t₀ u₀ v₀) (hsmall : Builtin.Range.small a b c = true) (hn : Builtin.Range.rangeSize a b c = (n : Int)) (hz : n ≤ 2 ^ 24)
    (h : ∀ D us k h' tk, Fr h₀ L h' m → News h₀ L h' ((D, listOf (List.toArray us) k) :: news) → (∀ p ∈ news, p.1 < D) → IntsAre us ((List.range n).map fun i => a + (i : Nat) * c) → Q (.ref D) { s with heap := h', toks := tk }) :
    wpAny (model prog w) A (call (.type "list") [.ref r]) Q E s := by
  refine call_list_range hh hr hsmall hn hz fun h' tk acc k hk hD hI => ?_
  have hD' : h'.get? s.heap.objs.size = some (listOf (List.toArray acc.toList) k) := by
    rw [Array.toArray_toList]
    exact hD
  refine h _ acc.toList k h' tk (F.keeps hk) (news_pushed F N hk hD' rfl) (fun p hp => Heap.lt_size (N p hp).1) (ints_of _ _ (by rw [Array.length_toList, List.length_map, List.length_range]; exact hI.1) fun j v hj => ?_)
  obtain ⟨t, ht⟩ := hI.2 j v (by rw [← hj, Array.getElem?_toList])
  have hjn : j < n := by
    have := (List.getElem?_eq_some_iff.mp hj).1
    rw [Array.length_toList, hI.1] at this; exact this
  refine ⟨t, ht.trans ?_⟩
  congr 1
  simp [List.getD_eq_getElem?_getD, hjn]
end
theorem small_any {a b c : Int} (ha : -1000 ≤ a ∧ a ≤ 1000) (hb : -1000 ≤ b ∧ b ≤ 1000) (hc : c = 1 ∨ c = 2 ∨ c = -1) : Builtin.Range.small a b c = true := by
  have hs : -4000 ≤ Builtin.Range.rangeSize a b c ∧ Builtin.Range.rangeSize a b c ≤ 4000 := by
    unfold Builtin.Range.rangeSize
    have e : -(-1 : Int) = 1 := rfl
    rcases hc with rfl | rfl | rfl <;> (repeat' split) <;> (try simp only [e, Int.ediv_one]) <;> omega
  unfold Builtin.Range.small
  generalize Builtin.Range.rangeSize a b c = z at *
  have p62 : (2 : Int) ^ 63 = 9223372036854775808 := by decide
  simp only [Builtin.Range.rangeFitsLong, p62, Bool.and_eq_true, Bool.or_eq_true, decide_eq_true_eq, beq_iff_eq]
  rcases hc with rfl | rfl | rfl <;> simp <;> omega

theorem small_nat {n : Nat} (h : n ≤ 1000) : Builtin.Range.small 0 (n : Int) 1 = true := small_any ⟨by omega, by omega⟩ ⟨by omega, by omega⟩ (.inl rfl)
theorem size_nat {m n : Nat} (e : m = n) : Builtin.Range.rangeSize 0 (m : Int) 1 = (n : Int) := by
  subst e
  unfold Builtin.Range.rangeSize
  rw [if_pos (by decide)]
  split <;> omega
theorem line_le {n : Nat} (h : n ≤ 1000) : n ≤ sizeLine := Nat.le_trans h (by rw [sizeLine_eq]; decide)
theorem hz_le {α : Type} {l : List α} (h : l.length ≤ 1000) : l.toArray.size ≤ sizeLine := by rw [List.size_toArray]; exact line_le h

end
noncomputable section
/-- what a def does that may change the objects S, and nothing else that stands -/
noncomputable def Mut (K : Params → Frag) (prog : Program) (f need : Nat) (args : Args) (S : List (Addr × Obj)) (pre : World → Heap → Prop) (R : Value → List (Addr × Obj) → Prop) : Prop :=
  ∀ (w : World) (p : Program) (loose : List Str) (mean : ExcName → Option Value) (mg mb : Str → Option Value) (dp un : Nat) (fr : Option (List Env)) (gd : Option (List Code)) (s : Shared) (Q E : Value → Shared → Prop),
    (∀ q ∈ S, s.heap.get? q.1 = some q.2) → (K w.params).In (hideAll s.heap (S.map (·.1))) → Top p loose mean mg mb (hideAll s.heap (S.map (·.1))) → pre w s.heap → dp + need < recursionLimit → un + 8 * need < cLine →
    (∀ r h' tk' S', (∀ b o, s.heap.get? b = some o → b ∉ S.map (·.1) → h'.get? b = some o) → (∀ q ∈ S', h'.get? q.1 = some q.2 ∧ (q.1 ∈ S.map (·.1) ∨ s.heap.get? q.1 = none)) → R r S' → Q r { s with heap := h', toks := tk' }) →
    wpAny (model prog w) (Ar dp un fr gd) (call (.ref f) args.pos args.kw) Q E s
theorem Mut.use {K : Params → Frag} {prog : Program} {f need : Nat} {args : Args} {S : List (Addr × Obj)} {pre : World → Heap → Prop} {R : Value → List (Addr × Obj) → Prop} (C : Mut K prog f need args S pre R) (rest : List (Addr × Obj)) {w : World} {p : Program} {loose : List Str} {mean : ExcName → Option Value} {mg mb : Str → Option Value}
    {dp un : Nat} {fr : Option (List Env)} {gd : Option (List Code)} {s : Shared} {Q E : Value → Shared → Prop} {h₀ : Heap} {L : Addr} {m : Str → Option Value} {news : List (Addr × Obj)}
    (F : Fr h₀ L s.heap m) (X : (K w.params).In h₀) (N : News h₀ L s.heap news) (T : Top p loose mean mg mb h₀) (hS : ∀ q ∈ S, q ∈ news) (hr : ∀ q ∈ rest, q ∈ news ∧ q.1 ∉ S.map (·.1)) (hp : pre w s.heap) (hd : dp + need < recursionLimit) (hu : un + 8 * need < cLine)
    (hret : ∀ r h' tk' S', Fr h₀ L h' m → News h₀ L h' (S' ++ rest) → (∀ b o, s.heap.get? b = some o → b ∉ S.map (·.1) → h'.get? b = some o) → R r S' → Q r { s with heap := h', toks := tk' }) :
    wpAny (model prog w) (Ar dp un fr gd) (call (.ref f) args.pos args.kw) Q E s := by
  have nm : ∀ b o, h₀.get? b = some o → b ∉ S.map (·.1) := fun b o e q => by
    obtain ⟨x, hx, rfl⟩ := List.mem_map.mp q
    rw [(N x (hS x hx)).2.2] at e; cases e
  have st : h₀.StaysIn (hideAll s.heap (S.map (·.1))) := fun b o e => hideAll_get _ (F.keep b o e) (nm b o e)
  have nL : L ∉ S.map (·.1) := fun q => by
    obtain ⟨x, hx, e⟩ := List.mem_map.mp q
    exact (N x (hS x hx)).2.1 e
  refine C w p loose mean mg mb dp un fr gd s Q E (fun q hq => (N q (hS q hq)).1) (X.keeps st) (T.keeps st) hp hd hu fun r h' tk' S' hk hS' hR => hret r h' tk' S' ?_ (fun q hq => ?_) hk hR
  · obtain ⟨oL, es, ep, hL, hLd, hLk, hLf⟩ := F.ns
    exact ⟨⟨oL, es, ep, hk _ _ hL nL, hLd, hLk, hLf⟩, fun b o e => hk b o (F.keep b o e) (nm b o e), F.above⟩
  · rcases List.mem_append.mp hq with hq | hq
    · have h1 := hS' q hq
      refine ⟨h1.1, ?_, ?_⟩
      · rintro rfl
        rcases h1.2 with h2 | h2
        · exact nL h2
        · obtain ⟨oL, es, ep, hL, _⟩ := F.ns
          rw [hL] at h2; cases h2
      · rcases h1.2 with h2 | h2
        · obtain ⟨x, hx, e⟩ := List.mem_map.mp h2
          rw [← e]; exact (N x (hS x hx)).2.2
        · cases e : h₀.get? q.1 with
          | none => rfl
          | some o => rw [F.keep _ _ e] at h2; cases h2
    · have h1 := hr q hq
      exact ⟨hk _ _ (N q h1.1).1 h1.2, (N q h1.1).2⟩
/-- the end of such a def: what stands in its base and its ledger -/
theorem Mut.end {s : Shared} {S S' news : List (Addr × Obj)} {g h' : Heap} {L : Addr} {m : Str → Option Value} (hg : ∀ b o, s.heap.get? b = some o → b ∉ S.map (·.1) → g.get? b = some o) (F : Fr g L h' m) (N : News g L h' news) (h : ∀ q ∈ S', q ∈ news) :
    (∀ b o, s.heap.get? b = some o → b ∉ S.map (·.1) → h'.get? b = some o) ∧ (∀ q ∈ S', h'.get? q.1 = some q.2 ∧ (q.1 ∈ S.map (·.1) ∨ s.heap.get? q.1 = none)) := by
  refine ⟨fun b o e hb => F.keep b o (hg b o e hb), fun q hq => ⟨(N q (h q hq)).1, ?_⟩⟩
  cases e : s.heap.get? q.1 with
  | none => exact .inr rfl
  | some o =>
    refine .inl (Decidable.byContradiction fun hb => ?_)
    have := hg q.1 o e hb
    rw [(N q (h q hq)).2.2] at this; cases this
theorem ret_mut {s : Shared} {S news : List (Addr × Obj)} {g h' : Heap} {L : Addr} {m : Str → Option Value} {Q : Value → Shared → Prop} {R : Value → List (Addr × Obj) → Prop} {r : Value} {tk' : Nat}
    (hret : ∀ r h' tk' S', (∀ b o, s.heap.get? b = some o → b ∉ S.map (·.1) → h'.get? b = some o) → (∀ q ∈ S', h'.get? q.1 = some q.2 ∧ (q.1 ∈ S.map (·.1) ∨ s.heap.get? q.1 = none)) → R r S' → Q r { s with heap := h', toks := tk' })
    (hg : ∀ b o, s.heap.get? b = some o → b ∉ S.map (·.1) → g.get? b = some o) (F : Fr g L h' m) (N : News g L h' news) (hR : R r news) : Q r { s with heap := h', toks := tk' } :=
  hret r h' tk' news (Mut.end hg F N fun q hq => hq).1 (Mut.end hg F N fun q hq => hq).2 hR
section
variable {h h' h₀ : Heap} {L : Addr} {m : Str → Option Value} {news S S' rest : List (Addr × Obj)}
theorem mut_fore (F : Fr h₀ L h m) (N : News h₀ L h news) (hS : ∀ q ∈ S, q ∈ news) : h₀.StaysIn (hideAll h (S.map (·.1))) := fun b o e => hideAll_get _ (F.keep b o e) (fun q => by
    obtain ⟨x, hx, rfl⟩ := List.mem_map.mp q
    rw [(N x (hS x hx)).2.2] at e; cases e)
theorem mut_back (F : Fr h₀ L h m) (N : News h₀ L h news) (hS : ∀ q ∈ S, q ∈ news) (hr : ∀ q ∈ rest, q ∈ news ∧ q.1 ∉ S.map (·.1))
    (hk : ∀ b o, h.get? b = some o → b ∉ S.map (·.1) → h'.get? b = some o) (hS' : ∀ q ∈ S', h'.get? q.1 = some q.2 ∧ (q.1 ∈ S.map (·.1) ∨ h.get? q.1 = none)) : Fr h₀ L h' m ∧ News h₀ L h' (S' ++ rest) := by
  have nm : ∀ b o, h₀.get? b = some o → b ∉ S.map (·.1) := fun b o e q => by
    obtain ⟨x, hx, rfl⟩ := List.mem_map.mp q
    rw [(N x (hS x hx)).2.2] at e; cases e
  have nL : L ∉ S.map (·.1) := fun q => by
    obtain ⟨x, hx, e⟩ := List.mem_map.mp q
    exact (N x (hS x hx)).2.1 e
  refine ⟨?_, fun q hq => ?_⟩
  · obtain ⟨oL, es, ep, hL, hLd, hLk, hLf⟩ := F.ns
    exact ⟨⟨oL, es, ep, hk _ _ hL nL, hLd, hLk, hLf⟩, fun b o e => hk b o (F.keep b o e) (nm b o e), F.above⟩
  · rcases List.mem_append.mp hq with hq | hq
    · have h1 := hS' q hq
      refine ⟨h1.1, ?_, ?_⟩
      · rintro rfl
        rcases h1.2 with h2 | h2
        · exact nL h2
        · obtain ⟨oL, es, ep, hL, _⟩ := F.ns
          rw [hL] at h2; cases h2
      · rcases h1.2 with h2 | h2
        · obtain ⟨x, hx, e⟩ := List.mem_map.mp h2
          rw [← e]; exact (N x (hS x hx)).2.2
        · cases e : h₀.get? q.1 with
          | none => rfl
          | some o => rw [F.keep _ _ e] at h2; cases h2
    · have h1 := hr q hq
      exact ⟨hk _ _ (N q h1.1).1 h1.2, (N q h1.1).2⟩
end

section
variable {prog : Program} {w : World} {A : Around} {s : Shared} {K : Frag} {p : Program} {loose : List Str} {mean : ExcName → Option Value} {mg mb : Str → Option Value} {Q E : Value → Shared → Prop}
  {name qual : Str} {params : Arguments} {body : List Stmt} {scope : Scope} {dV kV doc pm cdv ct oc : Value} {an od : Option Addr} {osl : Array (Option Value)} {f : Addr} {args : Args} {binds : Addr → List (Str × Value)}
end

end
noncomputable section
namespace Re
open PySem.Builtin.Re
theorem slot_search : Slot "re.Pattern" "search" "re.Pattern.search" :=
  .of (owner := "re.Pattern") (n := "search") (by rw [typeLookup_type, builtinLookup_eq_fast]; kernel_rfl) (by decide +kernel) (by decide +kernel) (by decide +kernel)
    (by first | exact .inl (by decide +kernel) | exact .inr (by decide +kernel)) (by rw [isSubtype_type]; kernel_rfl)
theorem type_search : typeOf (.builtin "re.Pattern.search") = pure (.type "method_descriptor") := by show builtinType _ = _; rw [builtinType_eq_fast]; kernel_rfl
theorem entry_search : entryFor table "re.Pattern.search" = some Builtin.«re.Pattern.search» := entryFor_of_tree (by kernel_rfl)
theorem args_search (a b : Value) : argsOk "re.Pattern.search" ⟨[a, b], []⟩ := by unfold argsOk; kernel_rfl

theorem admitted_none (m : Sre.M) (hset : ∀ s, s < m.lim → ∀ seen, ∃ seen', Sre.inSet m.code (m.text.getD s 0) m.code.size 5 true seen = .ok (false, seen')) : ∀ fuel s seen, ∃ seen', Sre.M.admitted m fuel s seen = .ok (none, seen')
  | 0, s, seen => ⟨seen, rfl⟩
  | fuel + 1, s, seen => by
    unfold Sre.M.admitted
    by_cases h : s ≥ m.lim
    · rw [if_pos h]; exact ⟨seen, rfl⟩
    · rw [if_neg h]
      obtain ⟨s1, e1⟩ := hset s (by omega) seen
      obtain ⟨s2, e2⟩ := admitted_none m hset fuel (s + 1) s1
      exact ⟨s2, by rw [e1]; exact e2⟩
theorem not_else {code text : Array Nat} (hset : ∀ s, s < text.size → ∀ seen, ∃ seen', Sre.inSet code (text.getD s 0) code.size 5 true seen = .ok (false, seen')) {m : Sre.M} {fuel s : Nat} {seen : Sre.Seen} {r : Except String (Option Nat × Sre.Seen)}
    (e : Sre.M.admitted m fuel s seen = r) (hc : m.code = code) (ht : m.text = text) (hl : m.lim = text.size) : ∃ seen', r = .ok (none, seen') := by
  obtain ⟨s', e'⟩ := admitted_none m (by rw [hc, ht, hl]; exact hset) fuel s seen
  exact ⟨s', by rw [← e, e']⟩
theorem say_run (m : Sre.M) (ha : m.answer = some false) (hf : m.frames = []) (ho : m.outcome = none) : (m.runFor 4).outcome = some .failed := by
  have e : m.step = { m with outcome := some .failed } := by
    unfold Sre.M.step
    rw [ho]
    simp only [Option.isSome_none, Bool.false_eq_true, if_false, ha, hf]
  show (if m.outcome.isSome then m else Sre.M.runFor 3 m.step).outcome = _
  rw [ho, if_neg (by simp), e]
  rfl
theorem search_none (code text : Array Nat) (h0 : code.getD 0 0 = 14) (h2 : code.getD 2 0 = 4) (h3 : code.getD 3 0 = 1)
    (hset : ∀ s, s < text.size → ∀ seen, ∃ seen', Sre.inSet code (text.getD s 0) code.size 5 true seen = .ok (false, seen')) :
    ((Sre.forSearch code text 0 0 text.size false).runFor 4).outcome = some .failed := by
  have e0 : Sre.ops[code.getD 0 0]? = some .INFO := by rw [h0]; rfl
  have eh : Sre.header code = (1, 1 + code.getD 1 0) := by unfold Sre.header; rw [e0]; simp only [h3]
  unfold Sre.forSearch
  simp only [eh]
  split
  · exact say_run _ rfl rfl rfl
  · have ef : ∀ m : Sre.M, m.code = code → m.hasFirstSet = true := by
      intro m hm; unfold Sre.M.hasFirstSet; rw [hm, e0, h2]; rfl
    unfold Sre.M.attemptFrom
    rw [ef _ rfl]
    simp only [Bool.not_true, Bool.false_eq_true, if_false]
    split
    · rename_i s seen e
      obtain ⟨_, e'⟩ := not_else hset e rfl rfl rfl
      cases e'
    · exact say_run _ rfl rfl rfl
    · rename_i why e
      obtain ⟨_, e'⟩ := not_else hset e rfl rfl rfl
      cases e'
theorem drive_of (m : Sre.M) (h : (m.runFor 4).outcome = some .failed) : ∀ n, n ≠ 0 → reDrive n m = pure (m.runFor 4)
  | 0, h0 => absurd rfl h0
  | n + 1, _ => by
    unfold reDrive
    show (if (m.runFor 4).outcome.isSome then pure (m.runFor 4) else _) = _
    rw [h]; rfl
section
variable {prog : Program} {w : World} {A : Around} {E : Value → Shared → Prop} {s : Shared}
theorem run_none {m : Sre.M} {Q : Option Sre.M → Shared → Prop} (h : (m.runFor 4).outcome = some .failed) (hQ : Q none s) : wpAny (model prog w) A (reRunToEnd m) Q E s := by
  unfold reRunToEnd
  rw [drive_of m h (2 ^ 64) (by decide)]
  refine wpAny_bind (wpAny_pure (wpAny_bind ?_))
  refine wpAny_forIn_list _ (fun _ _ s' => s' = s) _ (fun i rest b s' hs => ?_) (fun b s' hs => ?_) _ _ rfl
  · subst hs
    split
    · exact wpAny_bind (wpAny_rule (wpAny_pure rfl))
    · exact wpAny_pure rfl
  · subst hs
    rw [h]
    exact wpAny_pure hQ
theorem search_rule {P T : Addr} {dP dT : Option Addr} {sP sT : Array (Option Value)} {v0 v1 v3 v4 : Value} {t2 t6 : Tok} {items : Array Value} {n : Nat} {x : List Nat} {t : Tok} {code : Array Nat} {Q : Value → Shared → Prop}
    (hP : s.heap.get? P = some ⟨.type "re.Pattern", dP, .fields #[v0, v1, .int 0 t2, v3, v4, .ref T, .int 0 t6], sP⟩) (hT : s.heap.get? T = some ⟨.type "tuple", dT, .seq items n, sT⟩)
    (hc : (items.map reRawOf).map (·.toNat) = code) (h0 : code.getD 0 0 = 14) (h2 : code.getD 2 0 = 4) (h3 : code.getD 3 0 = 1)
    (hset : ∀ c ∈ x, ∀ seen, ∃ seen', Sre.inSet code c code.size 5 true seen = .ok (false, seen')) (hx : x.length ≤ 1000) (hQ : Q .none s) :
    wpAny (model prog w) A (call (.builtin "re.Pattern.search") [.ref P, .str (sl x) t]) Q E s := by
  refine wpAny_call_entry slot_search ⟨_, hP, rfl⟩ entry_search ?_ (args_search _ _)
  have hn : reNamed "re.Pattern.search" "search" ["string", "pos", "endpos"] 1 [.str (sl x) t] [] = pure [some (.str (sl x) t), none, none] := by rfl
  unfold Builtin.«re.Pattern.search»
  refine wpAny_bind ?_
  unfold reTarget
  dsimp only
  rw [hn]
  refine wpAny_bind (wpAny_pure ?_)
  dsimp only
  refine wpAny_bind (wpAny_pure (wpAny_bind (wpAny_pure (wpAny_bind (wpAny_fieldsOf hP rfl ?_)))))
  have ht : reTextOf (.str (sl x) t) = pure ((sl x).cps, 0) := rfl
  rw [ht]
  refine wpAny_bind (wpAny_pure ?_)
  dsimp only
  refine wpAny_ite ?_
  rw [if_neg (by simp)]
  refine wpAny_bind (wpAny_pure ?_)
  have hi : wpAny (model prog w) A.in1 (reRawItems (.ref T)) (fun v s' => v = items.map reRawOf ∧ s' = s) E s := by
    unfold reRawItems
    exact wpAny_bind (wpAny_seqItems hT rfl (wpAny_pure ⟨rfl, rfl⟩))
  refine wpAny_bind (wpAny_mono hi (fun v s' ⟨hv, hs⟩ => ?_) fun _ _ x => x)
  subst hv hs
  refine wpAny_pure ?_
  rw [hc]
  have hl : min (2 ^ 63 - 1 : Int).toNat (sl x).cps.size = (sl x).cps.size := by
    have : (sl x).cps.size = x.length := by simp [sl]
    omega
  have h00 : min (0 : Int).toNat (sl x).cps.size = 0 := by simp
  rw [hl, h00]
  unfold reAnswer
  refine wpAny_bind (run_none (search_none code (sl x).cps h0 h2 h3 fun i hi seen => ?_) ?_)
  · have hi' : i < x.length := by simpa [sl] using hi
    have e : (sl x).cps.getD i 0 = x[i] := by simp [sl, hi']
    rw [e]
    exact hset _ (List.getElem_mem _) seen
  · exact wpAny_pure ⟨_, rfl, hQ⟩
end
end Re
namespace Re
noncomputable def nameCode : Array Nat := #[14, 10, 4, 1, 1, 22, 0, 31, 16, 127, 0, 13, 7, 22, 0, 31, 16, 127, 0, 1]
noncomputable def valueCode : Array Nat := #[14, 14, 4, 1, 1, 9, 4294966783, 0, 0, 2147483648, 0, 0, 0, 0, 0, 13, 11, 9, 4294966783, 0, 0, 2147483648, 0, 0, 0, 0, 0, 1]
theorem name_ok (c : Nat) (h1 : 32 ≤ c) (h2 : c < 127) (seen : Sre.Seen) : ∃ seen', Sre.inSet nameCode c nameCode.size 5 true seen = .ok (false, seen') := by
  have e1 : (decide (0 ≤ c) && decide (c ≤ 31)) = false := by simp; omega
  have e2 : (c == 127) = false := by simp; omega
  refine ⟨((seen.add 22).add 16).add 0, ?_⟩
  show (if (decide (0 ≤ c) && decide (c ≤ 31)) = true then _ else if (c == 127) = true then _ else _) = _
  rw [e1, e2]; rfl
theorem value_ok (c : Nat) (h1 : 32 ≤ c) (h2 : c < 127) (seen : Sre.Seen) : ∃ seen', Sre.inSet valueCode c valueCode.size 5 true seen = .ok (false, seen') := by
  have e1 : (valueCode.getD (5 + (1 + c / 32)) 0).testBit (c % 32) = false := by
    have h3 : c / 32 = 1 ∨ c / 32 = 2 ∨ c / 32 = 3 := by omega
    rcases h3 with e | e | e
    · rw [e]; show Nat.testBit 0 _ = false; exact Nat.zero_testBit _
    · rw [e]; show Nat.testBit 0 _ = false; exact Nat.zero_testBit _
    · rw [e]
      show Nat.testBit (2 ^ 31) _ = false
      rw [Nat.testBit_two_pow_of_ne]
      omega
  refine ⟨(seen.add 9).add 0, ?_⟩
  show (if (decide (c < 256) && (valueCode.getD (5 + (1 + c / 32)) 0).testBit (c % 32)) = true then _ else _) = _
  rw [e1, Bool.and_false]; rfl
end Re
namespace Re
open PySem.Builtin.Re
theorem plainAttrs_re : PlainAttrs "re.Pattern" :=
  ⟨⟨"object.__getattribute__", by rw [typeLookup_type, builtinLookup_eq_fast]; kernel_rfl, by decide +kernel⟩, by rw [typeLookup_type, builtinLookup_eq_fast]; kernel_rfl⟩
section
variable {prog : Program} {w : World} {A : Around} {E : Value → Shared → Prop} {s : Shared}
theorem method_K {K : Frag} {P : Addr} {sP : Array (Option Value)} {pl : Data} {Q : Value × List Value → Shared → Prop} {more : Sem Bool} (X : K.In s.heap) (hk : K.lookup P = some ⟨.type "re.Pattern", none, pl, sP⟩)
    (h : Q (.builtin "re.Pattern.search", [.ref P]) s) : wpAny (model prog w) A (getMethod (.ref P) (Str.ofString "search") more) Q E s :=
  getMethod_builtin ⟨_, X _ _ hk, rfl⟩ plainAttrs_re slot_search type_search (fun a e => by cases e; exact ⟨_, X _ _ hk, rfl⟩) h
theorem search_K {K : Frag} {P T : Addr} {dP dT : Option Addr} {sP sT : Array (Option Value)} {v0 v1 v3 v4 : Value} {t2 t6 : Tok} {items : Array Value} {n : Nat} {x : List Nat} {t : Tok} {Q : Value → Shared → Prop} (X : K.In s.heap)
    (hP : K.lookup P = some ⟨.type "re.Pattern", dP, .fields #[v0, v1, .int 0 t2, v3, v4, .ref T, .int 0 t6], sP⟩) (hT : K.lookup T = some ⟨.type "tuple", dT, .seq items n, sT⟩)
    (hc' : (items.toList.map fun v => (reRawOf v).toNat) = nameCode.toList ∨ (items.toList.map fun v => (reRawOf v).toNat) = valueCode.toList)
    (hset : ∀ c ∈ x, 32 ≤ c ∧ c < 127) (hx : x.length ≤ 1000) (hQ : Q .none s) :
    wpAny (model prog w) A (call (.builtin "re.Pattern.search") [.ref P, .str (sl x) t]) Q E s := by
  have hc : (items.map reRawOf).map (·.toNat) = nameCode ∨ (items.map reRawOf).map (·.toNat) = valueCode := by
    rcases hc' with h | h
    · exact .inl (Array.toList_inj.mp (by simp only [Array.toList_map, List.map_map]; exact h))
    · exact .inr (Array.toList_inj.mp (by simp only [Array.toList_map, List.map_map]; exact h))
  rcases hc with hc | hc
  · exact search_rule (X _ _ hP) (X _ _ hT) hc rfl rfl rfl (fun c h => name_ok c (hset c h).1 (hset c h).2) hx hQ
  · exact search_rule (X _ _ hP) (X _ _ hT) hc rfl rfl rfl (fun c h => value_ok c (hset c h).1 (hset c h).2) hx hQ
end
end Re

end
noncomputable section
/-- what a block's turns go through: the iterator I, what it changes (wr), what it reads (fp) -/
structure Wk (prog : Program) (w : World) (A : Around) (target : Expr) (I : Addr) (fp wr : List Addr) (n : Nat) (P : Nat → Value → Heap → Prop) (St : Nat → Heap → Prop) : Prop where
  frame : ∀ i h h', St i h → (∀ b ∈ fp, ∀ o, h.get? b = some o → h'.get? b = some o) → St i h'
  own : ∀ i h, St i h → ∀ b ∈ wr, ∃ o, h.get? b = some o
  item : ∀ i (s : Shared) (Q : Value → Shared → Prop) (Z : Shared → Prop) (E : Value → Shared → Prop), i < n → St i s.heap →
    (∀ v h' tk, P i v h' → St (i + 1) h' → (∀ b o, b ∉ wr → s.heap.get? b = some o → h'.get? b = some o) → Q v { s with heap := h', toks := tk }) →
    wpAny (model prog w) A (pyNext (.ref I)) (fun r s₁ => match r with | none => Z s₁ | some v => wpAny (model prog w) A (letOwnedTupleGo target (.ref I) v) (fun _ s₂ => Q v s₂) E s₁) E s
  done : ∀ (s : Shared) (Q : Option Value → Shared → Prop) (E : Value → Shared → Prop), St n s.heap →
    (∀ h' tk, (∀ b o, b ∉ wr → s.heap.get? b = some o → h'.get? b = some o) → Q none { s with heap := h', toks := tk }) → wpAny (model prog w) A (pyNext (.ref I)) Q E s
  self : ∀ i (s : Shared) (Q : Value → Shared → Prop) (E : Value → Shared → Prop), St i s.heap → Q (.ref I) s → wpAny (model prog w) A (pyIter (.ref I)) Q E s

section
variable {prog : Program} {w : World} {A : Around} {E : Value → Shared → Prop} {R : Result → Shared → Prop} {s : Shared}
noncomputable abbrev testsOf (ifs : List Expr) (env : Env) : Sem Bool := forIn ifs true fun c r => if r = true then do let ok ← isTrue c env (eval c env); pure (ForInStep.yield ok) else pure (ForInStep.yield r)

theorem compLoop_any {elt target iter : Expr} {ifs : List Expr} {scope : Scope} {pos : Pos} {it acc : Value} {env : Env} (I : Nat → Shared → Prop)
    (turn : ∀ n s, I n s → wpAny (model prog w) A (pyNext it) (fun r s₁ => match r with
      | none => R (.ok .next) s₁
      | some v => wpAny (model prog w) A (letOwnedTupleGo target it v) (fun _ s₁' => wpAny (model prog w) A (assign target env v) (fun _ s₂ =>
          wpAny (model prog w) A (testsOf ifs env) (fun ok s₃ =>
            if ok = true then wpAny (model prog w) A (eval elt env) (fun x s₄ =>
              wpAny (model prog w) A (call (.builtin "list.append") [acc, x]) (fun _ s₅ => ∃ m, m < n ∧ I m s₅) (fun _ _ => False) s₄) (fun _ _ => False) s₃
            else ∃ m, m < n ∧ I m s₃) (fun _ _ => False) s₂) (fun _ _ => False) s₁') (fun _ _ => False) s₁) (fun _ _ => False) s)
    (n : Nat) (h : I n s) : codeAny (model prog w) A (.compLoop (.ListComp elt [⟨target, iter, ifs, 0⟩] scope pos) 0 it acc env) R s := by
  refine codeAny_loop rfl I (fun n s hI => ?_) n h
  show wpAny _ A ((compTurn (.ListComp elt [⟨target, iter, ifs, 0⟩] scope pos) 0 it acc env).onRaise (fun x => do noteFrame x env; theTreesLotGoes x)) _ _ s
  refine wpAny_noted ?_
  rw [compTurn_list]
  refine wpAny_bind (wpAny_standAt (wpAny_bind (wpAny_mono (turn n s hI) (fun r s₁ h₁ => ?_) fun _ _ h' => h'.elim)))
  cases r with
  | none => exact wpAny_pure h₁
  | some v =>
    refine wpAny_bind (wpAny_mono h₁ (fun _ s₁' h₁' => ?_) fun _ _ h' => h'.elim)
    refine wpAny_bind (wpAny_mono h₁' (fun _ s₂ h₂ => wpAny_bind (wpAny_mono h₂ (fun ok s₃ h₃ => ?_) fun _ _ h' => h'.elim)) fun _ _ h' => h'.elim)
    cases ok with
    | false => exact wpAny_pure ⟨rfl, h₃⟩
    | true =>
      exact wpAny_bind (wpAny_bind (wpAny_mono h₃ (fun x s₄ h₄ => wpAny_bind (wpAny_mono h₄ (fun _ s₅ h₅ => wpAny_pure (wpAny_pure ⟨rfl, h₅⟩)) fun _ _ h' => h'.elim)) fun _ _ h' => h'.elim))

/-- a block's frame with its cells -/
theorem newEnv_cells {scope : Scope} {globals : Addr} {cl : List (Str × Addr)} {qual : Str} {env : Env} {Q : Env → Shared → Prop}
    (hQ : ∀ h', s.heap.StaysIn h' → h'.Ns s.heap.objs.size (fun _ => none) → (∀ n c, (n, c) ∈ cellsFrom (s.heap.objs.size + 1) scope.names [] → h'.IsCell c none ∧ s.heap.objs.size < c) →
      Q { scope, locals := s.heap.objs.size, globals, cells := cellsFrom (s.heap.objs.size + 1) scope.names cl, qual, func := none, code := env.code, frame := env.frame, builtins := env.builtins } { s with heap := h' }) :
    wpAny (model prog w) A (newFunctionEnv scope globals cl [] qual none .none (some env)) Q E s := by
  simp only [newFunctionEnv, Option.isSome_some, if_true]
  refine wpAny_bind (wpAny_alloc ?_)
  refine wpAny_bind (wpAny_layCells _ (fun name kind cells => by cases hkc : kind == NameKind.cell <;> simp [hkc]) _ _ _ _ ?_)
  have ok := cellsFrom_ok scope.names (s.heap.push { cls := .type "dict", data := .dict #[] }) (s.heap.objs.size + 1) [] ⟨fun _ _ hm => (nomatch hm), List.Pairwise.nil⟩ (by rw [Heap.size_push]; exact Nat.le_refl _)
  rw [Heap.size_push] at ok
  rw [show ({ s with heap := s.heap.push { cls := .type "dict", data := .dict #[] } } : Shared).heap.objs.size = s.heap.objs.size + 1 from Heap.size_push ..]
  refine wpAny_bind ?_
  rw [List.forIn_nil]
  refine wpAny_pure (wpAny_pure (hQ _ ?_ ?_ ?_))
  · exact fun b o e => pushCells_keeps _ _ b o (Heap.get?_push_of_some _ e)
  · exact (Heap.Ns.new s.heap (.type "dict")).keeps (pushCells_keeps _ _)
  · exact fun n c hm => ⟨(ok.empty n c hm).1, (ok.empty n c hm).2⟩
end

/-- the end of a block's turn -/
noncomputable def CEnd (g : Heap) (C : Addr) (s : Shared) (rest : List (Addr × Obj)) (J : (Str → Option Value) → List (Addr × Obj) → Prop) (s' : Shared) : Prop :=
  E4 fun h' tk' m' nw' => A5 (s' = { s with heap := h', toks := tk' }) (Fr g C h' m') (News g C h' (nw' ++ rest)) (∀ p ∈ nw', ∀ q ∈ rest, p.1 ≠ q.1) (J m' nw')

section
variable {prog : Program} {w : World} {A : Around} {E : Value → Shared → Prop} {s : Shared}
theorem objs_of {h : Heap} : ∀ {wr : List Addr}, (∀ b ∈ wr, ∃ o, h.get? b = some o) → ∃ ws : List (Addr × Obj), ws.map (·.1) = wr ∧ ∀ p ∈ ws, h.get? p.1 = some p.2
  | [], _ => ⟨[], rfl, fun _ h => nomatch h⟩
  | b :: r, hx => by
    obtain ⟨o, e⟩ := hx b (.head _)
    obtain ⟨ws, e1, e2⟩ := objs_of (wr := r) fun c hc => hx c (.tail _ hc)
    refine ⟨(b, o) :: ws, by simp [e1], fun p hp => ?_⟩
    rcases List.mem_cons.mp hp with rfl | hp
    · exact e
    · exact e2 p hp
theorem cellsAre_mem {cm : Str → Option Value} {cs : List (Str × Addr)} {cells : List (Addr × Obj)} (Y : CellsAre cm cs cells) : ∀ p ∈ cells, ∃ n, (n, p.1) ∈ cs := by
  induction Y with
  | nil => intro p h; cases h
  | cons _ _ ih =>
    intro p h
    rcases List.mem_cons.mp h with rfl | h
    · exact ⟨_, .head _⟩
    · obtain ⟨n', h'⟩ := ih p h
      exact ⟨n', .tail _ h'⟩
/-- a list comprehension's block, by turns; g is what stands -/
theorem comp_block {elt target iter : Expr} {ifs : List Expr} {scope : Scope} {cl : List (Str × Addr)} {pos : Pos} {env : Env} {I : Addr} {fp wr : List Addr} {n : Nat} {P : Nat → Value → Heap → Prop} {St : Nat → Heap → Prop} {g : Heap}
    {RR : Value → Addr → Result → Shared → Prop} (W : Wk prog w A target I fp wr n P St) (hsz : n ≤ sizeLine) (hst : St 0 s.heap) (hg : g.StaysIn s.heap) (hgs : g.objs.size ≤ s.heap.objs.size)
    (hwr : ∀ b ∈ wr, g.get? b = none ∧ b < s.heap.objs.size) (hfp : ∀ b ∈ fp, b ∈ wr ∨ ∃ o, g.get? b = some o) (hkind : scope.kind = .function)
    (J : Addr → Nat → List Value → (Str → Option Value) → List (Addr × Obj) → Prop) (h0 : ∀ C cells, g.objs.size ≤ C → CellsAre (fun _ => none) (cellsFrom (C + 1) scope.names []) cells → J C 0 [] (fun _ => none) cells)
    (step : ∀ C i v ys m nw rest h tk, i < n → J C i ys m nw → P i v h → Fr g C h m → News g C h (nw ++ rest) → (∀ p ∈ nw, ∀ q ∈ rest, p.1 ≠ q.1) →
      wpAny (model prog w) A (assign target (compEnvC scope (cellsFrom (C + 1) scope.names cl) C env) v) (fun _ s₂ =>
        wpAny (model prog w) A (testsOf ifs (compEnvC scope (cellsFrom (C + 1) scope.names cl) C env)) (fun ok s₃ =>
          if ok = true then wpAny (model prog w) A (eval elt (compEnvC scope (cellsFrom (C + 1) scope.names cl) C env)) (fun y => CEnd g C s rest (J C (i + 1) (ys ++ [y]))) (fun _ _ => False) s₃
          else CEnd g C s rest (J C (i + 1) ys) s₃) (fun _ _ => False) s₂) (fun _ _ => False) { s with heap := h, toks := tk })
    (hRR : ∀ D C ys m nw h tk, J C n ys m nw → Fr g C h m → News g C h (nw ++ [(D, LCg.lst ys)]) → (∀ p ∈ nw, p.1 ≠ D) → C ≠ D → s.heap.objs.size ≤ C → s.heap.objs.size ≤ D → RR (.ref D) C (.ok .next) { s with heap := h, toks := tk }) :
    wpAny (model prog w) A (newList []) (fun acc s₃ => wpAny (model prog w) A (newFunctionEnv scope env.globals cl [] env.qual none .none (some env)) (fun cenv s₄ =>
      codeAny (model prog w) A (.compStart (.ListComp elt [⟨target, iter, ifs, 0⟩] scope pos) 0 (.ref I) acc { cenv with scope := relabel scope env }) (RR acc cenv.locals) s₄) E s₃) E s := by
  have fresh : ∀ a, s.heap.objs.size ≤ a → g.get? a = none := fun a ha => Heap.get?_none_of_le (Nat.le_trans hgs ha)
  refine wpAny_newObj_type (newEnv_cells fun h₁ hk₁ hns₁ hc₁ => ?_)
  dsimp only at hk₁ hns₁ hc₁ ⊢
  have hDo : h₁.get? s.heap.objs.size = some (LCg.lst []) := hk₁ _ _ (Heap.get?_push_size _ rfl)
  have hk₀ : s.heap.StaysIn h₁ := fun b o e => hk₁ b o (Heap.get?_push_of_some _ e)
  rw [Heap.size_push] at hns₁ hc₁ ⊢
  generalize hD : s.heap.objs.size = D at *
  have hst₁ : St 0 h₁ := W.frame _ _ _ hst fun b _ o e => hk₀ b o e
  obtain ⟨cells, N₁, hcl⟩ : ∃ cells, News g (D + 1) h₁ cells ∧ CellsAre (fun _ => none) (cellsFrom (D + 1 + 1) scope.names []) cells :=
    Cl.news (h₀ := g) (cm := fun _ => none) (Nat.le_trans hgs (Nat.le_succ D)) fun n c hm => ⟨(hc₁ n c hm).1, (hc₁ n c hm).2⟩
  have hcD : ∀ p ∈ cells, D + 1 < p.1 := fun p hp => by
    obtain ⟨n', hn'⟩ := cellsAre_mem hcl p hp
    exact (hc₁ n' p.1 hn').2
  have hg₁ : g.StaysIn h₁ := fun b o e => hk₀ b o (hg b o e)
  have hDw : D ∉ wr := fun hm => Nat.lt_irrefl _ (hwr _ hm).2
  have hCw : D + 1 ∉ wr := fun hm => Nat.lt_irrefl _ (Nat.lt_trans (hwr _ hm).2 (Nat.lt_succ_self D))
  have loop : codeAny (model prog w) A (.compLoop (.ListComp elt [⟨target, iter, ifs, 0⟩] scope pos) 0 (.ref I) (.ref D) (compEnvC scope (cellsFrom (D + 1 + 1) scope.names cl) (D + 1) env)) (RR (.ref D) (D + 1)) { s with heap := h₁ } := by
    refine compLoop_any (fun k s' => E7 fun i ys m nw ws h tk => A10 (s' = { s with heap := h, toks := tk }) (i ≤ n) (k = n + 1 - i) (ys.length ≤ i) (St i h) (ws.map (·.1) = wr) (Fr g (D + 1) h m) (News g (D + 1) h (nw ++ (ws ++ [(D, LCg.lst ys)]))) (∀ p ∈ nw, p.1 ∉ wr ∧ p.1 ≠ D) (J (D + 1) i ys m nw)) ?_ (n + 1) ?_
    · rintro k s' ⟨i, ys, m, nw, ws, h, tk, rfl, hi, rfl, hyl, hSt, hws, F, N, hoff, hJ⟩
      by_cases hlt : i < n
      · refine W.item i _ _ _ _ hlt hSt fun v h₂ tk₂ hP hSt₂ hk₂ => ?_
        dsimp only at hk₂
        have F₂ : Fr g (D + 1) h₂ m := by
          obtain ⟨oL, es, ep, hL, hLd, hLk, hLf⟩ := F.ns
          exact ⟨⟨oL, es, ep, hk₂ _ _ hCw hL, hLd, hLk, hLf⟩, fun b o e => hk₂ b o (fun hb => by rw [(hwr b hb).1] at e; cases e) (F.keep b o e), F.above⟩
        obtain ⟨ws₂, hws₂, hws₂e⟩ := objs_of (W.own _ _ hSt₂)
        have N₂ : News g (D + 1) h₂ (nw ++ (ws₂ ++ [(D, LCg.lst ys)])) := fun p hp => by
          rcases List.mem_append.mp hp with hp | hp
          · have z := N p (List.mem_append_left _ hp)
            exact ⟨hk₂ _ _ (hoff p hp).1 z.1, z.2⟩
          · rcases List.mem_append.mp hp with hp | hp
            · have hm : p.1 ∈ wr := hws₂ ▸ List.mem_map_of_mem hp
              exact ⟨hws₂e p hp, fun q => hCw (q ▸ hm), (hwr _ hm).1⟩
            · have z := N p (List.mem_append_right _ (List.mem_append_right _ hp))
              rw [List.mem_singleton.mp hp] at z ⊢
              exact ⟨hk₂ _ _ hDw z.1, z.2⟩
        have hoff₂ : ∀ p ∈ nw, ∀ q ∈ ws₂ ++ [(D, LCg.lst ys)], p.1 ≠ q.1 := fun p hp q hq => by
          rcases List.mem_append.mp hq with hq | hq
          · intro e; exact (hoff p hp).1 (e ▸ hws₂ ▸ List.mem_map_of_mem hq)
          · rw [List.mem_singleton.mp hq]; exact (hoff p hp).2
        refine wpAny_mono (step (D + 1) i v ys m nw (ws₂ ++ [(D, LCg.lst ys)]) h₂ tk₂ hlt hJ hP F₂ N₂ hoff₂) (fun _ s₂ h₂' => ?_) fun _ _ x => x
        refine wpAny_mono h₂' (fun ok s₃ h₃ => ?_) fun _ _ x => x
        have stepSt : ∀ h₄ m₄ nw₄, Fr g (D + 1) h₄ m₄ → News g (D + 1) h₄ (nw₄ ++ (ws₂ ++ [(D, LCg.lst ys)])) → St (i + 1) h₄ := fun h₄ m₄ nw₄ F₄ N₄ => W.frame _ _ _ hSt₂ fun b hb o e => by
          rcases hfp b hb with hb | ⟨o', ho'⟩
          · obtain ⟨q, hq, rfl⟩ := List.mem_map.mp (hws₂ ▸ hb : b ∈ ws₂.map (·.1))
            rw [hws₂e q hq] at e; cases e
            exact (N₄ q (List.mem_append_right _ (List.mem_append_left _ hq))).1
          · rw [F₂.keep b o' ho'] at e; cases e
            exact F₄.keep _ _ ho'
        have hoff₄ : ∀ nw₄ : List (Addr × Obj), (∀ p ∈ nw₄, ∀ q ∈ ws₂ ++ [(D, LCg.lst ys)], p.1 ≠ q.1) → ∀ p ∈ nw₄, p.1 ∉ wr ∧ p.1 ≠ D := fun nw₄ ho p hp =>
          ⟨fun hm => by
            obtain ⟨q, hq, e⟩ := List.mem_map.mp (hws₂ ▸ hm : p.1 ∈ ws₂.map (·.1))
            exact ho p hp q (List.mem_append_left _ hq) e.symm, ho p hp _ (List.mem_append_right _ (List.mem_singleton.mpr rfl))⟩
        cases ok with
        | false =>
          simp only [Bool.false_eq_true, if_false] at h₃ ⊢
          obtain ⟨h₄, tk₄, m₄, nw₄, rfl, F₄, N₄, o₄, J₄⟩ := h₃
          exact ⟨n + 1 - (i + 1), by omega, i + 1, ys, m₄, nw₄, ws₂, h₄, tk₄, rfl, hlt, rfl, Nat.le_succ_of_le hyl, stepSt _ _ _ F₄ N₄, hws₂, F₄, N₄, hoff₄ _ o₄, J₄⟩
        | true =>
          simp only [if_true] at h₃ ⊢
          refine wpAny_mono h₃ (fun y s₄ h₄ => ?_) fun _ _ x => x
          obtain ⟨h₄, tk₄, m₄, nw₄, rfl, F₄, N₄, o₄, J₄⟩ := h₄
          have zD := (N₄ (D, LCg.lst ys) (List.mem_append_right _ (List.mem_append_right _ (List.mem_singleton.mpr rfl)))).1
          have hD₀ : g.get? D = none := fresh D (Nat.le_refl _)
          refine append_at (hsz := by show ys.toArray.size ≤ sizeLine; rw [List.size_toArray]; omega) zD fun h₅ hs₅ hD₅ => ?_
          refine ⟨n + 1 - (i + 1), by omega, i + 1, ys ++ [y], m₄, nw₄, ws₂, h₅, tk₄, rfl, hlt, rfl, by rw [List.length_append, List.length_singleton]; omega, ?_, hws₂, F₄.change hs₅ (Nat.ne_of_lt (Nat.lt_succ_self D)) hD₀, fun p hp => ?_, hoff₄ _ o₄, J₄⟩
          · refine W.frame _ _ _ (stepSt _ _ _ F₄ N₄) fun b hb o e => hs₅.extBut b o (fun q => ?_) e
            rcases hfp b hb with hb | ⟨o', ho'⟩
            · exact hDw (q ▸ hb)
            · rw [q, hD₀] at ho'; cases ho'
          · rcases List.mem_append.mp hp with hp | hp
            · exact ⟨hs₅.extBut _ _ (hoff₄ _ o₄ p hp).2 (N₄ p (List.mem_append_left _ hp)).1, (N₄ p (List.mem_append_left _ hp)).2⟩
            · rcases List.mem_append.mp hp with hp | hp
              · have z := N₄ p (List.mem_append_right _ (List.mem_append_left _ hp))
                exact ⟨hs₅.extBut _ _ (fun q => hDw (q ▸ hws₂ ▸ List.mem_map_of_mem hp)) z.1, z.2⟩
              · rw [List.mem_singleton.mp hp]
                exact ⟨hD₅.trans (congrArg some (LCg.lst_snoc ys y)), by show D ≠ D + 1; omega, hD₀⟩
      · obtain rfl : i = n := Nat.le_antisymm hi (Nat.not_lt.mp hlt)
        refine W.done _ _ _ hSt fun h₂ tk₂ hk₂ => ?_
        dsimp only at hk₂
        refine hRR D (D + 1) ys m nw h₂ tk₂ hJ ?_ (fun p hp => ?_) (fun p hp => (hoff p hp).2) (Nat.succ_ne_self D) (Nat.le_succ D) (Nat.le_refl _)
        · obtain ⟨oL, es, ep, hL, hLd, hLk, hLf⟩ := F.ns
          exact ⟨⟨oL, es, ep, hk₂ _ _ hCw hL, hLd, hLk, hLf⟩, fun b o e => hk₂ b o (fun hb => by rw [(hwr b hb).1] at e; cases e) (F.keep b o e), F.above⟩
        · rcases List.mem_append.mp hp with hp | hp
          · have z := N p (List.mem_append_left _ hp)
            exact ⟨hk₂ _ _ (hoff p hp).1 z.1, z.2⟩
          · have z := N p (List.mem_append_right _ (List.mem_append_right _ hp))
            rw [List.mem_singleton.mp hp] at z ⊢
            exact ⟨hk₂ _ _ hDw z.1, z.2⟩
    · obtain ⟨ws, hws, hwse⟩ := objs_of (W.own _ _ hst₁)
      refine ⟨0, [], _, cells, ws, h₁, _, rfl, Nat.zero_le _, rfl, Nat.le_refl _, hst₁, hws, ⟨hns₁, hg₁, by omega⟩, fun p hp => ?_, fun p hp => ?_, h0 _ _ (by omega) hcl⟩
      · rcases List.mem_append.mp hp with hp | hp
        · exact N₁ p hp
        · rcases List.mem_append.mp hp with hp | hp
          · have hm : p.1 ∈ wr := hws ▸ List.mem_map_of_mem hp
            exact ⟨hwse p hp, fun q => hCw (q ▸ hm), (hwr _ hm).1⟩
          · rw [List.mem_singleton.mp hp]
            exact ⟨hDo, by show D ≠ D + 1; omega, fresh D (Nat.le_refl _)⟩
      · have hlt := Nat.lt_trans (Nat.lt_succ_self D) (hcD p hp)
        exact ⟨fun hm => Nat.lt_irrefl _ (Nat.lt_trans (hwr _ hm).2 hlt), Nat.ne_of_gt hlt⟩
  exact codeAny_compStart_list loop (W.self 0 _ _ _ hst₁ loop)
end

section
variable {prog : Program} {w : World} {A : Around} {E : Value → Shared → Prop} {s : Shared}
theorem Wk.list (hh : A.handled = none) (target : Expr) (I ax : Addr) (hne : ax ≠ I) (items : Array Value) :
    Wk prog w A target I [I, ax] [I] items.size (fun i v _ => items[i]? = some v) (fun i h => h.IsListIter I ax i ∧ h.IsList ax items) :=
  let W := Walks.list (prog := prog) (w := w) hh I ax hne items
  { frame := W.frame, done := W.done, self := W.self
    own := fun i h st b hb => by rw [List.mem_singleton.mp hb]; obtain ⟨o, e, _⟩ := st.1; exact ⟨o, e⟩
    item := fun i s Q Z E hi st hQ => W.item i s _ E hi st fun v h' tk hP hst hk => letOwned_list hst.1 (hQ v h' tk hP hst hk) }
theorem Wk.name {x : Str} {px : Pos} {I : Addr} {fp wr : List Addr} {n : Nat} {P : Nat → Value → Prop} {St : Nat → Heap → Prop} (W : Walks prog w A I fp wr n P St) (own : ∀ i h, St i h → ∀ b ∈ wr, ∃ o, h.get? b = some o) :
    Wk prog w A (.Name x px) I fp wr n (fun i v _ => P i v) St :=
  { frame := W.frame, done := W.done, self := W.self, own := own
    item := fun i s Q Z E hi st hQ => W.item i s _ E hi st fun v h' tk hP hst hk => wpAny_of_eq (rfl : letOwnedTupleGo (.Name x px) (.ref I) v = pure ()) (hQ v h' tk hP hst hk) }
/-- the block's turn -/
noncomputable abbrev CStep (prog : Program) (w : World) (A : Around) (env : Env) (elt target : Expr) (ifs : List Expr) (scope : Scope) (cl : List (Str × Addr)) (s₁ : Shared) (g : Heap) (n : Nat) (P : Nat → Value → Heap → Prop)
    (J : Addr → Nat → List Value → (Str → Option Value) → List (Addr × Obj) → Prop) : Prop :=
  ∀ C i v ys m nw rest h tk, i < n → J C i ys m nw → P i v h → Fr g C h m → News g C h (nw ++ rest) → (∀ p ∈ nw, ∀ q ∈ rest, p.1 ≠ q.1) →
      wpAny (model prog w) A (assign target (compEnvC scope (cellsFrom (C + 1) scope.names cl) C env) v) (fun _ s₃ =>
        wpAny (model prog w) A (testsOf ifs (compEnvC scope (cellsFrom (C + 1) scope.names cl) C env)) (fun ok s₄ =>
          if ok = true then wpAny (model prog w) A (eval elt (compEnvC scope (cellsFrom (C + 1) scope.names cl) C env)) (fun y => CEnd g C s₁ rest (J C (i + 1) (ys ++ [y]))) (fun _ _ => False) s₄
          else CEnd g C s₁ rest (J C (i + 1) ys) s₄) (fun _ _ => False) s₃) (fun _ _ => False) { s₁ with heap := h, toks := tk }
noncomputable abbrev CStart (scope : Scope) (g : Heap) (J : Addr → Nat → List Value → (Str → Option Value) → List (Addr × Obj) → Prop) : Prop :=
  ∀ C cells, g.objs.size ≤ C → CellsAre (fun _ => none) (cellsFrom (C + 1) scope.names []) cells → J C 0 [] (fun _ => none) cells
noncomputable abbrev CDone (g : Heap) (n : Nat) (J : Addr → Nat → List Value → (Str → Option Value) → List (Addr × Obj) → Prop) (Fin : Addr → Addr → Shared → Prop) (s₁ : Shared) : Prop :=
  ∀ D C ys m nw h tk, J C n ys m nw → Fr g C h m → News g C h (nw ++ [(D, LCg.lst ys)]) → (∀ p ∈ nw, p.1 ≠ D) → C ≠ D → g.objs.size ≤ D → Fin D C { s₁ with heap := h, toks := tk }

/-- a list comprehension whose source has been told: from here the block's turns -/
noncomputable def CompX (prog : Program) (w : World) (A : Around) (env : Env) (elt target : Expr) (ifs : List Expr) (scope : Scope) (cl : List (Str × Addr)) (Fin : Addr → Addr → Shared → Prop) (xv : Value) (s₁ : Shared) : Prop :=
  wpAny (model prog w) A (pyIter xv) (fun it s₂ => E8 fun (I : Addr) (fp wr : List Addr) (n : Nat) (P : Nat → Value → Heap → Prop) (St : Nat → Heap → Prop) (g : Heap) (J : Addr → Nat → List Value → (Str → Option Value) → List (Addr × Obj) → Prop) => A12 (it = .ref I) (Wk prog w A target I fp wr n P St) (n ≤ sizeLine) (St 0 s₂.heap) (g.StaysIn s₂.heap) (g.objs.size ≤ s₂.heap.objs.size) (∀ b ∈ wr, g.get? b = none ∧ b < s₂.heap.objs.size) (∀ b ∈ fp, b ∈ wr ∨ ∃ o, g.get? b = some o) (CStart scope g J) (CStep prog w A env elt target ifs scope cl s₁ g n P J) (E2 fun h₂ tk₂ => s₂ = { s₁ with heap := h₂, toks := tk₂ }) (CDone g n J Fin s₁)) (fun _ _ => False) s₁

noncomputable def FinL (Q : Value → Shared → Prop) (D C : Addr) (s' : Shared) : Prop := (∃ m, s'.heap.Ns C m) ∧ ∀ h'', Heap.SameBut C s'.heap h'' → Q (.ref D) { s' with heap := h'' }
noncomputable def FinS (prog : Program) (w : World) (A : Around) (env : Env) (y : Str) (py : Pos) (Q : Flow → Shared → Prop) (D C : Addr) (s' : Shared) : Prop :=
  wpAny (model prog w) A (assign (.Name y py) env (.ref D)) (fun _ s'' => ∃ m, s''.heap.Ns C m ∧ ∀ h', Heap.SameBut C s''.heap h' → Q .next { s'' with heap := h' }) (fun _ _ => False) s'

theorem listComp {elt target iter : Expr} {ifs : List Expr} {scope : Scope} {cl : List (Str × Addr)} {pos : Pos} {env : Env} {Q : Value → Shared → Prop}
    (hclos : closureFor scope env = pure cl) (hkind : scope.kind = .function) (hnames : ∀ y ∈ scope.names, y.2 = .local → scope.names.lookup y.1 = some .local)
    (h : wpAny (model prog w) A (eval iter env) (CompX prog w A env elt target ifs scope cl (FinL Q)) (fun _ _ => False) s)
    (hs : ∀ x, foldedSetIterable iter env x = pure x := by intro _; rfl) :
    wpAny (model prog w) A (eval (.ListComp elt [⟨target, iter, ifs, 0⟩] scope pos) env) Q (fun _ _ => False) s := by
  rw [eval_ListComp]
  refine wpAny_comprehension_free (use := none) rfl hs hclos hkind hnames (wpAny_mono h (fun xv s₁ h₁ => wpAny_mono h₁ (fun it s₂ h₂ => ?_) fun _ _ e => e) fun _ _ e => e)
  obtain ⟨I, fp, wr, n, P, St, g, J, rfl, W, hsz, hst, hg, hgs, hwr, hfp, h0, step, ⟨h₂, tk₂, rfl⟩, fin⟩ := h₂
  refine comp_block W hsz hst hg hgs hwr hfp hkind J h0 step ?_
  intro D C ys m nw h tk hJ F N hoff hCD hC hD
  obtain ⟨⟨m', hn⟩, h'⟩ := fin D C ys m nw h tk hJ F N hoff hCD (Nat.le_trans hgs hD)
  exact ⟨m', hn, h'⟩
theorem listAssign {elt target iter : Expr} {ifs : List Expr} {scope : Scope} {cl : List (Str × Addr)} {y : Str} {py pos spos : Pos} {env : Env} {Q : Flow → Shared → Prop}
    (hsw : swapsWith (.ListComp elt [⟨target, iter, ifs, 0⟩] scope pos) (some (.Name y py)) spos.line env = pure true)
    (hclos : closureFor scope env = pure cl) (hkind : scope.kind = .function) (hnames : ∀ y ∈ scope.names, y.2 = .local → scope.names.lookup y.1 = some .local)
    (h : wpAny (model prog w) A (eval iter env) (CompX prog w A env elt target ifs scope cl (FinS prog w A env y py Q)) (fun _ _ => False) s)
    (hs : ∀ x, foldedSetIterable iter env x = pure x := by intro _; rfl) :
    wpAny (model prog w) A (exec (.Assign [.Name y py] (.ListComp elt [⟨target, iter, ifs, 0⟩] scope pos) spos) env) Q (fun _ _ => False) s := by
  rw [exec_Assign_Name_used _ _ _ _ hsw]
  refine wpAny_bind (wpAny_standAt (wpAny_bind ?_))
  show wpAny _ A (do let _ ← comprehension (.ListComp elt [⟨target, iter, ifs, 0⟩] scope pos) scope env _ (newList []) false (eval iter env) (some (assign (.Name y py) env))) _ _ s
  refine wpAny_bind (wpAny_mono (wpAny_comprehension_free (use := some (assign (.Name y py) env)) (Q := fun _ s' => Q .next s') rfl hs hclos hkind hnames
    (wpAny_mono h (fun xv s₁ h₁ => wpAny_mono h₁ (fun it s₂ h₂ => ?_) fun _ _ e => e) fun _ _ e => e)) (fun _ s' hq => wpAny_pure (wpAny_pure hq)) fun _ _ e => e)
  obtain ⟨I, fp, wr, n, P, St, g, J, rfl, W, hsz, hst, hg, hgs, hwr, hfp, h0, step, ⟨h₂, tk₂, rfl⟩, fin⟩ := h₂
  refine comp_block W hsz hst hg hgs hwr hfp hkind J h0 step ?_
  intro D C ys m nw h tk hJ F N hoff hCD hC hD
  exact fin D C ys m nw h tk hJ F N hoff hCD (Nat.le_trans hgs hD)

variable {elt target iter : Expr} {ifs : List Expr} {scope : Scope} {cl : List (Str × Addr)} {env : Env} {s₁ : Shared}
theorem CompX.list {Fin : Addr → Addr → Shared → Prop} {ax : Addr} {items : Array Value} (hl : s₁.heap.IsList ax items) (hsz : items.size ≤ sizeLine) (J : Addr → Nat → List Value → (Str → Option Value) → List (Addr × Obj) → Prop)
    (h0 : CStart scope s₁.heap J) (step : CStep prog w A env elt target ifs scope cl s₁ s₁.heap items.size (fun i v _ => items[i]? = some v) J) (fin : CDone s₁.heap items.size J Fin s₁)
    (hh : A.handled = none := by rfl) : CompX prog w A env elt target ifs scope cl Fin (.ref ax) s₁ := by
  have hlt : ax < s₁.heap.objs.size := by obtain ⟨_, e, _⟩ := hl; exact Heap.lt_size e
  refine wpAny_pyIter_list hl ?_
  have up : ∀ b o, s₁.heap.get? b = some o → (s₁.heap.push { cls := .type "list_iterator", data := .fields #[.ref ax, .int 0 0] }).get? b = some o := fun b o e => Heap.get?_push_of_some _ e
  refine ⟨_, _, _, _, _, _, s₁.heap, J, rfl, Wk.list hh target s₁.heap.objs.size ax (Nat.ne_of_lt hlt) items, hsz, ⟨⟨_, Heap.get?_push_size _ rfl, rfl, rfl⟩, hl.push _⟩, up, by rw [Heap.size_push]; exact Nat.le_succ _, fun b hb => ?_, fun b hb => ?_, h0, step, ⟨_, _, rfl⟩, fin⟩
  · rw [List.mem_singleton.mp hb]
    exact ⟨Heap.get?_none_of_le (Nat.le_refl _), by rw [Heap.size_push]; exact Nat.lt_succ_self _⟩
  · rcases List.mem_cons.mp hb with rfl | hb
    · exact .inl (.head _)
    · rw [List.mem_singleton.mp hb]
      obtain ⟨o, e, _⟩ := hl
      exact .inr ⟨o, e⟩
theorem CompX.range {Fin : Addr → Addr → Shared → Prop} {x : Str} {px : Pos} {r : Addr} {a b : Int} {t u v : Tok} {n : Nat} (hr : IsRange s₁.heap r a b 1 t u v) (hsm : Builtin.Range.small a b 1 = true) (hn : Builtin.Range.rangeSize a b 1 = ((n : Nat) : Int)) (hsz : n ≤ sizeLine)
    (J : Addr → Nat → List Value → (Str → Option Value) → List (Addr × Obj) → Prop)
    (h0 : CStart scope s₁.heap J) (step : CStep prog w A env elt (.Name x px) ifs scope cl s₁ s₁.heap n (fun i v _ => ∃ t, v = .int (a + (i : Int)) t) J) (fin : CDone s₁.heap n J Fin s₁)
    (hh : A.handled = none := by rfl) : CompX prog w A env elt (.Name x px) ifs scope cl Fin (.ref r) s₁ := by
  refine wpAny_pyIter_range hr hsm ?_
  refine ⟨_, _, _, _, _, _, s₁.heap, J, rfl, Wk.name (LCg.range_walks hh a n) (fun i h st b hb => by obtain rfl := List.mem_singleton.mp hb; exact ⟨_, st⟩), hsz, ?_, fun b o e => Heap.get?_push_of_some _ e, by rw [Heap.size_push]; exact Nat.le_succ _, fun b hb => ?_, fun b hb => .inl hb, h0, step, ⟨_, _, rfl⟩, fin⟩
  · show IsRangeIter _ _ _ _ _
    rw [hn]; simpa using Heap.get?_push_size _ rfl
  · rw [List.mem_singleton.mp hb]
    exact ⟨Heap.get?_none_of_le (Nat.le_refl _), by rw [Heap.size_push]; exact Nat.lt_succ_self _⟩

theorem none_of {h₀ h : Heap} {L a : Addr} {m : Str → Option Value} (F : Fr h₀ L h m) (ha : h.get? a = none) : h₀.get? a = none ∧ a ≠ L := by
  constructor
  · cases e : h₀.get? a with
    | none => rfl
    | some o => rw [F.keep _ _ e] at ha; cases ha
  · intro q
    obtain ⟨oL, es, ep, hL, _⟩ := F.ns
    rw [q, hL] at ha; cases ha
-- the ends, as the frame around sees them
theorem doneL {n : Nat} {J : Addr → Nat → List Value → (Str → Option Value) → List (Addr × Obj) → Prop} {Q : Value → Shared → Prop} {h₀ : Heap} {L : Addr} {m₀ : Str → Option Value} {news : List (Addr × Obj)} (F₀ : Fr h₀ L s₁.heap m₀) (N₀ : News h₀ L s₁.heap news)
    (fin : ∀ D C ys m nw h tk, J C n ys m nw → Fr h₀ L h m₀ → News h₀ L h ((D, LCg.lst ys) :: (nw ++ news)) → s₁.heap.StaysIn h → Q (.ref D) { s₁ with heap := h, toks := tk }) : CDone s₁.heap n J (FinL Q) s₁ := by
  intro D C ys m nw h tk hJ F N hoff hCD hDg
  refine ⟨⟨m, F.ns⟩, fun h'' hs'' => ?_⟩
  have hk : s₁.heap.StaysIn h'' := fun b o e => hs''.extBut b o (fun q => by rw [q] at e; exact Nat.lt_irrefl _ (Nat.lt_of_lt_of_le (Heap.lt_size e) F.above)) (F.keep b o e)
  have h0 : ∀ a, s₁.heap.get? a = none → h₀.get? a = none ∧ a ≠ L := fun a ha => none_of F₀ ha
  refine fin D C ys m nw h'' tk hJ (F₀.keeps hk) (fun p hp => ?_) hk
  rcases List.mem_cons.mp hp with rfl | hp
  · have z := N (D, _) (List.mem_append_right _ (List.mem_singleton.mpr rfl))
    exact ⟨hs''.extBut _ _ (Ne.symm hCD) z.1, (h0 _ z.2.2).2, (h0 _ z.2.2).1⟩
  · rcases List.mem_append.mp hp with hp | hp
    · have z := N p (List.mem_append_left _ hp)
      exact ⟨hs''.extBut _ _ z.2.1 z.1, (h0 _ z.2.2).2, (h0 _ z.2.2).1⟩
    · exact ⟨hk _ _ (N₀ p hp).1, (N₀ p hp).2⟩
end

section
variable {M : Model} {A : Around} {E : Value → Shared → Prop} {s : Shared} {g : Heap} {C c : Addr} {m : Str → Option Value} {scope : Scope} {cl : List (Str × Addr)} {env : Env} {x : Str} {pos : Pos} {v : Value} {o : Obj} {Q : Value → Shared → Prop} {news : List (Addr × Obj)}
-- the names of a block
theorem cmp_own (F : Fr g C s.heap m) (hv : m x = some v) (h : Q v s)
    (hk : (compEnvC scope cl C env).scope.kind = .function) (hl : (compEnvC scope cl C env).kindOf x = some .local) (hd : (x == ("__debug__" : Str)) = false := by decide) :
    wpAny M A (eval (.Name x pos) (compEnvC scope cl C env)) Q E s := ldVarK F.ns hv h hk hl hd
theorem cmp_cell (F : Fr g C s.heap m) (hc : cl.lookup x = some c) (hg : g.get? c = some o) (hd : o.data = .cell (some v)) (h : Q v s)
    (hk : (compEnvC scope cl C env).scope.kind = .function) (hx : (compEnvC scope cl C env).kindOf x = some .cell) (hb : (x == ("__debug__" : Str)) = false := by decide) :
    wpAny M A (eval (.Name x pos) (compEnvC scope cl C env)) Q E s := wpAny_Name (wpAny_loadName_cell hk hx hc ⟨o, F.keep _ _ hg, hd⟩ h) hb
theorem cmp_new (N : News g C s.heap news) (hc : cl.lookup x = some c) (hm : (c, o) ∈ news) (hd : o.data = .cell (some v)) (h : Q v s)
    (hk : (compEnvC scope cl C env).scope.kind = .function) (hx : (compEnvC scope cl C env).kindOf x = some .cell) (hb : (x == ("__debug__" : Str)) = false := by decide) :
    wpAny M A (eval (.Name x pos) (compEnvC scope cl C env)) Q E s := wpAny_Name (wpAny_loadName_cell hk hx hc ⟨o, (N _ hm).1, hd⟩ h) hb
-- the target of a block
theorem cmp_store {Q : Unit → Shared → Prop} (F : Fr g C s.heap m) (h : ∀ h', Fr g C h' (fun z => if z = x then some v else m z) → (∀ b o, b ≠ C → s.heap.get? b = some o → h'.get? b = some o) → Q () { s with heap := h', toks := s.toks + 1 })
    (hk : (compEnvC scope cl C env).scope.kind = .function) (hl : (compEnvC scope cl C env).kindOf x = some .local) :
    wpAny M A (assign (.Name x pos) (compEnvC scope cl C env) v) Q E s := by
  refine wpAny_assign_Name (wpAny_storeName_local hl F.ns (fun h' hn hs => h h' (F.set hn hs) fun b o hb e => hs.extBut b o hb e) ?_)
  show (((compEnvC scope cl C env).scope.kind == .class) || _) = false
  rw [hk]; rfl
theorem news_but {g h h' : Heap} {C : Addr} {news : List (Addr × Obj)} (N : News g C h news) (hk : ∀ b o, b ≠ C → h.get? b = some o → h'.get? b = some o) : News g C h' news := fun p hp => ⟨hk _ _ (N p hp).2.1 (N p hp).1, (N p hp).2⟩
end
theorem IntsAre.snoc {vs : List Value} {ns : List Int} (h : IntsAre vs ns) (n : Int) (t : Tok) : IntsAre (vs ++ [.int n t]) (ns ++ [n]) := by
  induction h with
  | nil => exact .cons _ _ .nil
  | cons a b r ih => exact .cons _ _ ih
theorem StrsAre.snoc {vs : List Value} {ns : List Str} (h : StrsAre vs ns) (n : Str) (t : Tok) : StrsAre (vs ++ [.str n t]) (ns ++ [n]) := by
  induction h with
  | nil => exact .cons _ _ .nil
  | cons a b r ih => exact .cons _ _ ih
theorem strs_get {vs : List Value} {xs : List (List Nat)} (h : StrsAre vs (xs.map sl)) {i : Nat} {v : Value} (e : vs[i]? = some v) : ∃ (hi : i < xs.length) (t : Tok), v = .str (sl xs[i]) t := by
  induction xs generalizing vs i with
  | nil => cases h; cases e
  | cons y r ih =>
    cases h with
    | cons _ t h =>
      cases i with
      | zero => injection e with e; exact ⟨Nat.zero_lt_succ _, t, e.symm⟩
      | succ i => obtain ⟨hi, t, e'⟩ := ih h e; exact ⟨Nat.succ_lt_succ hi, t, e'⟩
theorem strs_len {vs : List Value} {xs : List (List Nat)} (h : StrsAre vs (xs.map sl)) : vs.length = xs.length := by rw [h.length, List.length_map]
-- the table of headers
/-- the pairs that a row of tuples holds -/
inductive PrsAre (h : Heap) : List Value → List (List Nat × List Nat) → Prop
  | nil : PrsAre h [] []
  | cons {T : Addr} {tk tv : Tok} {p : List Nat × List Nat} {vs : List Value} {ps : List (List Nat × List Nat)} : h.IsTuple T #[.str (sl p.1) tk, .str (sl p.2) tv] → PrsAre h vs ps → PrsAre h (.ref T :: vs) (p :: ps)
theorem PrsAre.length {h : Heap} {vs : List Value} {ps : List (List Nat × List Nat)} (x : PrsAre h vs ps) : vs.length = ps.length := by
  induction x with
  | nil => rfl
  | cons _ _ ih => simp [ih]
theorem PrsAre.keeps {h h' : Heap} {vs : List Value} {ps : List (List Nat × List Nat)} (x : PrsAre h vs ps) (k : ∀ b o, h.get? b = some o → h'.get? b = some o) : PrsAre h' vs ps := by
  induction x with
  | nil => exact .nil
  | cons a _ ih => exact .cons (a.at fun o e => k _ _ e) ih
theorem PrsAre.get {h : Heap} {vs : List Value} {ps : List (List Nat × List Nat)} (x : PrsAre h vs ps) {i : Nat} {v : Value} (e : vs[i]? = some v) : ∃ (hi : i < ps.length) (T : Addr) (tk tv : Tok), v = .ref T ∧ h.IsTuple T #[.str (sl ps[i].1) tk, .str (sl ps[i].2) tv] := by
  induction x generalizing i with
  | nil => cases e
  | @cons T tk tv p vs ps a r ih =>
    cases i with
    | zero => injection e with e; exact ⟨Nat.zero_lt_succ _, T, tk, tv, e.symm, a⟩
    | succ i => obtain ⟨hi, r⟩ := ih e; exact ⟨Nat.succ_lt_succ hi, r⟩
/-- the table: the object, its dict, its row, the row's pairs -/
noncomputable def TabG (H : Addr) (h : Heap) (I dI l : Addr) (vs : List Value) (prs : List (List Nat × List Nat)) : Prop :=
  E3 fun hsh t n₁ => A4 (h.get? I = some (instObj H dI)) (h.get? dI = some (PySem.W.dictOf [⟨hsh, .str (Str.ofString "_headers") t, .ref l⟩] n₁)) (h.IsList l vs.toArray) (PrsAre h vs prs)
theorem inst_of {g h : Heap} {L I dI C : Addr} {m : Str → Option Value} {es : List DictEntry} {n : Nat} (F : Fr g L h m) (hI : g.get? I = some (instObj C dI)) (hd : g.get? dI = some (PySem.W.dictOf es n)) : InstAt h I (instObj C dI) C (some (PySem.W.dictOf es n)) :=
  ⟨F.keep _ _ hI, rfl, rfl, F.keep _ _ hd⟩
theorem lower_sl {x : List Nat} (h : ∀ c ∈ x, c < 128) : Txt.lower (sl x) = sl (x.map lowc) := by
  rw [lower_ascii (by intro d hd; exact h d (by simpa [sl] using hd))]
  show (⟨_⟩ : Str) = ⟨_⟩
  congr 1
  apply Array.toList_inj.mp
  simp only [sl, Array.toList_map]
  refine List.map_congr_left fun c _ => ?_
  simp [lo1, lowc]
noncomputable def upc (c : Nat) : Nat := if 97 ≤ c ∧ c ≤ 122 then c - 32 else c
theorem upper_sl {x : List Nat} (h : ∀ c ∈ x, c < 128) : Txt.upper (sl x) = sl (x.map upc) := by
  rw [upper_ascii (by intro d hd; exact h d (by simpa [sl] using hd))]
  show (⟨_⟩ : Str) = ⟨_⟩
  congr 1
  apply Array.toList_inj.mp
  simp only [sl, Array.toList_map]
  refine List.map_congr_left fun c _ => ?_
  simp [up1, upc]
section
variable {prog : Program} {w : World} {A : Around} {E : Value → Shared → Prop} {s : Shared} {x : List Nat} {t : Tok} {Q : Value → Shared → Prop}
theorem call_lower (h : ∀ c ∈ x, c < 128) (hx : x.length ≤ 200) (hQ : ∀ t' k, Q (.str (sl (x.map lowc)) t') { s with toks := k }) : wpAny (model prog w) A (call (.builtin "str.lower") [.str (sl x) t]) Q E s :=
  SC.lower (by rw [lower_sl h]; exact decide_eq_false (by rw [sizeLine_eq, sl_length, List.length_map]; omega)) (by rw [lower_sl h]; exact hQ _ _)
theorem call_upper (h : ∀ c ∈ x, c < 128) (hx : x.length ≤ 200) (hQ : ∀ t' k, Q (.str (sl (x.map upc)) t') { s with toks := k }) : wpAny (model prog w) A (call (.builtin "str.upper") [.str (sl x) t]) Q E s :=
  SC.upper (by rw [upper_sl h]; exact decide_eq_false (by rw [sizeLine_eq, sl_length, List.length_map]; omega)) (by rw [upper_sl h]; exact hQ _ _)
end
theorem lowc_ok {x : List Nat} (h : ∀ c ∈ x, 32 ≤ c ∧ c < 127) : ∀ c ∈ x.map lowc, 32 ≤ c ∧ c < 127 := by
  intro c hc
  obtain ⟨d, hd, rfl⟩ := List.mem_map.mp hc
  have := h d hd
  unfold lowc; split <;> omega
theorem filt_yes {α : Type} (p : α → Bool) (l : List α) {i : Nat} (hi : i < l.length) (h : p l[i] = true) : (l.take (i + 1)).filter p = (l.take i).filter p ++ [l[i]] := by
  rw [List.take_add_one, List.getElem?_eq_getElem hi, Option.toList_some, List.filter_append]
  simp [h]
theorem filt_no {α : Type} (p : α → Bool) (l : List α) {i : Nat} (hi : i < l.length) (h : p l[i] = false) : (l.take (i + 1)).filter p = (l.take i).filter p := by
  rw [List.take_add_one, List.getElem?_eq_getElem hi, Option.toList_some, List.filter_append]
  simp [h]
theorem map_step {α β : Type} (f : α → β) (l : List α) {i : Nat} (hi : i < l.length) : (l.take (i + 1)).map f = (l.take i).map f ++ [f l[i]] := by
  rw [List.take_add_one, List.getElem?_eq_getElem hi, Option.toList_some, List.map_append]; rfl

-- a loop over the items of a dict that holds none
section
variable {prog : Program} {w : World} {A : Around} {E : Value → Shared → Prop} {s : Shared} {D : Addr} {n : Nat}
end
theorem join_sls : ∀ xs : List (List Nat), Str.join (Str.ofString "") (xs.map sl) = sl xs.flatten
  | [] => rfl
  | [x] => by simp [Str.join]
  | x :: y :: r => by
    have ih := join_sls (y :: r)
    show sl x ++ Str.ofString "" ++ Str.join (Str.ofString "") ((y :: r).map sl) = _
    rw [ih, show Str.ofString "" = sl [] from rfl, sl_append, sl_append, List.append_nil]; rfl
theorem flat_ones : ∀ xs : List Nat, (xs.map fun c => [c]).flatten = xs
  | [] => rfl
  | x :: r => by rw [List.map_cons, List.flatten_cons, flat_ones r]; rfl
theorem join_ones (xs : List Nat) : Str.join (Str.ofString "") (xs.map fun c => sl [c]) = sl xs := by
  have h := join_sls (xs.map fun c => [c])
  rw [List.map_map, flat_ones] at h
  exact h
theorem tjoin_ones (xs : List Nat) : Txt.join (Str.ofString "") (xs.map fun c => sl [c]) = sl xs := by
  exact (StrLaws.glued_eq_join _ _).trans (join_ones _)
theorem len_ones : ∀ xs : List Nat, ((xs.map fun c => sl [c]).map (·.length)).sum = xs.length
  | [] => rfl
  | x :: r => by
    have ih := len_ones r
    simp only [List.map_cons, List.sum_cons, sl_length, List.length_cons, List.length_nil] at ih ⊢
    omega

end
noncomputable section
theorem strs_take {vs : List Value} {xs : List Str} (h : StrsAre vs xs) : ∀ k, StrsAre (vs.take k) (xs.take k) := by
  induction h with
  | nil => intro k; rw [List.take_nil, List.take_nil]; exact .nil
  | cons a b r ih => intro k; cases k with
    | zero => exact .nil
    | succ k => exact .cons _ _ (ih k)
theorem strs_drop {vs : List Value} {xs : List Str} (h : StrsAre vs xs) : ∀ k, StrsAre (vs.drop k) (xs.drop k) := by
  induction h with
  | nil => intro k; rw [List.drop_nil, List.drop_nil]; exact .nil
  | cons a b r ih => intro k; cases k with
    | zero => exact .cons _ _ r
    | succ k => exact ih k
theorem strs_append {vs ws : List Value} {xs ys : List Str} (h : StrsAre vs xs) (k : StrsAre ws ys) : StrsAre (vs ++ ws) (xs ++ ys) := by
  induction h with
  | nil => exact k
  | cons a b r ih => exact .cons _ _ ih
theorem ints_get {vs : List Value} {ns : List Int} (h : IntsAre vs ns) {i : Nat} {v : Value} (e : vs[i]? = some v) : ∃ (hi : i < ns.length) (t : Tok), v = .int ns[i] t := by
  induction h generalizing i with
  | nil => cases e
  | cons n t r ih =>
    cases i with
    | zero => injection e with e; exact ⟨Nat.zero_lt_succ _, t, e.symm⟩
    | succ i => obtain ⟨hi, t, e'⟩ := ih e; exact ⟨Nat.succ_lt_succ hi, t, e'⟩

end
noncomputable section
-- l[:] = new
section
variable {prog : Program} {w : World} {A : Around} {E : Value → Shared → Prop} {s : Shared}
end
theorem PrsAre.keepsL {h h' : Heap} {l : Addr} {its : Array Value} {n : Nat} {vs : List Value} {ps : List (List Nat × List Nat)} (x : PrsAre h vs ps) (hl : h.get? l = some (listOf its n)) (k : ∀ b o, b ≠ l → h.get? b = some o → h'.get? b = some o) : PrsAre h' vs ps := by
  induction x with
  | nil => exact .nil
  | @cons T tk tv p vs ps a _ ih =>
    refine .cons (a.at fun o e => k _ _ (fun q => ?_) e) ih
    obtain ⟨o', e', hc, _⟩ := a
    rw [q, hl] at e'
    cases e'
    have hc' : Value.type "list" = Value.type "tuple" := hc
    exact absurd hc' (by decide)
section
variable {prog : Program} {w : World} {A : Around} {E : Value → Shared → Prop} {s : Shared} {env : Env} {s₁ : Shared}
theorem doneL2 {n : Nat} {J : Addr → Nat → List Value → (Str → Option Value) → List (Addr × Obj) → Prop} {Q : Value → Shared → Prop} {h₀ : Heap} {L : Addr} {m₀ : Str → Option Value} {news : List (Addr × Obj)} (F₀ : Fr h₀ L s₁.heap m₀) (N₀ : News h₀ L s₁.heap news)
    (fin : ∀ D C ys m nw h tk, J C n ys m nw → Fr h₀ L h m₀ → News h₀ L h ((D, LCg.lst ys) :: (nw ++ news)) → s₁.heap.StaysIn h → s₁.heap.get? D = none → (∀ p ∈ nw, s₁.heap.get? p.1 = none) → (∀ p ∈ news, p.1 < D) → Q (.ref D) { s₁ with heap := h, toks := tk }) : CDone s₁.heap n J (FinL Q) s₁ := by
  intro D C ys m nw h tk hJ F N hoff hCD hDg
  refine ⟨⟨m, F.ns⟩, fun h'' hs'' => ?_⟩
  have hk : s₁.heap.StaysIn h'' := fun b o e => hs''.extBut b o (fun q => by rw [q] at e; exact Nat.lt_irrefl _ (Nat.lt_of_lt_of_le (Heap.lt_size e) F.above)) (F.keep b o e)
  have h0 : ∀ a, s₁.heap.get? a = none → h₀.get? a = none ∧ a ≠ L := fun a ha => none_of F₀ ha
  refine fin D C ys m nw h'' tk hJ (F₀.keeps hk) (fun p hp => ?_) hk (N (D, _) (List.mem_append_right _ (List.mem_singleton.mpr rfl))).2.2 (fun p hp => (N p (List.mem_append_left _ hp)).2.2) (fun p hp => Nat.lt_of_lt_of_le (Heap.lt_size (N₀ p hp).1) hDg)
  rcases List.mem_cons.mp hp with rfl | hp
  · have z := N (D, _) (List.mem_append_right _ (List.mem_singleton.mpr rfl))
    exact ⟨hs''.extBut _ _ (Ne.symm hCD) z.1, (h0 _ z.2.2).2, (h0 _ z.2.2).1⟩
  · rcases List.mem_append.mp hp with hp | hp
    · have z := N p (List.mem_append_left _ hp)
      exact ⟨hs''.extBut _ _ z.2.1 z.1, (h0 _ z.2.2).2, (h0 _ z.2.2).1⟩
    · exact ⟨hk _ _ (N₀ p hp).1, (N₀ p hp).2⟩
theorem doneS2 {n : Nat} {J : Addr → Nat → List Value → (Str → Option Value) → List (Addr × Obj) → Prop} {y : Str} {py : Pos} {Q : Flow → Shared → Prop} {h₀ : Heap} {m₀ : Str → Option Value} {news : List (Addr × Obj)} (F₀ : Fr h₀ env.locals s₁.heap m₀) (N₀ : News h₀ env.locals s₁.heap news)
    (hy : env.kindOf y = some .local) (hp : (env.scope.kind == .class || (env.scope.kind == .module && env.locals != env.globals)) = false)
    (fin : ∀ D C ys m nw h tk, J C n ys m nw → Fr h₀ env.locals h (fun z => if z = y then some (.ref D) else m₀ z) → News h₀ env.locals h ((D, LCg.lst ys) :: (nw ++ news)) → (∀ b o, b ≠ env.locals → s₁.heap.get? b = some o → h.get? b = some o) → s₁.heap.get? D = none → (∀ p ∈ nw, s₁.heap.get? p.1 = none) → (∀ p ∈ news, p.1 < D) → Q .next { s₁ with heap := h, toks := tk }) :
    CDone s₁.heap n J (FinS prog w A env y py Q) s₁ := by
  intro D C ys m nw h tk hJ F N hoff hCD hDg
  have hCL : C ≠ env.locals := by
    obtain ⟨oL, es, ep, hL, _⟩ := F₀.ns
    exact fun q => by rw [← q] at hL; exact Nat.lt_irrefl _ (Nat.lt_of_lt_of_le (Heap.lt_size hL) F.above)
  have hLh : h.Ns env.locals m₀ := F₀.ns.at' fun o e => F.keep _ _ e
  refine wpAny_assign_Name (wpAny_storeName_local hy hLh (fun h₂ hn₂ hs₂ => ?_) hp)
  refine ⟨m, F.ns.sameBut hs₂ hCL, fun h'' hs'' => ?_⟩
  have hk : ∀ b o, b ≠ env.locals → s₁.heap.get? b = some o → h''.get? b = some o := fun b o hb e =>
    hs''.extBut b o (fun q => by rw [q] at e; exact Nat.lt_irrefl _ (Nat.lt_of_lt_of_le (Heap.lt_size e) F.above)) (hs₂.extBut b o hb (F.keep b o e))
  have h0 : ∀ a, s₁.heap.get? a = none → h₀.get? a = none ∧ a ≠ env.locals := fun a ha => none_of F₀ ha
  have hL0 : h₀.get? env.locals = none := Heap.get?_none_of_le F₀.above
  refine fin D C ys m nw h'' _ hJ ⟨hn₂.sameBut hs'' (Ne.symm hCL), fun b o e => hk b o (fun q => by rw [q, hL0] at e; cases e) (F₀.keep b o e), F₀.above⟩ (fun p hp => ?_) hk (N (D, _) (List.mem_append_right _ (List.mem_singleton.mpr rfl))).2.2 (fun p hp => (N p (List.mem_append_left _ hp)).2.2) (fun p hp => Nat.lt_of_lt_of_le (Heap.lt_size (N₀ p hp).1) hDg)
  rcases List.mem_cons.mp hp with rfl | hp
  · have z := N (D, _) (List.mem_append_right _ (List.mem_singleton.mpr rfl))
    exact ⟨hs''.extBut _ _ (Ne.symm hCD) (hs₂.extBut _ _ (h0 _ z.2.2).2 z.1), (h0 _ z.2.2).2, (h0 _ z.2.2).1⟩
  · rcases List.mem_append.mp hp with hp | hp
    · have z := N p (List.mem_append_left _ hp)
      exact ⟨hs''.extBut _ _ z.2.1 (hs₂.extBut _ _ (h0 _ z.2.2).2 z.1), (h0 _ z.2.2).2, (h0 _ z.2.2).1⟩
    · exact ⟨hk _ _ (N₀ p hp).2.1 (N₀ p hp).1, (N₀ p hp).2⟩
end
section
variable {M : Model} {A : Around} {E : Value → Shared → Prop} {s : Shared} {K : Frag} {x C L f : Addr} {h₀ : Heap} {m : Str → Option Value} {ox : Obj} {od : Option Obj} {i v : Value}
end
theorem cells5 {cm : Str → Option Value} {a b c d e : Str × Addr} {cells : List (Addr × Obj)} (Y : CellsAre cm [a, b, c, d, e] cells) : E5 fun o1 o2 o3 o4 o5 => A6 (cells = [(a.2, o1), (b.2, o2), (c.2, o3), (d.2, o4), (e.2, o5)]) (o1.data = .cell (cm a.1)) (o2.data = .cell (cm b.1)) (o3.data = .cell (cm c.1)) (o4.data = .cell (cm d.1)) (o5.data = .cell (cm e.1)) := by
  cases Y with | cons h1 Y => cases Y with | cons h2 Y => cases Y with | cons h3 Y => cases Y with | cons h4 Y => cases Y with | cons h5 Y => cases Y with | nil => exact ⟨_, _, _, _, _, rfl, h1, h2, h3, h4, h5⟩

end
noncomputable section
theorem news_sub {h₀ h : Heap} {L : Addr} {n₁ n₂ : List (Addr × Obj)} (N : News h₀ L h n₁) (hs : ∀ p ∈ n₂, p ∈ n₁) : News h₀ L h n₂ := fun p hp => N p (hs p hp)
-- tuples of two texts
inductive TupsAre : List (Addr × Obj) → List (List Nat × List Nat) → Prop
  | nil : TupsAre [] []
  | cons {T : Addr} {p : List Nat × List Nat} {tk tv : Tok} {n : Nat} {ts : List (Addr × Obj)} {ps : List (List Nat × List Nat)} : TupsAre ts ps → TupsAre ((T, { cls := .type "tuple", data := .seq #[.str (sl p.1) tk, .str (sl p.2) tv] n }) :: ts) (p :: ps)
theorem TupsAre.length {ts : List (Addr × Obj)} {ps : List (List Nat × List Nat)} (h : TupsAre ts ps) : ts.length = ps.length := by
  induction h with
  | nil => rfl
  | cons _ ih => simp [ih]
theorem TupsAre.append {ts us : List (Addr × Obj)} {ps qs : List (List Nat × List Nat)} (h : TupsAre ts ps) (k : TupsAre us qs) : TupsAre (ts ++ us) (ps ++ qs) := by
  induction h with
  | nil => exact k
  | cons _ ih => exact .cons ih
theorem TupsAre.prs {h : Heap} {ts : List (Addr × Obj)} {ps : List (List Nat × List Nat)} (x : TupsAre ts ps) (k : ∀ q ∈ ts, h.get? q.1 = some q.2) : PrsAre h (ts.map fun q => Value.ref q.1) ps := by
  induction x with
  | nil => exact .nil
  | @cons T p tk tv n ts ps _ ih =>
    exact .cons ⟨_, k _ (.head _), rfl, n, rfl⟩ (ih fun q hq => k q (.tail _ hq))
theorem TupsAre.isTup {ts : List (Addr × Obj)} {ps : List (List Nat × List Nat)} (x : TupsAre ts ps) : ∀ q ∈ ts, q.2.cls = .type "tuple" ∧ E2 fun xs n => q.2.data = .seq xs n := by
  induction x with
  | nil => exact fun _ h => nomatch h
  | cons _ ih =>
    intro q hq
    rcases List.mem_cons.mp hq with rfl | hq
    · exact ⟨rfl, _, _, rfl⟩
    · exact ih q hq
theorem tups_list {h₀ h : Heap} {L : Addr} {news ts : List (Addr × Obj)} {ps : List (List Nat × List Nat)} (N : News h₀ L h news) (x : TupsAre ts ps) (hs : ∀ q ∈ ts, q ∈ news) {a : Addr} {its : Array Value} {n : Nat} (ha : (a, listOf its n) ∈ news) : ∀ q ∈ ts, q.1 ≠ a := fun q hq e => by
  have h1 := (N q (hs q hq)).1
  have h2 := (N _ ha).1
  dsimp only at h2
  rw [e, h2] at h1
  injection h1 with h1
  have h3 := (x.isTup q hq).1
  rw [← h1] at h3
  exact absurd (show Value.type "list" = Value.type "tuple" from h3) (by decide)
theorem Mut.use2 {K : Params → Frag} {prog : Program} {f need : Nat} {args : Args} {S : List (Addr × Obj)} {pre : World → Heap → Prop} {R : Value → List (Addr × Obj) → Prop} (C : Mut K prog f need args S pre R) (rest : List (Addr × Obj)) {w : World} {p : Program} {loose : List Str} {mean : ExcName → Option Value} {mg mb : Str → Option Value}
    {dp un : Nat} {fr : Option (List Env)} {gd : Option (List Code)} {s : Shared} {Q E : Value → Shared → Prop} {h₀ : Heap} {L : Addr} {m : Str → Option Value} {news : List (Addr × Obj)}
    (F : Fr h₀ L s.heap m) (X : (K w.params).In h₀) (N : News h₀ L s.heap news) (T : Top p loose mean mg mb h₀) (hS : ∀ q ∈ S, q ∈ news) (hr : ∀ q ∈ rest, q ∈ news ∧ q.1 ∉ S.map (·.1)) (hp : pre w s.heap) (hd : dp + need < recursionLimit) (hu : un + 8 * need < cLine)
    (hret : ∀ r h' tk' S', Fr h₀ L h' m → News h₀ L h' (S' ++ rest) → (∀ b o, s.heap.get? b = some o → b ∉ S.map (·.1) → h'.get? b = some o) → (∀ q ∈ S', q.1 ∈ S.map (·.1) ∨ ∀ p ∈ news, p.1 ≠ q.1) → R r S' → Q r { s with heap := h', toks := tk' }) :
    wpAny (model prog w) (Ar dp un fr gd) (call (.ref f) args.pos args.kw) Q E s :=
  C w p loose mean mg mb dp un fr gd s Q E (fun q hq => (N q (hS q hq)).1) (X.keeps (mut_fore F N hS)) (T.keeps (mut_fore F N hS)) hp hd hu fun r h' tk' S' hk hS' hR =>
    hret r h' tk' S' (mut_back F N hS hr hk hS').1 (mut_back F N hS hr hk hS').2 hk (fun q hq => (hS' q hq).2.imp id fun e p hp q' => by rw [← q', (N p hp).1] at e; cases e) hR
section
variable {prog : Program} {w : World} {A : Around} {s : Shared} {env : Env} {h₀ : Heap} {Q : Flow → Shared → Prop} {target iter : Expr} {body : List Stmt} {pos : Pos}
theorem for_listY {L : Addr} {α : Type} (lOf : α → Addr) (items : α → Array Value) (J : α → Nat → (Str → Option Value) → List (Addr × Obj) → Prop) (hL : env.locals = L) (hh : A.handled = none)
    (h : wpAny (model prog w) A (eval iter env) (Hit2 fun x s₁ => E5 fun (p : α) (h1 : Heap) (tk1 : Nat) (m1 : Str → Option Value) (nw1 : List (Addr × Obj)) => A5 (x = .ref (lOf p)) (s₁ = { s with heap := h1, toks := tk1 }) (Fr h₀ L h1 m1) (News h₀ L h1 nw1) (J p 0 m1 nw1)) (fun _ _ => False) s)
    (hl : ∀ p i m nw h, J p i m nw → Fr h₀ L h m → News h₀ L h nw → h.IsList (lOf p) (items p))
    (turn : ∀ p i v m nw It o h tk, (items p)[i]? = some v → J p i m nw → (∀ p ∈ nw, p.1 ≠ It) → Fr h₀ L h m → News h₀ L h ((It, o) :: nw) →
        wpAny (model prog w) A (assign target env v) (fun _ s₂ => wpAny (model prog w) A (execs body env) (TurnEnd h₀ L s It o (J p (i + 1)) Q) (fun _ _ => False) s₂) (fun _ _ => False) { s with heap := h, toks := tk })
    (done : ∀ p m nw h tk, J p (items p).size m nw → Fr h₀ L h m → News h₀ L h nw → Q .next { s with heap := h, toks := tk })
    (hs : ∀ x, foldedSetIterable iter env x = pure x := by intro _; rfl) :
    wpAny (model prog w) A (exec (.For target iter body [] pos) env) Q (fun _ _ => False) s :=
  for_listX hL hh (wpAny_mono h (fun x s₁ z => by
    obtain ⟨p, h1, tk1, m1, nw1, e, e2, F, N, j⟩ := z
    exact ⟨lOf p, items p, J p, h1, tk1, m1, nw1, e, e2, F, N, j, hl p, turn p, done p⟩) fun _ _ x => x) hs
end
theorem sub_cons {α : Type} {a : α} {r l : List α} (h : a ∈ l) (k : ∀ q ∈ r, q ∈ l) : ∀ q ∈ a :: r, q ∈ l := fun q hq => by
  rcases List.mem_cons.mp hq with rfl | hq
  · exact h
  · exact k q hq
theorem sub_app {α : Type} {r t l : List α} (h : ∀ q ∈ r, q ∈ l) (k : ∀ q ∈ t, q ∈ l) : ∀ q ∈ r ++ t, q ∈ l := fun q hq => by
  rcases List.mem_append.mp hq with hq | hq
  · exact h q hq
  · exact k q hq
theorem sub_skip {α : Type} {a : α} {r l : List α} (h : ∀ q ∈ r, q ∈ l) : ∀ q ∈ r, q ∈ a :: l := fun q hq => .tail _ (h q hq)
theorem getD_map_sl (xs : List (List Nat)) (k : Nat) (h : k < xs.length) : (xs.map sl).getD k Str.empty = sl (xs.getD k []) := by
  rw [List.getD_eq_getElem?_getD, List.getElem?_map, List.getElem?_eq_getElem h, List.getD_eq_getElem?_getD, List.getElem?_eq_getElem h]; rfl
end
noncomputable section
-- lists of texts compared
theorem carried_strs {vs : List Value} {xs : List Str} (h : StrsAre vs xs) : CarriedAll vs (xs.map PyData.str) := by
  induction h with
  | nil => exact .nil
  | cons _ t _ ih => exact .cons (.str _ t) ih
theorem eqv_strs : ∀ as bs : List Str, PyData.eqvAll (as.map PyData.str) (bs.map PyData.str) = decide (as = bs)
  | [], [] => by simp [PyData.eqvAll]
  | [], _ :: _ => by simp [PyData.eqvAll]
  | _ :: _, [] => by simp [PyData.eqvAll]
  | a :: r, b :: t => by
    simp only [List.map_cons, PyData.eqvAll, PyData.eqv, eqv_strs r t]
    by_cases h : a = b <;> by_cases h' : r = t <;> simp [h, h']
theorem strOk_sl {l : List Nat} (h : ∀ c ∈ l, c < 128) : PyData.strOk (sl l) = true := by
  unfold PyData.strOk
  rw [Array.all_eq_true]
  intro i hi
  have : (sl l).cps[i] ∈ l := by simp [sl]
  have := h _ this
  exact decide_eq_true (by omega)
theorem lay_strs : ∀ xs : List (List Nat), (∀ y ∈ xs, ∀ c ∈ y, c < 128) → PyData.canLayAll0 ((xs.map sl).map PyData.str) = true ∧ PyData.depthAll ((xs.map sl).map PyData.str) = 0
  | [], _ => by simp [PyData.canLayAll0, PyData.depthAll]
  | y :: r, h => by
    have ih := lay_strs r fun z hz => h z (.tail _ hz)
    simp only [List.map_cons, PyData.canLayAll0, PyData.depthAll, PyData.canLay0, PyData.depth, ih.1, ih.2, strOk_sl (h y (.head _)), Bool.and_self, Nat.max_self, and_self]
theorem shaped_strs {xs : List (List Nat)} (h : ∀ y ∈ xs, ∀ c ∈ y, c < 128) : SeqAt.shaped (.list ((xs.map sl).map PyData.str)) = true := by
  have := lay_strs xs h
  unfold SeqAt.shaped
  simp only [PyData.canLay0, PyData.depth, this.1, this.2]; decide
theorem sls_inj : ∀ {xs ys : List (List Nat)}, xs.map sl = ys.map sl ↔ xs = ys
  | [], [] => by simp
  | [], _ :: _ => by simp
  | _ :: _, [] => by simp
  | x :: r, y :: t => by simp only [List.map_cons, List.cons.injEq, sl_inj, sls_inj (xs := r) (ys := t)]
section
variable {prog : Program} {w : World} {A : Around} {E : Value → Shared → Prop} {s : Shared} {a b : Addr} {vs us : List Value} {xs ys : List (List Nat)} {Q : Value → Shared → Prop}
theorem ne_texts (ha : s.heap.IsList a vs.toArray) (hb : s.heap.IsList b us.toArray) (hi : StrsAre vs (xs.map sl)) (hj : StrsAre us (ys.map sl)) (hx : ∀ y ∈ xs, ∀ c ∈ y, c < 128) (hy : ∀ y ∈ ys, ∀ c ∈ y, c < 128) (hu : A.units + 64 < cLine) (h : Q (.bool (!decide (xs = ys))) s) :
    wpAny (model prog w) A (compareOp .NotEq (.ref a) (.ref b)) Q E s :=
  ne_dataH (reads_newData ha (carried_strs hi)) (reads_newData hb (carried_strs hj)) (shaped_strs hx) (shaped_strs hy) hu (by
    rw [show PyData.eqv (.list ((xs.map sl).map PyData.str)) (.list ((ys.map sl).map PyData.str)) = decide (xs = ys) from by
      simp only [PyData.eqv, eqv_strs, sls_inj]]
    exact h)
end
section
variable {M : Model} {A : Around} {E : Value → Shared → Prop} {s : Shared} {g : Heap} {C c : Addr} {m : Str → Option Value} {scope : Scope} {cl : List (Str × Addr)} {env : Env} {x : Str} {pos : Pos} {v : Value} {v₀ : Option Value} {o : Obj} {Q : Unit → Shared → Prop} {post : List (Addr × Obj)}
/-- the target of a block, where an inner block captures it -/
theorem cmp_storeC (F : Fr g C s.heap m) (N : News g C s.heap ((c, o) :: post)) (hp : ∀ p ∈ post, p.1 ≠ c) (hc : cl.lookup x = some c) (hd : o.data = .cell v₀)
    (h : ∀ h' o', Fr g C h' m → News g C h' ((c, o') :: post) → o'.data = .cell (some v) → (∀ b ob, b ≠ c → s.heap.get? b = some ob → h'.get? b = some ob) → Q () { s with heap := h' })
    (hk : (compEnvC scope cl C env).scope.kind = .function) (hl : (compEnvC scope cl C env).kindOf x = some .cell) :
    wpAny M A (assign (.Name x pos) (compEnvC scope cl C env) v) Q E s := by
  have hmem := N (c, o) (.head _)
  refine wpAny_assign_Name (wpAny_storeName_cell hk hl hc ⟨o, hmem.1, hd⟩ fun h' hv hs => ?_)
  obtain ⟨o', ho', hd'⟩ := hv
  refine h h' o' ⟨F.ns.sameBut hs (Ne.symm hmem.2.1), fun b ob e => (hs.2 b (fun q => ?_)).trans (F.keep b ob e), F.above⟩ (fun p hp' => ?_) hd' fun b ob hb e => hs.extBut b ob hb e
  · rw [q, hmem.2.2] at e; cases e
  · rcases List.mem_cons.mp hp' with rfl | hp'
    · exact ⟨ho', hmem.2⟩
    · exact ⟨hs.extBut _ _ (hp p hp') (N p (.tail _ hp')).1, (N p (.tail _ hp')).2⟩
end
theorem getD_at {l : List Nat} {k : Nat} (h : k < l.length) : l[k] = l.getD k 0 := by
  rw [List.getD_eq_getElem?_getD, List.getElem?_eq_getElem h]; rfl

end
noncomputable section
-- zip of a list and a text
section
variable {prog : Program} {w : World} {A : Around} {E : Value → Shared → Prop} {s : Shared}
end
section
variable {prog : Program} {w : World} {A : Around} {E : Value → Shared → Prop} {s : Shared}
end
section
variable {prog : Program} {w : World} {A : Around} {E : Value → Shared → Prop} {s : Shared}
variable {elt target iter : Expr} {ifs : List Expr} {scope : Scope} {cl : List (Str × Addr)} {env : Env}
end

end
noncomputable section
section
variable {prog : Program} {w : World} {A : Around} {E : Value → Shared → Prop} {s : Shared}
variable {elt target iter : Expr} {ifs : List Expr} {scope : Scope} {cl : List (Str × Addr)} {env : Env}
end
section
variable {prog : Program} {w : World} {A : Around} {E : Value → Shared → Prop} {s : Shared} {g : Heap} {C T : Addr} {m : Str → Option Value} {scope : Scope} {cl : List (Str × Addr)} {env : Env} {x y : Str} {px py pos : Pos} {x1 : Nat} {a b : Value} {Q : Unit → Shared → Prop}
/-- two targets of a block -/
theorem cmp_store2 (hh : A.handled = none) (F : Fr g C s.heap m) (hT : s.heap.IsTuple T #[a, b])
    (h : ∀ h' tk, Fr g C h' (fun z => if z = y then some b else if z = x then some a else m z) → (∀ b o, b ≠ C → s.heap.get? b = some o → h'.get? b = some o) → Q () { s with heap := h', toks := tk })
    (hk : (compEnvC scope cl C env).scope.kind = .function) (hl : (compEnvC scope cl C env).kindOf x = some .local) (hl2 : (compEnvC scope cl C env).kindOf y = some .local) :
    wpAny (model prog w) A (assign (.Tuple [.Name x px, .Name y py] x1 pos) (compEnvC scope cl C env) (.ref T)) Q E s := by
  refine PySem.wpAny_assign_Tuple hh hT rfl rfl fun h1 hx1 => ?_
  have k1 : ∀ b o, s.heap.get? b = some o → h1.get? b = some o := fun b o e => hx1 b o (Nat.ne_of_lt (Heap.lt_size e)) e
  have F1 := F.keeps k1
  refine PyProof.Rows.assignInOrder_cons ?_
  refine cmp_store (Q := fun _ s₁ => _) (s := { s with heap := h1 }) F1 (fun h2 F2 k2 => ?_) hk hl
  refine PyProof.Rows.assignInOrder_cons ?_
  refine cmp_store (s := { s with heap := h2, toks := _ }) F2 (fun h3 F3 k3 => ?_) hk hl2
  refine PyProof.Rows.assignInOrder_nil (h h3 _ F3 fun b o hb e => k3 b o hb (k2 b o hb (k1 b o e)))
end
end
noncomputable section
theorem dat_tups {ts : List (Addr × Obj)} {ps : List (List Nat × List Nat)} (x : TupsAre ts ps) : ∀ {nw : List (Addr × Obj)}, (∀ q ∈ ts, q ∈ nw) → DatAll nw (ts.map fun q => Value.ref q.1) (ps.map fun p => Dat.tuple [Dat.str (sl p.1), Dat.str (sl p.2)]) := by
  induction x with
  | nil => exact fun _ => .nil
  | @cons T p tk tv n ts ps _ ih =>
    intro nw h
    exact .cons (.tuple (vs := [.str (sl p.1) tk, .str (sl p.2) tv]) (n := n) (h _ (.head _)) (.cons (.str _ _) (.cons (.str _ _) .nil))) (ih fun q hq => h q (.tail _ hq))
theorem dat_ok {ps : List (List Nat × List Nat)} (hp : ∀ p ∈ ps, (∀ c ∈ p.1, c < 128) ∧ ∀ c ∈ p.2, c < 128) : ∀ d ∈ ps.map (fun p => Dat.tuple [Dat.str (sl p.1), Dat.str (sl p.2)]), kqdOk 8 d = true := by
  intro d hd
  obtain ⟨p, hq, rfl⟩ := List.mem_map.mp hd
  have := hp p hq
  simp [kqdOk, strOk_sl this.1, strOk_sl this.2]
section
variable {prog : Program} {w : World} {A : Around} {E : Value → Shared → Prop} {s : Shared} {h₀ : Heap} {L a b : Addr} {news ts us : List (Addr × Obj)} {ps : List (List Nat × List Nat)} {ka kb : Nat} {Q : Value → Shared → Prop}
theorem ne_tups (N : News h₀ L s.heap news) (ma : (a, listOf (ts.map fun q => Value.ref q.1).toArray ka) ∈ news) (x : TupsAre ts ps) (sa : ∀ q ∈ ts, q ∈ news) (mb : (b, listOf (us.map fun q => Value.ref q.1).toArray kb) ∈ news) (y : TupsAre us ps) (sb : ∀ q ∈ us, q ∈ news)
    (hp : ∀ p ∈ ps, (∀ c ∈ p.1, c < 128) ∧ ∀ c ∈ p.2, c < 128) (hu : A.units + 64 < cLine) (h : Q (.bool false) s) : wpAny (model prog w) A (compareOp .NotEq (.ref a) (.ref b)) Q E s := by
  refine kqd_ne N ma rfl rfl (dat_tups x sa) (fun _ h => h) mb rfl rfl (dat_tups y sb) (fun _ h => h) (dat_ok hp) (dat_ok hp) hu ?_
  simp only [decide_true, Bool.not_true]
  exact h
end
theorem dn1 {a d : Nat} (h : a + 1 < d) : a < d := Nat.lt_of_succ_lt h
theorem dn2 {a d : Nat} (h : a + 1 + 1 < d) : a < d := dn1 (dn1 h)
theorem dn3 {a d : Nat} (h : a + 1 + 1 + 1 < d) : a < d := dn1 (dn2 h)
theorem dn4 {a d : Nat} (h : a + 1 + 1 + 1 + 1 < d) : a < d := dn1 (dn3 h)

end
noncomputable section
section
variable {prog : Program} {w : World} {A : Around} {E : Value → Shared → Prop} {s : Shared}
theorem tup_lt_body {a b : Addr} {x y : Int} {p q : Str} {t t' u u' : Tok} {Q : PySem.Fin → Shared → Prop} (ha : s.heap.IsTuple a #[.int x t, .str p u]) (hb : s.heap.IsTuple b #[.int y t', .str q u'])
    (h : Q (.done (.ret (.bool (decide (x < y ∨ (x = y ∧ p.cps.toList < q.cps.toList)))))) s) :
    wpAny (model prog w) A (Builtin.«tuple.__lt__» ⟨[.ref a, .ref b], []⟩) Q E s := by
  have hTb : s.TypeIs (.ref b) "tuple" := by obtain ⟨o, ho, hc, _⟩ := hb; exact ⟨o, ho, hc⟩
  obtain ⟨oa, hoa, hca, na, hda⟩ := ha
  obtain ⟨ob, hob, hcb, nb, hdb⟩ := hb
  show wpAny _ _ (isInstance (.ref b) (.type "tuple") >>= _) _ _ s
  refine wpAny_bind (wpAny_isInstance hTb isSubtype_tuple_tuple ?_)
  simp only [Bool.not_true, Bool.false_eq_true, if_false]
  refine wpAny_bind (wpAny_tupleItemsOf hoa hda ?_)
  refine wpAny_bind (wpAny_tupleItemsOf hob hdb ?_)
  refine wpAny_bind ?_
  simp only [List.zip_cons_cons, List.zip_nil_left, List.forIn_cons, List.forIn_nil]
  refine wpAny_bind ?_
  refine wpAny_bind (wpAny_eqBool_int ?_)
  by_cases hxy : x = y
  · subst hxy
    simp only [beq_self_eq_true, Bool.not_true, Bool.false_eq_true, if_false]
    refine wpAny_pure ?_
    dsimp only
    refine wpAny_bind ?_
    refine wpAny_bind (wpAny_eqBool_str ?_)
    by_cases hpq : p = q
    · subst hpq
      simp only [decide_true, Bool.not_true, Bool.false_eq_true, if_false]
      refine wpAny_pure ?_
      dsimp only
      refine wpAny_pure (wpAny_pure ?_)
      have e : decide (x < x ∨ x = x ∧ p.cps.toList < p.cps.toList) = false := decide_eq_false (by rintro (c | ⟨_, c⟩); exact absurd c (Int.lt_irrefl _); exact absurd c (List.lt_irrefl _))
      rw [e] at h
      exact h
    · simp only [decide_eq_false hpq, Bool.not_false, if_true]
      refine wpAny_bind (wpAny_rule ?_)
      refine wpAny_bind (show wpAny _ _ (compareOp .Lt (.str p u) (.str q u')) _ _ _ from PyProof.Rows.lt_str ?_)
      refine wpAny_bind (wpAny_pure (wpAny_pure ?_))
      dsimp only
      refine wpAny_pure (wpAny_pure ?_)
      have e : decide (x < x ∨ x = x ∧ p.cps.toList < q.cps.toList) = decide (p.cps.toList < q.cps.toList) := decide_eq_decide.mpr ⟨fun c => c.elim (fun d => absurd d (Int.lt_irrefl _)) fun d => d.2, fun c => .inr ⟨rfl, c⟩⟩
      rw [e] at h
      exact h
  · have e0 : (x == y) = false := by simpa using hxy
    simp only [e0, Bool.not_false, if_true]
    refine wpAny_bind (wpAny_rule ?_)
    refine wpAny_bind (show wpAny _ _ (compareOp .Lt (.int x t) (.int y t')) _ _ _ from PyProof.Rows.lt_int ?_)
    refine wpAny_bind (wpAny_pure (wpAny_pure ?_))
    dsimp only
    refine wpAny_pure (wpAny_pure ?_)
    have e : decide (x < y ∨ x = y ∧ p.cps.toList < q.cps.toList) = decide (x < y) := decide_eq_decide.mpr ⟨fun c => c.elim id fun d => absurd d.1 hxy, .inl⟩
    rw [e] at h
    exact h
theorem lt_tup {a b : Addr} {x y : Int} {p q : Str} {t t' u u' : Tok} {Q : Value → Shared → Prop} (ha : s.heap.IsTuple a #[.int x t, .str p u]) (hb : s.heap.IsTuple b #[.int y t', .str q u']) (hu : A.units < cLine)
    (h : Q (.bool (decide (x < y ∨ (x = y ∧ p.cps.toList < q.cps.toList)))) s) :
    wpAny (model prog w) A (compareOp .Lt (.ref a) (.ref b)) Q E s := by
  have hTa : s.TypeIs (.ref a) "tuple" := by obtain ⟨o, ho, hc, _⟩ := ha; exact ⟨o, ho, hc⟩
  have hTb : s.TypeIs (.ref b) "tuple" := by obtain ⟨o, ho, hc, _⟩ := hb; exact ⟨o, ho, hc⟩
  show wpAny _ _ (richCompare .Lt (.ref a) (.ref b)) _ _ _
  refine wpAny_richCompare_same_room hTa hTb PySem.F.slot_tuple_lt ?_ hu
  exact wpAny_call_entry PySem.F.slot_tuple_lt hTa PySem.F.entry_tuple_lt (tup_lt_body ha hb ⟨_, rfl, fun c => (nomatch c), h⟩) (PySem.F.args_tuple_lt_2 _ _)
end

end
noncomputable section
-- sets of small ints: how the table stands
noncomputable def subsOf : List Nat → List (List Nat)
  | [] => [[]]
  | a :: l => (subsOf l).map (a :: ·) ++ subsOf l
noncomputable def smalls : List Nat := [1, 2, 3, 4, 5, 6]
noncomputable def stTab (led : Bool) (σ : List Nat) : SetTable :=
  { mask := if σ.length < 5 then 7 else 31, place := σ.toArray, dummies := #[], finger := 0, led := led, moves := if σ.length < 5 then 0 else 1, plain := true }
noncomputable def posIn (σ : List Nat) (x : Nat) : Nat := (σ.filter (· < x)).length
noncomputable def putIn (σ : List Nat) (x : Nat) : List Nat := σ.take (posIn σ x) ++ x :: σ.drop (posIn σ x)
noncomputable def midTab (led : Bool) (σ : List Nat) (x : Nat) : SetTable := { stTab led σ with place := (putIn σ x).toArray }
noncomputable def stepOk (led : Bool) (σ : List Nat) (x : Nat) : Bool :=
  σ.contains x ||
  (decide ((stTab led σ).freeSlot (x : Int) = some (x, false)) && decide ((stTab led σ).put x = (midTab led σ x, posIn σ x)) && (midTab led σ x).fits (putIn σ x).length && (stTab led (putIn σ x)).fits (putIn σ x).length &&
    (if (midTab led σ x).tooFull then decide ((midTab led σ x).relaid ((putIn σ x).map Int.ofNat).toArray (SetTable.grown (putIn σ x).length) = some (stTab led (putIn σ x), (List.range (putIn σ x).length).toArray))
      else decide (midTab led σ x = stTab led (putIn σ x))) && (subsOf smalls).contains (putIn σ x))
theorem step_all : ((subsOf smalls).all fun σ => smalls.all fun x => stepOk true σ x && stepOk false σ x) = true := by decide +kernel
noncomputable def walkOk (σ : List Nat) : Bool := (List.range (σ.length + 1)).all fun i => decide (SetTable.below σ.toArray (if i = 0 then 0 else σ.getD (i - 1) 0 + 1) = i)
theorem walk_all : ((subsOf smalls).all walkOk) = true := by decide +kernel
theorem subs_len : ((subsOf smalls).all fun σ => decide (σ.length ≤ 6) && (stTab true σ).fits σ.length && (stTab false σ).fits σ.length && σ.all fun x => smalls.contains x) = true := by decide +kernel
theorem step_of (led : Bool) {σ : List Nat} {x : Nat} (hσ : σ ∈ subsOf smalls) (hx : x ∈ smalls) : stepOk led σ x = true := by
  have h := List.all_eq_true.mp (List.all_eq_true.mp step_all σ hσ) x hx
  rw [Bool.and_eq_true] at h
  cases led
  · exact h.2
  · exact h.1
theorem fits_of (led : Bool) {σ : List Nat} (hσ : σ ∈ subsOf smalls) : (stTab led σ).fits σ.length = true ∧ σ.length ≤ 6 ∧ ∀ x ∈ σ, x ∈ smalls := by
  have h := List.all_eq_true.mp subs_len σ hσ
  simp only [Bool.and_eq_true, decide_eq_true_eq, List.all_eq_true, List.contains_iff_mem] at h
  cases led
  · exact ⟨h.1.2, h.1.1.1, h.2⟩
  · exact ⟨h.1.1.2, h.1.1.1, h.2⟩
theorem below_of {σ : List Nat} (hσ : σ ∈ subsOf smalls) {i : Nat} (hi : i ≤ σ.length) : SetTable.below σ.toArray (if i = 0 then 0 else σ.getD (i - 1) 0 + 1) = i := by
  have h := List.all_eq_true.mp walk_all σ hσ
  unfold walkOk at h
  exact of_decide_eq_true (List.all_eq_true.mp h i (List.mem_range.mpr (Nat.lt_succ_of_le hi)))
theorem small_hash {x : Nat} (hx : x ∈ smalls) : hashInt (x : Int) = (x : Int) := by
  have : ∀ x ∈ smalls, hashInt (x : Int) = (x : Int) := by decide +kernel
  exact this x hx
/-- a set of small ints -/
noncomputable def SetN (led : Bool) (σ : List Nat) (o : Obj) : Prop :=
  E2 fun es ep => A3 (o = { cls := .type "set", dict := none, data := .set es ep (stTab led σ) }) (es.toList.map (·.1) = σ.map Int.ofNat) (∀ e ∈ es.toList, ∃ t, e.2 = .int e.1 t)
theorem SetN.size {σ : List Nat} {es : Array (Int × Value)} (h : es.toList.map (·.1) = σ.map Int.ofNat) : es.size = σ.length := by
  have := congrArg List.length h
  simpa using this
theorem SetN.elems {prog : Program} {w : World} {σ : List Nat} {es : Array (Int × Value)} (hσ : ∀ x ∈ σ, x ∈ smalls) (h : es.toList.map (·.1) = σ.map Int.ofNat) (he : ∀ e ∈ es.toList, ∃ t, e.2 = .int e.1 t) : ElemsOf (intKind prog w) es.toList := fun e hm => by
  obtain ⟨t, ht⟩ := he e hm
  have h1 : e.1 ∈ σ.map Int.ofNat := h ▸ List.mem_map_of_mem hm
  obtain ⟨x, hx, e1⟩ := List.mem_map.mp h1
  refine ⟨⟨e.1, by rw [ht]; exact intKind_is _ _ _ _, ?_⟩, by rw [ht]; rfl⟩
  show e.1 = hashInt e.1
  rw [← e1]; exact (small_hash (hσ x hx)).symm
theorem lay_small {led : Bool} {σ : List Nat} {x : Nat} {es : Array (Int × Value)} {v : Value} (hσ : σ ∈ subsOf smalls) (hx : x ∈ smalls) (hn : x ∉ σ) (h : es.toList.map (·.1) = σ.map Int.ofNat) :
    layNew (stTab led σ) es (x : Int) v = (SetTable.insertAt es (posIn σ x) ((x : Int), v), midTab led σ x, false, false) ∧ (SetTable.insertAt es (posIn σ x) ((x : Int), v)).toList.map (·.1) = (putIn σ x).map Int.ofNat := by
  have h0 := step_of led hσ hx
  unfold stepOk at h0
  rw [List.contains_eq_mem, decide_eq_false hn, Bool.false_or] at h0
  simp only [Bool.and_eq_true, decide_eq_true_eq] at h0
  obtain ⟨⟨⟨⟨⟨h1, h2⟩, h3⟩, _⟩, _⟩, _⟩ := h0
  have e2 : (SetTable.insertAt es (posIn σ x) ((x : Int), v)).toList.map (·.1) = (putIn σ x).map Int.ofNat := by
    rw [SetTable.toList_insertAt, List.map_append, List.map_cons, List.map_take, List.map_drop, h, putIn, List.map_append, List.map_cons, List.map_take, List.map_drop]; rfl
  have e3 : (SetTable.insertAt es (posIn σ x) ((x : Int), v)).size = (putIn σ x).length := SetN.size e2
  refine ⟨?_, e2⟩
  unfold layNew
  rw [h1]
  dsimp only
  rw [h2]
  dsimp only
  rw [e3, h3]
  unfold SetTable.orStandIn
  rw [if_pos h3]; rfl
theorem range_filterMap {α : Type} (es : Array α) {n : Nat} (h : n = es.size) : ((List.range n).toArray.filterMap fun i => es[i]?) = es := by
  subst h
  apply Array.toList_inj.mp
  rw [Array.toList_filterMap]
  exact filterMap_getElem?_range es
theorem relay_small {led : Bool} {σ : List Nat} {x : Nat} {es : Array (Int × Value)} (hσ : σ ∈ subsOf smalls) (hx : x ∈ smalls) (hn : x ∉ σ) (h : es.toList.map (·.1) = (putIn σ x).map Int.ofNat) (hf : (midTab led σ x).tooFull = true) :
    relayAll (midTab led σ x) es (SetTable.grown es.size) = (es, stTab led (putIn σ x), false) := by
  have h0 := step_of led hσ hx
  unfold stepOk at h0
  rw [List.contains_eq_mem, decide_eq_false hn, Bool.false_or, if_pos hf] at h0
  simp only [Bool.and_eq_true, decide_eq_true_eq] at h0
  obtain ⟨⟨⟨_, h4⟩, h5⟩, _⟩ := h0
  have e1 : es.map (·.1) = ((putIn σ x).map Int.ofNat).toArray := by
    apply Array.toList_inj.mp; rw [Array.toList_map, h]
  have e2 : es.size = (putIn σ x).length := SetN.size h
  unfold relayAll
  rw [e1, e2, h5]
  dsimp only
  rw [range_filterMap es e2.symm, if_pos]
  rw [Bool.and_eq_true]
  refine ⟨?_, by rw [e2]; exact h4⟩
  unfold coversAll
  exact List.isPerm_iff.mpr (List.Perm.refl _)
theorem put_small {led : Bool} {σ : List Nat} {x : Nat} (hσ : σ ∈ subsOf smalls) (hx : x ∈ smalls) (hn : x ∉ σ) : putIn σ x ∈ subsOf smalls ∧ ((midTab led σ x).tooFull = false → midTab led σ x = stTab led (putIn σ x)) ∧ (midTab led σ x).fits (putIn σ x).length = true := by
  have h0 := step_of led hσ hx
  unfold stepOk at h0
  rw [List.contains_eq_mem, decide_eq_false hn, Bool.false_or] at h0
  simp only [Bool.and_eq_true, decide_eq_true_eq] at h0
  obtain ⟨⟨⟨⟨⟨_, _⟩, h3⟩, _⟩, h5⟩, h6⟩ := h0
  refine ⟨List.contains_iff_mem.mp h6, fun c => ?_, h3⟩
  rw [c] at h5
  simpa using h5
noncomputable def addS (σ : List Nat) (x : Nat) : List Nat := if x ∈ σ then σ else putIn σ x
section
variable {prog : Program} {w : World} {A : Around} {E : Value → Shared → Prop} {s : Shared}
theorem setN_add {S : Addr} {o : Obj} {led : Bool} {σ : List Nat} {x : Nat} {t : Tok} {Q : Bool → Shared → Prop} (ho : s.heap.get? S = some o) (hS : SetN led σ o) (hσ : σ ∈ subsOf smalls) (hx : x ∈ smalls)
    (h : ∀ b h' o', Heap.SameBut S s.heap h' → h'.get? S = some o' → SetN led (addS σ x) o' → addS σ x ∈ subsOf smalls → Q b { s with heap := h' }) :
    wpAny (model prog w) A (setAddHashed S (.int (x : Int) t) (x : Int)) Q E s := by
  obtain ⟨es, ep, rfl, hk, hv⟩ := hS
  have hsz := SetN.size hk
  obtain ⟨hf, h6, hsm⟩ := fits_of led hσ
  have hf' : (stTab led σ).fits es.size = true := by rw [hsz]; exact hf
  have hel : ElemsOf (intKind prog w) es.toList := SetN.elems hsm hk hv
  have hsc : Value.scannable (.int (x : Int) t) = true := rfl
  have hkey := intKind_is prog w (x : Int) t
  have hbd : ∀ n, n ≤ 7 → n < scanBound := fun n hn => by unfold scanBound; omega
  unfold setAddHashed setAddHashedIn
  refine wpAny_holding (wpAny_bind (wpAny_setState_of ho rfl hf' ?_))
  dsimp only
  rw [byScan_of hsc (hbd _ (by omega)) hel]
  simp only [↓reduceIte]
  unfold setAddByScan
  refine wpAny_bind ?_
  refine wpAny_bind (wpAny_rule ?_)
  have hh : (intKind prog w).hash (x : Int) = (x : Int) := small_hash hx
  have scan : ∀ {Q' : ScanMet → Shared → Prop}, Q' (match es.toList.findIdx? (fun e => (intKind prog w).is (x : Int) e.2) with | some j => .found (0 + j) | none => .absent) s → wpAny (model prog w) A (setScan S (.int (x : Int) t) (x : Int) true es) Q' E s := fun hq => by
    have := wpAny_setScan_of (E := E) (A := A) (adding := true) hkey ho rfl hf' hel hq
    rwa [hh] at this
  refine wpAny_bind (scan ?_)
  have hmem : (∃ e ∈ es.toList, (intKind prog w).is (x : Int) e.2 = true) ↔ x ∈ σ := by
    constructor
    · rintro ⟨e, he, hp⟩
      obtain ⟨u, hu⟩ := hv e he
      have e1 : e.1 = (x : Int) := by
        rw [hu] at hp
        exact (intKind prog w).inj _ _ _ (intKind_is prog w e.1 u) hp
      have h1 : e.1 ∈ σ.map Int.ofNat := hk ▸ List.mem_map_of_mem he
      obtain ⟨y, hy, e2⟩ := List.mem_map.mp h1
      have e3 : y = x := by have := e2.trans e1; exact Int.ofNat.inj this
      exact e3 ▸ hy
    · intro hm
      have h1 : Int.ofNat x ∈ es.toList.map (·.1) := hk ▸ List.mem_map_of_mem hm
      obtain ⟨e, he, e1⟩ := List.mem_map.mp h1
      obtain ⟨u, hu⟩ := hv e he
      exact ⟨e, he, by rw [hu, e1]; exact intKind_is _ _ _ _⟩
  cases hr : List.findIdx? (fun e => (intKind prog w).is (x : Int) e.2) es.toList with
  | some j =>
    dsimp only
    obtain ⟨hj, hpj, _⟩ := List.findIdx?_eq_some_iff_getElem.mp hr
    have hm : x ∈ σ := hmem.mp ⟨es.toList[j], List.getElem_mem hj, hpj⟩
    refine wpAny_pure (wpAny_pure ?_)
    have e : s = { s with heap := s.heap } := by cases s; rfl
    rw [e]
    have ea : addS σ x = σ := by unfold addS; rw [if_pos hm]
    exact h _ s.heap _ (Heap.SameBut.refl S s.heap) ho (by rw [ea]; exact ⟨es, ep, rfl, hk, hv⟩) (by rw [ea]; exact hσ)
  | none =>
    dsimp only
    have hm : x ∉ σ := fun c => by
      obtain ⟨e, he, hp⟩ := hmem.mpr c
      have := List.findIdx?_eq_none_iff.mp hr e he
      rw [hp] at this; cases this
    have ea : addS σ x = putIn σ x := by unfold addS; rw [if_neg hm]
    obtain ⟨e1, e2⟩ := lay_small (led := led) (v := .int (x : Int) t) hσ hx hm hk
    obtain ⟨p1, p2, p3⟩ := put_small (led := led) hσ hx hm
    have e3 := SetN.size e2
    have hv2 : ∀ e ∈ (SetTable.insertAt es (posIn σ x) ((x : Int), Value.int (x : Int) t)).toList, ∃ t, e.2 = .int e.1 t := fun e he => by
      rw [SetTable.toList_insertAt] at he
      rcases List.mem_append.mp he with he | he
      · exact hv e (List.mem_of_mem_take he)
      · rcases List.mem_cons.mp he with rfl | he
        · exact ⟨t, rfl⟩
        · exact hv e (List.mem_of_mem_drop he)
    rw [e1]
    generalize SetTable.insertAt es (posIn σ x) ((x : Int), Value.int (x : Int) t) = es2 at e2 e3 hv2 ⊢
    have h62 : (putIn σ x).length ≤ 6 := (fits_of led p1).2.1
    dsimp only
    refine wpAny_bind (wpAny_pure ?_)
    have hpl : (midTab led σ x).plain = true := rfl
    rw [hpl]
    simp only [↓reduceIte]
    refine wpAny_bind ?_
    rw [hashByValue_scannable 8 hsc]
    refine wpAny_pure ?_
    simp only [show plainKind (Value.int (x : Int) t) = true from rfl, ↓reduceIte]
    refine wpAny_bind (wpAny_storeSet_of ho rfl ?_ (fits_of_scanBound (hbd _ (by omega))))
    have hg1 : (s.heap.update S (Obj.putSet es2 (midTab led σ x))).get? S = some { cls := .type "set", dict := none, data := .set es2 (ep + 1) (midTab led σ x) } := by
      have := Heap.get?_update_self (Obj.putSet es2 (midTab led σ x)) ho (by rfl)
      exact this
    have hs1 := Heap.SameBut.update s.heap S (Obj.putSet es2 (midTab led σ x))
    simp only [Bool.not_false, Bool.true_and]
    by_cases hf2 : (midTab led σ x).tooFull = true
    · rw [if_pos hf2, relay_small hσ hx hm e2 hf2]
      dsimp only
      refine wpAny_bind (wpAny_pure ?_)
      refine wpAny_bind (wpAny_storeSet_of hg1 rfl ?_ (fits_of_scanBound (hbd _ (by omega))))
      refine wpAny_pure (wpAny_pure ?_)
      refine h _ _ _ (hs1.trans (Heap.SameBut.update _ S _)) (Heap.get?_update_self (Obj.putSet es2 (stTab led (putIn σ x))) hg1 (by rfl)) ?_ (by rw [ea]; exact p1)
      rw [ea]
      exact ⟨es2, ep + 1 + 1, rfl, e2, hv2⟩
    · rw [if_neg hf2]
      have ht := p2 (by simpa using hf2)
      refine wpAny_pure (wpAny_pure ?_)
      refine h _ _ _ hs1 hg1 ?_ (by rw [ea]; exact p1)
      rw [ea, ht]
      exact ⟨es2, ep + 1, rfl, e2, hv2⟩
end

end
noncomputable section
theorem slot_set_iterator_next : Slot "set_iterator" "__next__" "set_iterator.__next__" :=
  .of (owner := "set_iterator") (n := "__next__") (by rw [typeLookup_type, builtinLookup_eq_fast]; kernel_rfl) (by decide +kernel) (by decide +kernel) (by decide +kernel)
    (by first | exact .inl (by decide +kernel) | exact .inr (by decide +kernel)) (by rw [isSubtype_type]; kernel_rfl)
theorem entry_set_iterator_next : entryFor table "set_iterator.__next__" = some Builtin.«set_iterator.__next__» := entryFor_of_tree (by kernel_rfl)
theorem owner_set_iterator : Manifest.owners.lookup (String.ofList ['r', 'o', 't', 'a', 'r', 'e', 't', 'i', '_', 't', 'e', 's'].reverse) = some Manifest.sig_set_iterator := by kernel_rfl
theorem args_set_iterator_next (a : Value) : argsOk "set_iterator.__next__" ⟨[a], []⟩ := by
  unfold argsOk; rw [signature?_of (id := "set_iterator.__next__") (n := ['_', '_', 't', 'x', 'e', 'n', '_', '_']) (o := ['r', 'o', 't', 'a', 'r', 'e', 't', 'i', '_', 't', 'e', 's']) (by kernel_rfl) owner_set_iterator]; kernel_rfl
theorem entry_set_iter : entryFor table "set.__iter__" = some Builtin.«frozenset.__iter__» :=
  entryFor_alias (id' := "frozenset.__iter__") (by kernel_rfl) rfl (by decide +kernel) (by kernel_rfl)
noncomputable def foldS (xs : List Nat) : List Nat := xs.foldl addS []
section
variable {prog : Program} {w : World} {A : Around} {R : Result → Shared → Prop} {I : Addr} {fp wr : List Addr} {G : Array GenState → Array GenState → Prop} {n : Nat} {P : Nat → Value → Prop} {St : Nat → Shared → Prop}
theorem setN_loop (W : WalksS prog w A.in1 I fp wr G n P St) (S : Addr) (hSf : S ∉ fp) (xs : List Nat) (hn : xs.length = n) (hval : ∀ i v, P i v → ∃ (h : i < xs.length) (t : Tok), v = .int (xs[i] : Int) t) (hsm : ∀ x ∈ xs, x ∈ smalls) (led : Bool) :
    ∀ (k i : Nat) (s : Shared) (o : Obj) (σ : List Nat), n - i = k → i ≤ n → St i s → s.heap.get? S = some o → SetN led σ o → σ ∈ subsOf smalls →
      (∀ s' o', Moved (S :: wr) G s s' → s'.heap.get? S = some o' → SetN led ((xs.drop i).foldl addS σ) o' → (xs.drop i).foldl addS σ ∈ subsOf smalls → R (.ok (.ret .none)) s') →
      codeAny (model prog w) A (.builtin "set.update.loop" ⟨[.ref S, .ref I], []⟩) R s := by
  have hSw : S ∉ wr := fun h => hSf (W.sub _ h)
  have hsub : ∀ b ∈ wr, b ∈ S :: wr := fun b hb => List.mem_cons_of_mem _ hb
  intro k
  induction k with
  | zero =>
    intro i s o σ hk hi hst hS hN hσ hR
    obtain rfl : i = n := by omega
    refine codeAny_builtin F.entry_set_update_loop ?_
    rw [Around.under_plainId F.plain_set_update_loop _]
    show wpAny _ A.in1 (pyNext (.ref I) >>= _) _ _ s
    refine wpAny_bind (W.done s _ _ hst fun s' hm => ?_)
    show wpAny _ A.in1 (ret Value.none) _ _ s'
    rw [List.drop_of_length_le (Nat.le_of_eq hn)] at hR
    exact wpAny_pure (hR s' o (hm.mono hsub) (hm.heap S _ hSw hS) hN hσ)
  | succ k ih =>
    intro i s o σ hk hi hst hS hN hσ hR
    have hlt : i < n := by omega
    refine codeAny_builtin F.entry_set_update_loop ?_
    rw [Around.under_plainId F.plain_set_update_loop _]
    show wpAny _ A.in1 (pyNext (.ref I) >>= _) _ _ s
    refine wpAny_bind (W.item i s _ _ hlt hst fun v s' hP hst' hm => ?_)
    obtain ⟨hx, t, rfl⟩ := hval i v hP
    have hxs := hsm _ (List.getElem_mem hx)
    rw [List.drop_eq_getElem_cons hx, List.foldl_cons] at hR
    generalize xs[i] = x at hxs hR ⊢
    show wpAny _ A.in1 (holding [Value.int (x : Int) t] (setAdd S (.int (x : Int) t)) >>= _) _ _ s'
    refine wpAny_bind (wpAny_holding ?_)
    unfold setAdd
    refine wpAny_holding ?_
    refine wpAny_bind ((intKind prog w).pyHash (k := (x : Int)) (intKind_is _ _ _ _) ?_)
    rw [show (intKind prog w).hash (x : Int) = (x : Int) from small_hash hxs]
    refine setN_add (s := { s' with toks := s'.toks + 1 }) (hm.heap S _ hSw hS) hN hσ hxs fun b h' o' hsb ho' hN' hσ' => ?_
    refine wpAny_pure ⟨plainId_quiet F.plain_set_update_loop _, ih (i + 1) _ o' _ (by omega) hlt (W.frame _ s' _ _ hst' (Nat.le_succ _) fun b hb o e => ?_) ho' hN' hσ' fun s'' o'' hm'' hS'' hN'' hσ'' => ?_⟩
    · rw [hsb.2 b (fun h : b = S => hSf (by rw [← h]; exact hb))]; exact e
    · refine hR s'' o'' (Moved.trans W.gtrans ((hm.mono hsub).then_heap (Nat.le_succ _) fun b o hb e => ?_) hm'') hS'' hN'' hσ''
      rw [hsb.2 b (fun h : b = S => hb (by rw [h]; exact List.mem_cons_self))]; exact e
end
section
variable {prog : Program} {w : World} {A : Around} {E : Value → Shared → Prop} {s : Shared}
noncomputable abbrev ledOf (w : World) : Bool := !(w.params.followText "set-order")
theorem set_newK (a : Value) {Q : Value → Shared → Prop}
    (h : Q (.ref s.heap.objs.size) { s with heap := s.heap.push { cls := .type "set", dict := none, data := .set #[] 0 (.fresh 0 0 (ledOf w)) } }) :
    codeAny (model prog w) A (.call (.builtin "set.__new__") ⟨[.type "set", a], []⟩) (wants Q E) s := by
  refine codeAny_of_tree ?_
  show wpAny _ A.in1 (do checkBuiltinCall "set.__new__" ⟨[.type "set", a], []⟩; again (.builtin "set.__new__" ⟨[.type "set", a], []⟩)) _ _ s
  refine wpAny_bind (wpAny_of_eq (F.newCall_set_1 a) (wpAny_pure ⟨plainId_quiet F.plain_set_new _, codeAny_builtin F.entry_set_new ?_⟩))
  rw [Around.under_plainId F.plain_set_new _]
  unfold Builtin.«set.__new__» Builtin.Frozenset.newClass
  have hsub := sub_set_self
  obtain ⟨hp, g, d, tk, os⟩ := s
  dsimp only
  wp_walk
  refine wpAny_askSetting (wpAny_pure ?_)
  dsimp only
  simp only [newObj]
  refine wpAny_bind (wpAny_alloc (wpAny_pure ?_))
  exact wpAny_pure h
theorem ints_small {vs : List Value} {xs : List Nat} (h : IntsAre vs (xs.map Int.ofNat)) {i : Nat} {v : Value} (e : vs[i]? = some v) : ∃ (hi : i < xs.length) (t : Tok), v = .int (xs[i] : Int) t := by
  induction xs generalizing vs i with
  | nil => cases h; cases e
  | cons y r ih =>
    cases h with
    | cons _ t h =>
      cases i with
      | zero => injection e with e; exact ⟨Nat.zero_lt_succ _, t, e.symm⟩
      | succ i => obtain ⟨hi, t, e'⟩ := ih h e; exact ⟨Nat.succ_lt_succ hi, t, e'⟩
theorem set_list {l : Addr} {items : Array Value} {xs : List Nat} {Q : Value → Shared → Prop}
    (hh : A.handled = none) (hl : s.heap.IsList l items) (hi : IntsAre items.toList (xs.map Int.ofNat)) (hsm : ∀ x ∈ xs, x ∈ smalls)
    (h : ∀ (h' : Heap) (tk : Nat) (o : Obj), h'.get? s.heap.objs.size = some o → SetN (ledOf w) (foldS xs) o → foldS xs ∈ subsOf smalls →
      (∀ b o, b < s.heap.objs.size → s.heap.get? b = some o → h'.get? b = some o) → Q (.ref s.heap.objs.size) { s with heap := h', toks := tk }) :
    wpAny (model prog w) A (call (.type "set") [.ref l]) Q E s := by
  obtain ⟨c, tl, hmro⟩ := F.called_set.mro
  have hmade := F.called_set.made
  have hsub := F.called_set.sub
  have hlen : xs.length = items.size := by have := hi.length; simpa using this.symm
  refine wpAny_call (codeAny_of_tree ?_)
  show wpAny _ _ (callAny (.type "set") _) _ _ _
  refine wpAny_pure ⟨Code.quiet_builtin _ (by decide +kernel), codeAny_builtin F.entry_type_call ?_⟩
  rw [Around.under_plain (weight_type_call_type "set" [.ref l] []) rfl]
  have h1 := F.called_set.notType
  have h2 := F.called_set.canCreate
  have hct := F.typeCall_set_1 (.ref l)
  repeat (any_goals (first | assumption | wp_step))
  refine codeAny_mono (set_newK (.ref l) (E := E) (Q := fun obj s₁ => obj = .ref s.heap.objs.size ∧ s₁ = { s with heap := s.heap.push { cls := .type "set", dict := none, data := .set #[] 0 (.fresh 0 0 (ledOf w)) } }) ⟨rfl, rfl⟩) fun r s₁ hr => ?_
  cases r with
  | error e => exact hr
  | ok fl =>
    cases fl with
    | ret obj =>
      obtain ⟨rfl, rfl⟩ := hr
      have hob0 : SetN (ledOf w) [] { cls := .type "set", dict := none, data := .set #[] 0 (.fresh 0 0 (ledOf w)) } := ⟨#[], 0, rfl, rfl, fun e he => nomatch he⟩
      have hS : (s.heap.push { cls := .type "set", dict := none, data := .set #[] 0 (.fresh 0 0 (ledOf w)) }).get? s.heap.objs.size = some { cls := .type "set", dict := none, data := .set #[] 0 (.fresh 0 0 (ledOf w)) } := Heap.get?_push_size _ rfl
      have hT : Shared.TypeIs { s with heap := s.heap.push { cls := .type "set", dict := none, data := .set #[] 0 (.fresh 0 0 (ledOf w)) } } (.ref s.heap.objs.size) "set" := ⟨_, hS, rfl⟩
      have hli := F.called_set.init.lookup
      have hbi := F.called_set.init.bind (.ref s.heap.objs.size)
      repeat (any_goals (first | assumption | wp_step))
      refine codeAny_mono (codeAny_call_builtin (R := wants (fun r s₂ => r = .none ∧ E3 fun h' tk o => A5 (s₂ = { s with heap := h', toks := tk }) (h'.get? s.heap.objs.size = some o) (SetN (ledOf w) (foldS xs) o) (foldS xs ∈ subsOf smalls) (∀ b o, b < s.heap.objs.size → s.heap.get? b = some o → h'.get? b = some o)) E) F.called_set.init.plain F.entry_set_init (check_set_init_1 hT ?_)) fun r₂ s₂ hr₂ => ?_
      · have hl1 : (s.heap.push { cls := .type "set", dict := none, data := .set #[] 0 (.fresh 0 0 (ledOf w)) }).IsList l items := hl.push _
        have hlS : l < s.heap.objs.size := by obtain ⟨_, e, _⟩ := hl; exact Heap.lt_size e
        obtain ⟨ol, hol, hcl, nl, hdl⟩ := hl
        obtain ⟨ocls, odict, odata, oslots⟩ := ol
        simp only at hcl hdl
        subst hcl; subst hdl
        have hol' : (s.heap.push { cls := .type "set", dict := none, data := .set #[] 0 (.fresh 0 0 (ledOf w)) }).get? l = some { cls := .type "list", dict := odict, data := .seq items nl, slots := oslots } := Heap.get?_push_of_some _ hol
        have hsls := F.sub_list_set
        have hslf := F.sub_list_frozenset
        have hne : (Value.type "list" == Value.type "dict") = false := by decide
        unfold Builtin.«set.__init__» noKeywords Builtin.Frozenset.updateFrom
        generalize hPI : pyIter = PI
        wp_walk
        subst hPI
        refine wpAny_pyIter_list hl1 ?_
        refine wpAny_bind (wpAny_runValue ?_)
        have hh3 : A.in1.in1.in1.handled = none := by simp [hh]
        have hneI : l ≠ (s.heap.push { cls := .type "set", dict := none, data := .set #[] 0 (.fresh 0 0 (ledOf w)) }).objs.size := by rw [Heap.size_push]; exact Nat.ne_of_lt (Nat.lt_succ_of_lt hlS)
        have hSf : s.heap.objs.size ∉ [(s.heap.push { cls := .type "set", dict := none, data := .set #[] 0 (.fresh 0 0 (ledOf w)) }).objs.size, l] := by
          rw [Heap.size_push]; simp only [List.mem_cons, List.not_mem_nil, or_false, not_or]
          exact ⟨Nat.ne_of_lt (Nat.lt_succ_self _), Nat.ne_of_gt hlS⟩
        refine setN_loop ((Walks.list hh3 _ l hneI items).toS) s.heap.objs.size hSf xs hlen (fun i v hv => ints_small hi (by rw [Array.getElem?_toList]; exact hv)) hsm (ledOf w) (items.size - 0) 0 _ _ [] rfl (Nat.zero_le _)
          ⟨⟨_, Heap.get?_push_size _ rfl, rfl, rfl⟩, hl1.push _⟩ (Heap.get?_push_of_some _ hS) hob0 (by decide) ?hR
        case hR =>
          intro s' o' hm ho' hN' hσ'
          obtain ⟨h', g', d', tk', os'⟩ := s'
          have eg : g' = s.gens := hm.gens
          have ed : d' = s.drawn := hm.drawn
          have eo : os' = s.os := hm.os
          subst eg; subst ed; subst eo
          refine wpAny_pure ?_
          show wpAny _ _ (ret Value.none) _ _ _
          refine wpAny_pure ⟨rfl, h', tk', o', rfl, ho', hN', hσ', fun b o hb e => ?_⟩
          have hb1 : b ≠ s.heap.objs.size := Nat.ne_of_lt hb
          have hb2 : b ≠ (s.heap.push { cls := .type "set", dict := none, data := .set #[] 0 (.fresh 0 0 (ledOf w)) }).objs.size := by rw [Heap.size_push]; exact Nat.ne_of_lt (Nat.lt_succ_of_lt hb)
          exact hm.heap b o (by simp only [List.mem_cons, List.not_mem_nil, or_false, not_or]; exact ⟨hb1, hb2⟩) (Heap.get?_push_of_some _ (Heap.get?_push_of_some _ e))
      · cases r₂ with
        | error e => exact hr₂
        | ok fl₂ =>
          cases fl₂ with
          | ret r =>
            obtain ⟨rfl, h', tk, o', rfl, ho', hN', hσ', hk'⟩ := hr₂
            repeat (any_goals (first | assumption | wp_step))
            exact h _ _ _ ho' hN' hσ' hk'
          | _ => exact hr₂.elim
    | _ => exact hr.elim
end

end
noncomputable section
theorem pick_perm {α : Type} (next : Nat → Nat) : ∀ (fuel k : Nat) (left : List α) (out : Array α), left.length = fuel → (pickOrder.go next fuel k left out).toList.Perm (out.toList ++ left)
  | 0, k, left, out, h => by
    obtain rfl : left = [] := List.length_eq_zero_iff.mp h
    unfold pickOrder.go; rw [List.append_nil]
  | fuel + 1, k, left, out, h => by
    unfold pickOrder.go
    have hlt : next k % left.length < left.length := Nat.mod_lt _ (by omega)
    rw [List.getElem?_eq_getElem hlt]
    dsimp only
    refine (pick_perm next fuel (k + 1) _ _ (by rw [List.length_eraseIdx_of_lt hlt]; omega)).trans ?_
    rw [Array.toList_push, List.append_assoc]
    refine List.Perm.append_left _ ?_
    have e : left = left.take (next k % left.length) ++ left[next k % left.length] :: left.drop (next k % left.length + 1) := by rw [← List.drop_eq_getElem_cons hlt, List.take_append_drop]
    rw [List.eraseIdx_eq_take_drop_succ]
    refine List.Perm.trans ?_ (List.Perm.of_eq e.symm)
    rw [List.singleton_append]
    exact List.perm_middle.symm
noncomputable def ordOf (w : World) (a ep : Nat) (es : Array (Int × Value)) : Array (Int × Value) := if w.params.followText "set-order" = true then pickOrder (w.params.setOrder a ep) es else es
theorem ord_perm (w : World) (a ep : Nat) (es : Array (Int × Value)) : (ordOf w a ep es).toList.Perm es.toList := by
  unfold ordOf
  split
  · exact pick_perm _ _ _ _ _ (by simp)
  · exact List.Perm.refl _
noncomputable abbrev IsSetIter (h : Heap) (it a : Addr) (slot i n ep : Nat) : Prop := h.get? it = some { cls := .type "set_iterator", dict := none, data := .fields #[.int slot 0, .int i 0, .ref a, .int n 0, .int ep 0], slots := #[] }
noncomputable abbrev setObj (led : Bool) (σ : List Nat) (es : Array (Int × Value)) (ep : Nat) : Obj := { cls := .type "set", dict := none, data := .set es ep (stTab led σ) }
noncomputable def slotAt (bt : Bool) (σ : List Nat) (i : Nat) : Nat := if bt = true then 0 else if i = 0 then 0 else σ.getD (i - 1) 0 + 1
section
variable {prog : Program} {w : World} {A : Around} {E : Value → Shared → Prop} {s : Shared}
theorem setNext_item {a ep i : Nat} {σ : List Nat} {es : Array (Int × Value)} {Q : Option (Value × Nat) → Shared → Prop} (ho : s.heap.get? a = some (setObj (ledOf w) σ es ep)) (hσ : σ ∈ subsOf smalls) (hk : es.toList.map (·.1) = σ.map Int.ofNat) (hi : i < es.size)
    (h : ∀ v, ((ordOf w a ep es).toList.map (·.2))[i]? = some v → Q (some (v, slotAt (w.params.followText "set-order") σ (i + 1))) s) :
    wpAny (model prog w) A (setNext a (slotAt (w.params.followText "set-order") σ i) i ep) Q E s := by
  have hsz := SetN.size hk
  have hf : (stTab (ledOf w) σ).fits es.size = true := by rw [hsz]; exact (fits_of _ hσ).1
  unfold setNext
  refine wpAny_bind (wpAny_setState_of ho rfl hf ?_)
  dsimp only
  unfold setsByText
  refine wpAny_bind (wpAny_bind (wpAny_askSetting (wpAny_pure ?_)))
  by_cases hb : w.params.followText "set-order" = true
  · have e1 : ordOf w a ep es = pickOrder (w.params.setOrder a ep) es := if_pos hb
    rw [e1] at h
    show wpAny _ _ (if w.params.followText "set-order" = true then _ else _) _ _ _
    rw [if_pos hb]
    simp only [bne_self_eq_false, Bool.false_eq_true, if_false]
    refine wpAny_bind ?_
    unfold setWalk
    refine wpAny_bind (wpAny_setState_of ho rfl hf ?_)
    dsimp only
    unfold setsByText
    refine wpAny_bind (wpAny_bind (wpAny_askSetting (wpAny_pure ?_)))
    show wpAny _ _ (if w.params.followText "set-order" = true then _ else _) _ _ _
    rw [if_pos hb]
    refine wpAny_bind (wpAny_askSetting (wpAny_pure ?_))
    refine wpAny_pure ?_
    have hp := pick_perm (w.params.setOrder a ep) es.size 0 es.toList #[] (by simp)
    have hlt : i < (pickOrder (w.params.setOrder a ep) es).size := by
      have := hp.length_eq
      simp only [Array.length_toList, List.nil_append] at this
      show i < (pickOrder.go _ _ _ _ _).size
      omega
    have hget := Array.getElem?_eq_getElem hlt
    show Q (((pickOrder (w.params.setOrder a ep) es)[i]?).map fun e => (e.2, _)) s
    rw [hget]
    have := h ((pickOrder (w.params.setOrder a ep) es)[i]).2 (by rw [List.getElem?_map, Array.getElem?_toList, hget]; rfl)
    unfold slotAt at this ⊢
    rw [if_pos hb] at this ⊢
    exact this
  · have hb' : w.params.followText "set-order" = false := by simpa using hb
    have e1 : ordOf w a ep es = es := if_neg hb
    rw [e1] at h
    show wpAny _ _ (if w.params.followText "set-order" = true then _ else _) _ _ _
    rw [if_neg hb]
    have hl : (stTab (ledOf w) σ).led = true := by show ledOf w = true; unfold ledOf; rw [hb']; rfl
    have hbel := below_of hσ (i := i) (by omega)
    have hs : slotAt (w.params.followText "set-order") σ i = if i = 0 then 0 else σ.getD (i - 1) 0 + 1 := by unfold slotAt; rw [if_neg hb]
    refine wpAny_bind ?_
    show wpAny _ _ (if ((!(stTab (ledOf w) σ).led) && !es.isEmpty) = true then _ else pure ()) _ _ _
    rw [hl]
    simp only [Bool.not_true, Bool.false_and, Bool.false_eq_true, if_false]
    refine wpAny_pure (wpAny_pure ?_)
    have hpl : (stTab (ledOf w) σ).place = σ.toArray := rfl
    rw [hpl, hs, hbel]
    have hi2 : i < σ.length := by omega
    have g1 : es[i]? = some (es[i].1, es[i].2) := Array.getElem?_eq_getElem hi
    have g2 : σ.toArray[i]? = some σ[i] := by rw [List.getElem?_toArray, List.getElem?_eq_getElem hi2]
    rw [g1, g2]
    dsimp only
    have := h es[i].2 (by rw [List.getElem?_map, Array.getElem?_toList, g1]; rfl)
    unfold slotAt at this
    rw [if_neg hb, if_neg (Nat.succ_ne_zero i), Nat.add_sub_cancel, List.getD_eq_getElem?_getD, List.getElem?_eq_getElem hi2] at this
    exact this
theorem setNext_end {a ep : Nat} {σ : List Nat} {es : Array (Int × Value)} {Q : Option (Value × Nat) → Shared → Prop} (ho : s.heap.get? a = some (setObj (ledOf w) σ es ep)) (hσ : σ ∈ subsOf smalls) (hk : es.toList.map (·.1) = σ.map Int.ofNat)
    (h : Q none s) : wpAny (model prog w) A (setNext a (slotAt (w.params.followText "set-order") σ es.size) es.size ep) Q E s := by
  have hsz := SetN.size hk
  have hf : (stTab (ledOf w) σ).fits es.size = true := by rw [hsz]; exact (fits_of _ hσ).1
  unfold setNext
  refine wpAny_bind (wpAny_setState_of ho rfl hf ?_)
  dsimp only
  unfold setsByText
  refine wpAny_bind (wpAny_bind (wpAny_askSetting (wpAny_pure ?_)))
  by_cases hb : w.params.followText "set-order" = true
  · show wpAny _ _ (if w.params.followText "set-order" = true then _ else _) _ _ _
    rw [if_pos hb]
    simp only [bne_self_eq_false, Bool.false_eq_true, if_false]
    refine wpAny_bind ?_
    unfold setWalk
    refine wpAny_bind (wpAny_setState_of ho rfl hf ?_)
    dsimp only
    unfold setsByText
    refine wpAny_bind (wpAny_bind (wpAny_askSetting (wpAny_pure ?_)))
    show wpAny _ _ (if w.params.followText "set-order" = true then _ else _) _ _ _
    rw [if_pos hb]
    refine wpAny_bind (wpAny_askSetting (wpAny_pure ?_))
    refine wpAny_pure ?_
    have hp := pick_perm (w.params.setOrder a ep) es.size 0 es.toList #[] (by simp)
    have hget : (pickOrder (w.params.setOrder a ep) es)[es.size]? = none := Array.getElem?_eq_none (by
      have := hp.length_eq
      simp only [Array.length_toList, List.nil_append] at this
      show (pickOrder.go _ _ _ _ _).size ≤ _
      omega)
    show Q (((pickOrder (w.params.setOrder a ep) es)[es.size]?).map fun e => (e.2, _)) s
    rw [hget]
    exact h
  · have hb' : w.params.followText "set-order" = false := by simpa using hb
    show wpAny _ _ (if w.params.followText "set-order" = true then _ else _) _ _ _
    rw [if_neg hb]
    have hl : (stTab (ledOf w) σ).led = true := by show ledOf w = true; unfold ledOf; rw [hb']; rfl
    have hbel := below_of hσ (i := es.size) (by omega)
    have hs : slotAt (w.params.followText "set-order") σ es.size = if es.size = 0 then 0 else σ.getD (es.size - 1) 0 + 1 := by unfold slotAt; rw [if_neg hb]
    refine wpAny_bind ?_
    show wpAny _ _ (if ((!(stTab (ledOf w) σ).led) && !es.isEmpty) = true then _ else pure ()) _ _ _
    rw [hl]
    simp only [Bool.not_true, Bool.false_and, Bool.false_eq_true, if_false]
    refine wpAny_pure (wpAny_pure ?_)
    have hpl : (stTab (ledOf w) σ).place = σ.toArray := rfl
    rw [hpl, hs, hbel, Array.getElem?_eq_none (Nat.le_refl _)]
    exact h
theorem pyIter_setN {a ep : Nat} {σ : List Nat} {es : Array (Int × Value)} {Q : Value → Shared → Prop} (ho : s.heap.get? a = some (setObj (ledOf w) σ es ep)) (hσ : σ ∈ subsOf smalls) (hk : es.toList.map (·.1) = σ.map Int.ofNat)
    (h : Q (.ref s.heap.objs.size) { s with heap := s.heap.push { cls := .type "set_iterator", dict := none, data := .fields #[.int (slotAt (w.params.followText "set-order") σ 0) 0, .int 0 0, .ref a, .int es.size 0, .int ep 0], slots := #[] } }) :
    wpAny (model prog w) A (pyIter (.ref a)) Q E s := by
  have hsz := SetN.size hk
  have hf : (stTab (ledOf w) σ).fits es.size = true := by rw [hsz]; exact (fits_of _ hσ).1
  have hT : s.TypeIs (.ref a) "set" := ⟨_, ho, rfl⟩
  have h0 : slotAt (w.params.followText "set-order") σ 0 = 0 := by unfold slotAt; split <;> rfl
  rw [h0] at h
  refine wpAny_pyIter_slot hT F.slot_set_iter (wpAny_call_entry F.slot_set_iter hT entry_set_iter ?_ (F.args_set_iter_1 _))
  unfold Builtin.«frozenset.__iter__»
  refine wpAny_bind ?_
  unfold Builtin.Frozenset.slot0 slotArgs
  simp only [List.isEmpty_nil, Bool.not_true, Bool.false_eq_true, ↓reduceIte, List.length_nil, bne_self_eq_false]
  unfold Builtin.Frozenset.addrOf Builtin.Frozenset.sizeOf
  refine wpAny_bind (wpAny_pure ?_)
  try dsimp only
  refine wpAny_pure ?_
  refine wpAny_bind (wpAny_bind (wpAny_setEntries_of ho rfl hf (wpAny_pure ?_)))
  refine wpAny_bind ?_
  unfold setDrawn setsByText
  refine wpAny_bind (wpAny_setState_of ho rfl hf ?_)
  dsimp only
  refine wpAny_bind (wpAny_bind (wpAny_askSetting (wpAny_pure ?_)))
  refine wpAny_pure ?_
  have hd : (!(stTab (ledOf w) σ).plain && decide (es.size > 1)) = false := rfl
  show wpAny _ _ (if (!(w.params.followText "set-order") && (!(stTab (ledOf w) σ).plain && decide (es.size > 1))) = true then _ else _) _ _ _
  rw [hd, Bool.and_false]
  simp only [Bool.false_eq_true, if_false]
  refine wpAny_bind (wpAny_pure ?_)
  refine wpAny_bind (wpAny_setEpoch_of ho rfl hf ?_)
  refine wpAny_bind (wpAny_newObj_type (wpAny_pure ⟨_, rfl, "set_iterator", _, ⟨_, Heap.get?_push_size _ rfl, rfl⟩, slot_set_iterator_next.lookup, ?_⟩))
  exact h
end

end
noncomputable section
theorem slot_set_iterator_iter : Slot "set_iterator" "__iter__" "set_iterator.__iter__" :=
  .of (owner := "set_iterator") (n := "__iter__") (by rw [typeLookup_type, builtinLookup_eq_fast]; kernel_rfl) (by decide +kernel) (by decide +kernel) (by decide +kernel)
    (by first | exact .inl (by decide +kernel) | exact .inr (by decide +kernel)) (by rw [isSubtype_type]; kernel_rfl)
theorem entry_set_iterator_iter : entryFor table "set_iterator.__iter__" = some Builtin.«dict_keyiterator.__iter__» :=
  entryFor_alias (id' := "dict_keyiterator.__iter__") (by kernel_rfl) rfl (by decide +kernel) (by kernel_rfl)
theorem args_set_iterator_iter (a : Value) : argsOk "set_iterator.__iter__" ⟨[a], []⟩ := by
  unfold argsOk; rw [signature?_of (id := "set_iterator.__iter__") (n := ['_', '_', 'r', 'e', 't', 'i', '_', '_']) (o := ['r', 'o', 't', 'a', 'r', 'e', 't', 'i', '_', 't', 'e', 's']) (by kernel_rfl) owner_set_iterator]; kernel_rfl
section
variable {prog : Program} {w : World} {A : Around} {E : Value → Shared → Prop} {s : Shared}
theorem walks_setN (hh : A.handled = none) (I a : Addr) (hne : a ≠ I) {ep : Nat} {σ : List Nat} {es : Array (Int × Value)} (hσ : σ ∈ subsOf smalls) (hk : es.toList.map (·.1) = σ.map Int.ofNat) :
    Walks prog w A I [I, a] [I] es.size (fun i v => ((ordOf w a ep es).toList.map (·.2))[i]? = some v)
      (fun i h => IsSetIter h I a (slotAt (w.params.followText "set-order") σ i) i es.size ep ∧ h.get? a = some (setObj (ledOf w) σ es ep)) where
  sub := fun b hb => by simp at hb; simp [hb]
  frame := fun i h h' st hk => ⟨hk I (by simp) _ st.1, hk a (by simp) _ st.2⟩
  self := fun i s Q E st hQ => by
    refine wpAny_pyIter_slot (T := "set_iterator") ⟨_, st.1, rfl⟩ slot_set_iterator_iter (wpAny_call_entry slot_set_iterator_iter ⟨_, st.1, rfl⟩ entry_set_iterator_iter ?_ (args_set_iterator_iter _))
    exact wpAny_pure ⟨_, rfl, "set_iterator", _, ⟨_, st.1, rfl⟩, slot_set_iterator_next.lookup, hQ⟩
  item := fun i s Q E hi st hQ => by
    obtain ⟨hit, ho⟩ := st
    have hT : s.TypeIs (.ref I) "set_iterator" := ⟨_, hit, rfl⟩
    have hf : (stTab (ledOf w) σ).fits es.size = true := by rw [SetN.size hk]; exact (fits_of _ hσ).1
    unfold pyNext
    refine wpAny_bind (wpAny_attempt (wpAny_callSpecial?_slot (name := Str.ofString "__next__") hT slot_set_iterator_next
      (wpAny_call_entry slot_set_iterator_next hT entry_set_iterator_next ?_ (args_set_iterator_next _))))
    refine wpAny_bind (wpAny_pure ?_)
    refine wpAny_bind (wpAny_fieldsOf hit rfl ?_)
    refine wpAny_bind (wpAny_setEntries_of ho rfl hf ?_)
    dsimp only
    rw [if_neg (by simp)]
    simp only [Int.toNat_natCast]
    refine wpAny_bind (setNext_item ho hσ hk hi fun v hv => ?_)
    dsimp only
    refine wpAny_bind (wpAny_setField_rec hit (by simp) fun h₁ he₁ hs₁ => ?_)
    refine wpAny_bind (wpAny_setField_rec he₁ (by simp) fun h₂ he₂ hs₂ => ?_)
    refine wpAny_pure ⟨_, rfl, wpAny_pure ?_⟩
    refine hQ v h₂ _ hv ⟨?_, hs₂.extBut _ _ hne (hs₁.extBut _ _ hne ho)⟩ fun b o hb e => hs₂.extBut b o (fun q => hb (by simp [q])) (hs₁.extBut b o (fun q => hb (by simp [q])) e)
    exact he₂
  done := fun s Q E st hQ => by
    obtain ⟨hit, ho⟩ := st
    have hT : s.TypeIs (.ref I) "set_iterator" := ⟨_, hit, rfl⟩
    have hf : (stTab (ledOf w) σ).fits es.size = true := by rw [SetN.size hk]; exact (fits_of _ hσ).1
    unfold pyNext
    refine wpAny_bind (wpAny_attempt (wpAny_callSpecial?_slot (name := Str.ofString "__next__") hT slot_set_iterator_next
      (wpAny_call_entry slot_set_iterator_next hT entry_set_iterator_next ?_ (args_set_iterator_next _))))
    refine wpAny_bind (wpAny_pure ?_)
    refine wpAny_bind (wpAny_fieldsOf hit rfl ?_)
    refine wpAny_bind (wpAny_setEntries_of ho rfl hf ?_)
    dsimp only
    rw [if_neg (by simp)]
    simp only [Int.toNat_natCast]
    refine wpAny_bind (setNext_end ho hσ hk ?_)
    dsimp only
    refine wpAny_bind (wpAny_setField hit rfl (by simp) ?_)
    refine wpAny_bind ?_
    simp only [newExc, newTuple]
    refine wpAny_bind (wpAny_newObj_type ?_ (by size_fits))
    refine wpAny_bind (m := firstArgMember _ _) (wpAny_of_eq (a := Value.none) (by first | rfl | (simp only [firstArgMember]; rfl)) ?_)
    refine wpAny_newObj_type ?_ (by size_fits)
    simp only [raiseNew]
    refine wpAny_bind (wpAny_handled ?_)
    rw [show A.in1.handled = none from hh]
    refine wpAny_bind (wpAny_pure (wpAny_throw ?_))
    refine wpAny_bind (wpAny_isInstance (T := "StopIteration") (b := true) ⟨_, Heap.get?_push_size _ rfl, rfl⟩ isSubtype_stop ?_)
    refine wpAny_pure (hQ _ _ fun b o hb e => ?_)
    exact (((Heap.SameBut.update ..).extBut.push _).push _) b o (fun q => hb (by simp [q])) e
end

end
noncomputable section
section
variable {prog : Program} {w : World} {A : Around} {E : Value → Shared → Prop} {s : Shared}
theorem items_eq {P : List Value} {acc : Array Value} (h : ItemsOf (fun i v => P[i]? = some v) acc P.length) : acc.toList = P := by
  apply List.ext_getElem?
  intro i
  rcases Nat.lt_or_ge i acc.size with hi | hi
  · rw [Array.getElem?_toList, Array.getElem?_eq_getElem hi]
    exact (h.2 i _ (Array.getElem?_eq_getElem hi)).symm
  · rw [List.getElem?_eq_none (by simpa using hi), List.getElem?_eq_none (by rw [← h.1]; exact hi)]
theorem set_no_hint : splitId "set.__len__" = some ("set", "__len__") := by decide +kernel
theorem collect_setN {a ep : Nat} {σ : List Nat} {es : Array (Int × Value)} {Q : List Value → Shared → Prop} (hh : A.handled = none) (ho : s.heap.get? a = some (setObj (ledOf w) σ es ep)) (hσ : σ ∈ subsOf smalls) (hk : es.toList.map (·.1) = σ.map Int.ofNat)
    (h : ∀ h' tk, s.heap.StaysIn h' → s.heap.objs.size ≤ h'.objs.size → Q ((ordOf w a ep es).toList.map (·.2)) { s with heap := h', toks := tk }) : wpAny (model prog w) A (collect (.ref a)) Q E s := by
  have hsz := SetN.size hk
  have h6 := (fits_of (ledOf w) hσ).2.1
  have hlt : a < s.heap.objs.size := Heap.lt_size ho
  have hpl : ((ordOf w a ep es).toList.map (·.2)).length = es.size := by rw [List.length_map, (ord_perm w a ep es).length_eq, Array.length_toList]
  unfold collect
  refine wpAny_bind (wpAny_runValue (codeAny_builtin F.entry_proto_collect ?_))
  rw [Around.under_plainId F.plain_proto_collect _]
  show wpAny _ A.in1 (newList [] >>= fun l => again (.builtin "list.__iadd__" ⟨[l, .ref a], []⟩)) _ _ s
  refine wpAny_bind (wpAny_newObj_type ?_)
  refine wpAny_pure ⟨plainId_quiet F.plain_list_iadd _, codeAny_builtin F.entry_list_iadd ?_⟩
  rw [Around.under_plainId F.plain_list_iadd _]
  have ho₁ : (s.heap.push { cls := .type "list", data := .seq ([] : List Value).toArray }).get? a = some (setObj (ledOf w) σ es ep) := Heap.get?_push_of_some _ ho
  have hS₁ : (s.heap.push { cls := .type "list", data := .seq ([] : List Value).toArray }).get? s.heap.objs.size = some { cls := .type "list", data := .seq ([] : List Value).toArray } := Heap.get?_push_size _ rfl
  have hT₁ : Shared.TypeIs { s with heap := s.heap.push { cls := .type "list", data := .seq ([] : List Value).toArray } } (.ref a) "set" := ⟨_, ho₁, rfl⟩
  show wpAny _ A.in1 (Builtin.List.listExtendWith (.ref s.heap.objs.size) (.ref a) (.ref s.heap.objs.size)) _ _ _
  unfold Builtin.List.listExtendWith
  refine wpAny_bind (wpAny_typeOf hT₁ ?_)
  have h1 : Builtin.List.listSameRef (.ref s.heap.objs.size) (.ref a) = false := by simp [Builtin.List.listSameRef, Nat.ne_of_gt hlt]
  have h2 : (Value.type "set" == Value.type "list") = false := by decide
  have h3 : (Value.type "set" == Value.type "tuple") = false := by decide
  simp only [h1, h2, h3, Bool.or_false, Bool.false_eq_true, if_false]
  refine wpAny_bind (pyIter_setN ho₁ hσ hk ?_)
  dsimp only
  generalize hit : ({ cls := .type "set_iterator", dict := none, data := .fields #[.int (slotAt (w.params.followText "set-order") σ 0) 0, .int 0 0, .ref a, .int es.size 0, .int ep 0], slots := #[] } : Obj) = itO
  have hfr : itO.isFreed = false := by rw [← hit]; rfl
  have ho₂ := Heap.get?_push_of_some itO ho₁
  have hS₂ := Heap.get?_push_of_some itO hS₁
  have hI₂ : ((s.heap.push { cls := .type "list", data := .seq ([] : List Value).toArray }).push itO).get? (s.heap.push { cls := .type "list", data := .seq ([] : List Value).toArray }).objs.size = some itO := Heap.get?_push_size _ hfr
  have hT₂ : Shared.TypeIs { s with heap := (s.heap.push { cls := .type "list", data := .seq ([] : List Value).toArray }).push itO } (.ref a) "set" := ⟨_, ho₂, rfl⟩
  have up : s.heap.StaysIn ((s.heap.push { cls := .type "list", data := .seq ([] : List Value).toArray }).push itO) := fun b o e => Heap.get?_push_of_some _ (Heap.get?_push_of_some _ e)
  have hIs : (s.heap.push { cls := .type "list", data := .seq ([] : List Value).toArray }).objs.size = s.heap.objs.size + 1 := Heap.size_push ..
  rw [hIs] at hI₂ ⊢
  generalize ((s.heap.push { cls := .type "list", data := .seq ([] : List Value).toArray }).push itO) = H₂ at ho₂ hS₂ hI₂ hT₂ up ⊢
  refine wpAny_bind (wpAny_holding ?_)
  unfold Builtin.List.listLengthHint
  refine wpAny_bind (wpAny_specialOf hT₂ F.slot_set_len.lookup ?_)
  generalize hid : ("set.__len__" : String) = id0
  dsimp only
  rw [show splitId id0 = some ("set", "__len__") from by subst hid; exact set_no_hint]
  subst hid
  dsimp only
  refine wpAny_bind (wpAny_isInstance (b := true) hT₂ (by rw [isSubtype_type]; kernel_rfl) ?_)
  rw [if_neg (by decide)]
  refine wpAny_bind (wpAny_typeOf hT₂ ?_)
  dsimp only
  refine wpAny_pure ?_
  rw [if_pos (by decide)]
  refine wpAny_bind (wpAny_rule ?_)
  refine wpAny_bind ?_
  show wpAny _ A.in1 (updateSeq s.heap.objs.size (·.push .none) >>= fun _ => updateSeq s.heap.objs.size (·.pop)) _ _ _
  refine wpAny_bind (wpAny_updateSeq hS₂ rfl ?_)
  have hS₃ := Heap.get?_update_self (Obj.mapSeq (·.push Value.none)) hS₂ rfl
  refine wpAny_updateSeq hS₃ rfl ?_
  have hS₄ := Heap.get?_update_self (Obj.mapSeq (·.pop)) hS₃ rfl
  have oth : ∀ b o, b ≠ s.heap.objs.size → H₂.get? b = some o → ((H₂.update s.heap.objs.size (Obj.mapSeq (·.push Value.none))).update s.heap.objs.size (Obj.mapSeq (·.pop))).get? b = some o :=
    fun b o hb e => (Heap.get?_update_other _ _ (Ne.symm hb)).trans ((Heap.get?_update_other _ _ (Ne.symm hb)).trans e)
  have hne : s.heap.objs.size + 1 ≠ s.heap.objs.size := Nat.succ_ne_self _
  have hI₄ := oth _ _ hne hI₂
  have ho₄ := oth _ _ (Nat.ne_of_lt hlt) ho₂
  have up₄ : ∀ b o, s.heap.get? b = some o → ((H₂.update s.heap.objs.size (Obj.mapSeq (·.push Value.none))).update s.heap.objs.size (Obj.mapSeq (·.pop))).get? b = some o := fun b o e => oth b o (Nat.ne_of_lt (Heap.lt_size e)) (up b o e)
  generalize ((H₂.update s.heap.objs.size (Obj.mapSeq (·.push Value.none))).update s.heap.objs.size (Obj.mapSeq (·.pop))) = H₄ at hS₄ hI₄ ho₄ up₄ ⊢
  subst hit
  have hSf : s.heap.objs.size ∉ [s.heap.objs.size + 1, a] := by
    simp only [List.mem_cons, List.not_mem_nil, or_false, not_or]
    exact ⟨Nat.ne_of_lt (Nat.lt_succ_self _), Nat.ne_of_gt hlt⟩
  refine wpAny_pure ⟨plainId_quiet F.plain_extend_loop _, codeAny_extend_loopS (walks_setN (A := A.in1) hh (s.heap.objs.size + 1) a (Nat.ne_of_lt (Nat.lt_succ_of_lt hlt)) hσ hk).toS (by rw [sizeLine_eq]; omega) _ hSf _ es.size 0 _ _ _ rfl (Nat.zero_le _)
    ⟨hI₄, ho₄⟩ hS₄ (ItemsOf.nil _) fun s' acc' c' hm hS' hacc => ?_⟩
  show wpAny _ A (load s.heap.objs.size >>= _) _ _ s'
  refine wpAny_bind (wpAny_load hS' ?_)
  obtain ⟨h', g', d', tk', os'⟩ := s'
  have eg : g' = s.gens := hm.gens
  have ed : d' = s.drawn := hm.drawn
  have eo : os' = s.os := hm.os
  subst eg; subst ed; subst eo
  refine wpAny_pure ?_
  rw [← hpl] at hacc
  rw [items_eq hacc]
  refine h h' tk' (fun b o e => hm.heap b o ?_ (up₄ b o e)) (Nat.le_of_lt (Heap.lt_size hS'))
  have := Heap.lt_size e
  simp only [List.mem_cons, List.not_mem_nil, or_false, not_or]
  exact ⟨Nat.ne_of_lt this, Nat.ne_of_lt (Nat.lt_succ_of_lt this)⟩
theorem subs_rise : ((subsOf smalls).all fun σ => decide (σ.Pairwise (· < ·))) = true := by decide +kernel
theorem ints_vals : ∀ {es : List (Int × Value)}, (∀ e ∈ es, ∃ t, e.2 = .int e.1 t) → IntsAre (es.map (·.2)) (es.map (·.1))
  | [], _ => .nil
  | e :: r, h => by
    obtain ⟨t, ht⟩ := h e (.head _)
    rw [List.map_cons, List.map_cons, ht]
    exact .cons _ t (ints_vals fun x hx => h x (.tail _ hx))
theorem sorted_setN {a : Addr} {o : Obj} {σ : List Nat} {Q : Value → Shared → Prop} {h₀ : Heap} {L : Addr} {m : Str → Option Value} {news : List (Addr × Obj)} (F : Fr h₀ L s.heap m) (N : News h₀ L s.heap news) (hh : A.handled = none)
    (ho : s.heap.get? a = some o) (hN : SetN (ledOf w) σ o) (hσ : σ ∈ subsOf smalls)
    (h : ∀ D h' tk vs n, Fr h₀ L h' m → News h₀ L h' ((D, listOf vs.toArray n) :: news) → (∀ p ∈ news, p.1 < D) → IntsAre vs (σ.map Int.ofNat) → Q (.ref D) { s with heap := h', toks := tk }) :
    wpAny (model prog w) A (call (.builtin "sorted") [.ref a]) Q E s := by
  obtain ⟨es, ep, rfl, hk, hv⟩ := hN
  have h6 := (fits_of (ledOf w) hσ).2.1
  have hsz := SetN.size hk
  refine Calls.call_function_entry kind_sorted plain_sorted entry_sorted (args_sorted1 _) ?_
  unfold Builtin.«sorted»
  refine wpAny_bind (m := checkCount "sorted" 1 1 _) (wpAny_pure ?_)
  refine wpAny_bind (collect_setN hh ho hσ hk fun h1 tk1 hk1 hs1 => ?_)
  refine wpAny_bind (wpAny_newList ?_ (hsz := by rw [List.length_map, (ord_perm w a ep es).length_eq, Array.length_toList, sizeLine_eq]; omega))
  have hp := ord_perm w a ep es
  have hI : IntsAre ((ordOf w a ep es).toList.map (·.2)) ((ordOf w a ep es).toList.map (·.1)) := ints_vals fun e he => hv e (hp.mem_iff.mp he)
  have hl : ((ordOf w a ep es).toList.map (·.2)).length < 64 := by rw [List.length_map, hp.length_eq, Array.length_toList]; omega
  have hpk := hp.map (·.1)
  rw [hk] at hpk
  generalize ((ordOf w a ep es).toList.map (·.2)) = vs at hI hl ⊢
  generalize ((ordOf w a ep es).toList.map (·.1)) = ns at hI hpk
  have hoL : (h1.push (seqObj "list" vs.toArray 0)).get? h1.objs.size = some (seqObj "list" vs.toArray 0) := Heap.get?_push_size _ rfl
  show wpAny _ _ _ _ _ { s with heap := h1.push (seqObj "list" vs.toArray 0), toks := tk1 }
  refine wpAny_bind (wpAny_holding (wpAny_call_entry slot_list_sort ⟨_, hoL, rfl⟩ entry_list_sort (list_sort_tree hoL hI hl fun out ns' a1 a2 a3 => ⟨_, rfl, ?_⟩) (args_list_sort _)))
  refine wpAny_pure ⟨_, rfl, ?_⟩
  obtain ⟨e, he⟩ := sortedHeap_at (vs := vs) (out := out) hoL
  have e0 : ns' = σ.map Int.ofNat := List.Perm.eq_of_pairwise (fun _ _ _ _ x y => Int.le_antisymm x y) a3 (List.pairwise_map.mpr ((of_decide_eq_true (List.all_eq_true.mp subs_rise σ hσ)).imp fun {x y} hxy => by show (x : Int) ≤ (y : Int); omega)) (a2.trans hpk)
  have hold : s.heap.StaysIn (sortedHeap (h1.push (seqObj "list" vs.toArray 0)) h1.objs.size vs out) := fun b ob eb => by
    have eb1 := hk1 b ob eb
    rw [sortedHeap_old (Nat.ne_of_lt (Heap.lt_size eb1)) (by rw [size_push']; exact Nat.lt_succ_of_lt (Heap.lt_size eb1))]
    exact Heap.get?_push_of_some _ eb1
  refine h _ _ _ out.toList e (F.kept hold) (N.kept_cons F hold hs1 (by simpa using he)) (fun p hp => Nat.lt_of_lt_of_le (Heap.lt_size (N p hp).1) hs1) (e0 ▸ a1)
end

end
noncomputable section
-- tuples of a number and a text
inductive CtsAre : List (Addr × Obj) → List (Nat × List Nat) → Prop
  | nil : CtsAre [] []
  | cons {T : Addr} {p : Nat × List Nat} {tk tv : Tok} {n : Nat} {ts : List (Addr × Obj)} {ps : List (Nat × List Nat)} : CtsAre ts ps → CtsAre ((T, { cls := .type "tuple", data := .seq #[.int (p.1 : Int) tk, .str (sl p.2) tv] n }) :: ts) (p :: ps)
theorem CtsAre.length {ts : List (Addr × Obj)} {ps : List (Nat × List Nat)} (h : CtsAre ts ps) : ts.length = ps.length := by
  induction h with
  | nil => rfl
  | cons _ ih => simp [ih]
theorem CtsAre.append {ts us : List (Addr × Obj)} {ps qs : List (Nat × List Nat)} (h : CtsAre ts ps) (k : CtsAre us qs) : CtsAre (ts ++ us) (ps ++ qs) := by
  induction h with
  | nil => exact k
  | cons _ ih => exact .cons ih
theorem CtsAre.get {ts : List (Addr × Obj)} {ps : List (Nat × List Nat)} (x : CtsAre ts ps) {i : Nat} {q : Addr × Obj} (e : ts[i]? = some q) : ∃ (hi : i < ps.length) (tk tv : Tok) (n : Nat), q.2 = { cls := .type "tuple", data := .seq #[.int (ps[i].1 : Int) tk, .str (sl ps[i].2) tv] n } := by
  induction x generalizing i with
  | nil => cases e
  | @cons T p tk tv n ts ps _ ih =>
    cases i with
    | zero => injection e with e; subst e; exact ⟨Nat.zero_lt_succ _, tk, tv, n, rfl⟩
    | succ i => obtain ⟨hi, r⟩ := ih e; exact ⟨Nat.succ_lt_succ hi, r⟩
theorem CtsAre.isTup {ts : List (Addr × Obj)} {ps : List (Nat × List Nat)} (x : CtsAre ts ps) : ∀ q ∈ ts, q.2.cls = .type "tuple" ∧ E2 fun xs n => q.2.data = .seq xs n := by
  induction x with
  | nil => exact fun _ h => nomatch h
  | cons _ ih =>
    intro q hq
    rcases List.mem_cons.mp hq with rfl | hq
    · exact ⟨rfl, _, _, rfl⟩
    · exact ih q hq
/-- what is a list or a cell is no tuple -/
theorem tup_off {h₀ h : Heap} {L : Addr} {news ts : List (Addr × Obj)} (N : News h₀ L h news) (x : ∀ q ∈ ts, q.2.cls = .type "tuple" ∧ E2 fun xs n => q.2.data = .seq xs n) (hs : ∀ q ∈ ts, q ∈ news) {a : Addr} {o : Obj} (ha : (a, o) ∈ news) (ho : o.cls = .type "list" ∨ ∃ v, o.data = .cell v) : ∀ q ∈ ts, q.1 ≠ a := fun q hq e => by
  have h1 := (N q (hs q hq)).1
  have h2 := (N _ ha).1
  dsimp only at h2
  rw [e, h2] at h1
  injection h1 with h1
  obtain ⟨h3, xs, n, h4⟩ := x q hq
  rcases ho with ho | ⟨v, ho⟩
  · rw [← h1, ho] at h3
    exact absurd h3 (by decide)
  · rw [← h1, ho] at h4
    cases h4
section
variable {prog : Program} {w : World} {A : Around} {E : Value → Shared → Prop} {s : Shared} {a b : Addr} {vs us : List Value} {xs ys : List (List Nat)} {Q : Value → Shared → Prop}
theorem eq_texts (ha : s.heap.IsList a vs.toArray) (hb : s.heap.IsList b us.toArray) (hi : StrsAre vs (xs.map sl)) (hj : StrsAre us (ys.map sl)) (hx : ∀ y ∈ xs, ∀ c ∈ y, c < 128) (hy : ∀ y ∈ ys, ∀ c ∈ y, c < 128) (hu : A.units + 64 < cLine) (h : Q (.bool (decide (xs = ys))) s) :
    wpAny (model prog w) A (compareOp .Eq (.ref a) (.ref b)) Q E s :=
  eq_dataH (reads_newData ha (carried_strs hi)) (reads_newData hb (carried_strs hj)) (shaped_strs hx) (shaped_strs hy) hu (by
    rw [show PyData.eqv (.list ((xs.map sl).map PyData.str)) (.list ((ys.map sl).map PyData.str)) = decide (xs = ys) from by
      simp only [PyData.eqv, eqv_strs, sls_inj]]
    exact h)
end
theorem slice_tail (vs : List Value) (k : Nat) : slicePick vs.toArray (some (k : Int)) none none = (vs.drop k).toArray := by
  rw [slicePick_plain]
  simp only [Option.elim, clipAt_nat, List.size_toArray]
  rcases Nat.lt_or_ge k vs.length with h | h
  · rw [Nat.min_eq_left (Nat.le_of_lt h)]
    congr 1
    rw [List.take_of_length_le]
    rw [List.length_drop]; omega
  · rw [Nat.min_eq_right h, List.drop_of_length_le h, List.drop_of_length_le (Nat.le_refl _)]; simp
theorem cost_small {a b : List Nat} (ha : a.length ≤ 3) (hb : b.length ≤ 3) (h : a ≠ b) : cost a b ∈ smalls := by
  have h1 := cost_bound a b
  have h2 : cost a b ≠ 0 := fun e => h (eq_of_cost _ _ e)
  have h3 : cost a b ≤ 6 := by omega
  generalize cost a b = n at h2 h3
  unfold smalls
  have : n = 1 ∨ n = 2 ∨ n = 3 ∨ n = 4 ∨ n = 5 ∨ n = 6 := by omega
  rcases this with rfl | rfl | rfl | rfl | rfl | rfl <;> decide
theorem fold_mem : ∀ (xs σ : List Nat) (y : Nat), y ∈ xs.foldl addS σ ↔ y ∈ σ ∨ y ∈ xs
  | [], σ, y => by simp
  | x :: xs, σ, y => by
    rw [List.foldl_cons, fold_mem xs (addS σ x) y, List.mem_cons]
    have e : y ∈ addS σ x ↔ y ∈ σ ∨ y = x := by
      unfold addS
      split
      · rename_i hx
        exact ⟨.inl, fun h => h.elim id fun e => e ▸ hx⟩
      · unfold putIn
        rw [List.mem_append, List.mem_cons]
        have e2 : y ∈ σ ↔ y ∈ σ.take (posIn σ x) ∨ y ∈ σ.drop (posIn σ x) := by rw [← List.mem_append, List.take_append_drop]
        rw [e2]
        constructor
        · rintro (h | h | h)
          · exact .inl (.inl h)
          · exact .inr h
          · exact .inl (.inr h)
        · rintro ((h | h) | h)
          · exact .inl h
          · exact .inr (.inr h)
          · exact .inr (.inl h)
    rw [e, or_assoc]
theorem lt_ext_nat : ∀ {a b : List Nat}, a.Pairwise (· < ·) → b.Pairwise (· < ·) → (∀ x, x ∈ a ↔ x ∈ b) → a = b
  | [], [], _, _, _ => rfl
  | [], y :: b, _, _, h => absurd ((h y).mpr (.head _)) List.not_mem_nil
  | x :: a, [], _, _, h => absurd ((h x).mp (.head _)) List.not_mem_nil
  | x :: a, y :: b, ha, hb, h => by
    obtain ⟨a1, a2⟩ := List.pairwise_cons.mp ha
    obtain ⟨b1, b2⟩ := List.pairwise_cons.mp hb
    have e : x = y := by
      rcases List.mem_cons.mp ((h x).mp (.head _)) with e | m1
      · exact e
      · rcases List.mem_cons.mp ((h y).mpr (.head _)) with e | m2
        · exact e.symm
        · exact absurd (Nat.lt_trans (a1 y m2) (b1 x m1)) (Nat.lt_irrefl _)
    subst e
    congr 1
    refine lt_ext_nat a2 b2 fun z => ⟨fun hz => ?_, fun hz => ?_⟩
    · rcases List.mem_cons.mp ((h z).mp (.tail _ hz)) with rfl | m
      · exact absurd (a1 z hz) (Nat.lt_irrefl _)
      · exact m
    · rcases List.mem_cons.mp ((h z).mpr (.tail _ hz)) with rfl | m
      · exact absurd (b1 z hz) (Nat.lt_irrefl _)
      · exact m
theorem figs_fold {v : List Nat} {ws : List (List Nat)} (hs : Small (v :: ws)) (hm : foldS (ws.map (cost v)) ∈ subsOf smalls) : foldS (ws.map (cost v)) = figsOf v ws := by
  refine lt_ext_nat (of_decide_eq_true (List.all_eq_true.mp subs_rise _ hm)) (figs_sorted v ws) fun x => ?_
  rw [figs_mem hs]
  unfold foldS
  rw [fold_mem]
  simp [List.mem_map]
section
variable {prog : Program} {w : World} {A : Around} {E : Value → Shared → Prop} {s : Shared} {h₀ : Heap} {L : Addr} {m : Str → Option Value} {news : List (Addr × Obj)}
theorem set_listN {l : Addr} {vs : List Value} {xs : List Nat} {Q : Value → Shared → Prop} (F : Fr h₀ L s.heap m) (N : News h₀ L s.heap news)
    (hh : A.handled = none) (hl : s.heap.IsList l vs.toArray) (hi : IntsAre vs (xs.map Int.ofNat)) (hsm : ∀ x ∈ xs, x ∈ smalls)
    (h : ∀ S h' tk o, Fr h₀ L h' m → News h₀ L h' ((S, o) :: news) → SetN (ledOf w) (foldS xs) o → foldS xs ∈ subsOf smalls → (∀ p ∈ news, p.1 < S) → Q (.ref S) { s with heap := h', toks := tk }) :
    wpAny (model prog w) A (call (.type "set") [.ref l]) Q E s := by
  refine set_list hh hl (by simpa using hi) hsm fun h' tk o ho hN hσ hk => ?_
  obtain ⟨oL, _, _, hL, _⟩ := F.ns
  have hLlt : L < s.heap.objs.size := Heap.lt_size hL
  refine h _ h' tk o ⟨F.ns.at' fun o' e => hk L o' hLlt e, fun b o' e => hk b o' (Heap.lt_size (F.keep b o' e)) (F.keep b o' e), F.above⟩ (fun p hp => ?_) hN hσ fun p hp => Heap.lt_size (N p hp).1
  rcases List.mem_cons.mp hp with rfl | hp
  · refine ⟨ho, Nat.ne_of_gt hLlt, ?_⟩
    cases hq : h₀.get? s.heap.objs.size with
    | none => rfl
    | some o' => exact absurd (Heap.lt_size (F.keep _ _ hq)) (Nat.lt_irrefl _)
  · exact ⟨hk _ _ (Heap.lt_size (N p hp).1) (N p hp).1, (N p hp).2.1, (N p hp).2.2⟩
end
theorem cts_get {h : Heap} {cts : List (Addr × Obj)} {ps : List (Nat × List Nat)} (hC : CtsAre cts ps) (hk : ∀ q ∈ cts, h.get? q.1 = some q.2) {i : Nat} {v : Value} (e : (cts.map fun q => Value.ref q.1)[i]? = some v) :
    ∃ (hi : i < ps.length) (T : Addr) (tk tv : Tok), v = .ref T ∧ h.IsTuple T #[.int (ps[i].1 : Int) tk, .str (sl ps[i].2) tv] := by
  rw [List.getElem?_map] at e
  obtain ⟨q, hq, rfl⟩ := Option.map_eq_some_iff.mp e
  obtain ⟨hi, tk, tv, n, h2⟩ := hC.get hq
  exact ⟨hi, q.1, tk, tv, rfl, _, (hk q (List.mem_of_getElem? hq)).trans (congrArg some h2), rfl, n, rfl⟩
theorem dig_sl : ∀ n : Nat, n < 10 → Str.ofString (toString (n : Int)) = sl [48 + n] := by decide +kernel
/-- a row is no cell -/
theorem ne_cell {h₀ h : Heap} {L : Addr} {news : List (Addr × Obj)} (N : News h₀ L h news) {a b : Addr} {xs : Array Value} {n : Nat} {o o' : Obj} {v : Option Value} (ha : (a, o) ∈ news) (hl : o.data = .seq xs n) (hb : (b, o') ∈ news) (ho : o'.data = .cell v) : @Ne Nat a b := fun e => by
  have h1 := (N _ ha).1
  have h2 := (N _ hb).1
  dsimp only at h1 h2
  rw [e, h2] at h1
  injection h1 with h1
  rw [h1, hl] at ho
  cases ho
theorem sub_right {α : Type} {r a l : List α} (h : ∀ q ∈ r, q ∈ l) : ∀ q ∈ r, q ∈ a ++ l := fun q hq => List.mem_append_right _ (h q hq)
theorem part_count : ∀ (n : Nat) (ws : List (List Nat)) (p : List Nat), (part n ws p).length ≤ ws.length
  | 0, _, _ => Nat.zero_le _
  | _ + 1, [], _ => Nat.zero_le _
  | n + 1, v :: ws, p => by
    simp only [part, List.length_cons, List.length_flatMap]
    refine Nat.succ_le_succ (Nat.le_trans ?_ (split_len (cost v) (figsOf v ws) (figs_sorted v ws) ws))
    generalize figsOf v ws = fs
    induction fs with
    | nil => exact Nat.le_refl _
    | cons f fs ih =>
      rw [List.map_cons, List.map_cons, List.sum_cons, List.sum_cons]
      exact Nat.add_le_add (part_count n _ _) ih
theorem part_take (n : Nat) (v : List Nat) (ws : List (List Nat)) (p : List Nat) (i : Nat) : (((figsOf v ws).take i).flatMap fun f => part n (ws.filter fun w => cost v w == f) (p ++ [48 + f])).length ≤ ws.length := by
  rw [List.length_flatMap]
  refine Nat.le_trans ?_ (split_len (cost v) ((figsOf v ws).take i) ((figs_sorted v ws).sublist (List.take_sublist _ _)) ws)
  generalize (figsOf v ws).take i = fs
  induction fs with
  | nil => exact Nat.le_refl _
  | cons f fs ih =>
    rw [List.map_cons, List.map_cons, List.sum_cons, List.sum_cons]
    exact Nat.add_le_add (part_count n _ _) ih
theorem news_at {h₀ h : Heap} {L : Addr} {news ts : List (Addr × Obj)} (N : News h₀ L h news) (hs : ∀ x ∈ ts, x ∈ news) : ∀ x ∈ ts, h.get? x.1 = some x.2 := fun x hx => (N x (hs x hx)).1
theorem CtsAre.take {ts : List (Addr × Obj)} {ps : List (Nat × List Nat)} (h : CtsAre ts ps) : ∀ k, CtsAre (ts.take k) (ps.take k) := by
  induction h with
  | nil => intro k; rw [List.take_nil, List.take_nil]; exact .nil
  | cons r ih => intro k; cases k with
    | zero => exact .nil
    | succ k => exact .cons (ih k)
theorem CtsAre.drop {ts : List (Addr × Obj)} {ps : List (Nat × List Nat)} (h : CtsAre ts ps) : ∀ k, CtsAre (ts.drop k) (ps.drop k) := by
  induction h with
  | nil => intro k; rw [List.drop_nil, List.drop_nil]; exact .nil
  | cons r ih => intro k; cases k with
    | zero => exact .cons r
    | succ k => exact ih k
theorem slice_mid (vs : List Value) (a b : Nat) (h : a ≤ b) (k : b ≤ vs.length) : slicePick vs.toArray (some (a : Int)) (some (b : Int)) none = ((vs.drop a).take (b - a)).toArray := by
  rw [slicePick_plain]
  simp only [Option.elim, clipAt_nat, List.size_toArray]
  rw [Nat.min_eq_left (Nat.le_trans h k), Nat.min_eq_left k]

end
noncomputable section
-- the sort as a tree of questions: where the questions are answered by an order of the places, the places come out in that order
structure Ord (r : Nat → Nat → Bool) (n : Nat) : Prop where
  irrefl : ∀ a, r a a = false
  trans : ∀ a b c, r a b = true → r b c = true → r a c = true
  total : ∀ a b, a < n → b < n → a ≠ b → r a b = false → r b a = true
noncomputable def RiseTo (r : Nat → Nat → Bool) (p : Array Nat) (k : Nat) : Prop := ∀ i j, i < j → j < k → r (p.getD i 0) (p.getD j 0) = true
structure PermR (n : Nat) (p : Array Nat) : Prop where
  size : p.size = n
  perm : p.toList.Perm (List.range n)
theorem getD_of {p : Array Nat} {i : Nat} (h : i < p.size) : p.getD i 0 = p.toList[i]'(by simpa using h) := by simp [Array.getD, h]
theorem PermR.lt {n : Nat} {p : Array Nat} (h : PermR n p) {i : Nat} (hi : i < n) : p.getD i 0 < n := by
  have hi' : i < p.size := by rw [h.size]; exact hi
  rw [getD_of hi']
  exact List.mem_range.mp (h.perm.mem_iff.mp (List.getElem_mem _))
theorem PermR.inj {n : Nat} {p : Array Nat} (h : PermR n p) {i j : Nat} (hi : i < j) (hj : j < n) : p.getD i 0 ≠ p.getD j 0 := by
  have hi' : i < p.size := by rw [h.size]; omega
  have hj' : j < p.size := by rw [h.size]; omega
  rw [getD_of hi', getD_of hj']
  have nd : p.toList.Nodup := h.perm.nodup_iff.mpr List.nodup_range
  exact (List.pairwise_iff_getElem.mp nd) i j _ _ hi
theorem PermR.range (n : Nat) : PermR n (List.toArray (List.range n)) := ⟨by simp, by simp⟩
theorem range_getD {n i : Nat} (h : i < n) : (List.toArray (List.range n)).getD i 0 = i := by rw [getD_of (by simpa using h)]; simp
theorem PermR.of {n : Nat} {p q : Array Nat} (h : PermR n p) (e : q.Perm p) : PermR n q := ⟨e.size_eq.trans h.size, (Array.perm_iff_toList_perm.mp e).trans h.perm⟩
theorem getD_bubble {p : Array Nat} {src d : Nat} (hs : src < p.size) (hd : d ≤ src) (k : Nat) : (bubble p src d).getD k 0 = if k = src - d then p.getD src 0 else if src - d < k ∧ k ≤ src then p.getD (k - 1) 0 else p.getD k 0 := by
  have e := getElem?_bubble hs d hd k
  simp only [Array.getD_eq_getD_getElem?]
  rw [e]
  split
  · rfl
  · split <;> rfl
theorem getD_rev {p : Array Nat} {j : Nat} (hj : j ≤ p.size) (k : Nat) : (kas_rev p 0 j).getD k 0 = if k < j then p.getD (j - 1 - k) 0 else p.getD k 0 := by
  have e := getElem?_mirror_all (i := 0) hj k
  simp only [Array.getD_eq_getD_getElem?]
  show ((mirror p 0 j ((j - 0) / 2))[k]?).getD 0 = _
  rw [e]
  by_cases h : k < j
  · rw [if_pos ⟨Nat.zero_le _, h⟩, if_pos h, Nat.zero_add]
  · rw [if_neg (fun c => h c.2), if_neg h]
section
variable {r : Nat → Nat → Bool} {n : Nat} {cmp : Nat → Nat → (Bool → Shared → Prop) → Shared → Prop} {s : Shared}
theorem place_ok (O : Ord r n) (hc : ∀ i j C, i < n → j < i → C (r i j) s → cmp i j C s) {p : Array Nat} (hp : PermR n p) {k : Nat} (hk : k < n) (hx : p.getD k 0 = k) (hpre : ∀ i, i < k → p.getD i 0 < k) (hs : RiseTo r p k) {Q : Nat → Shared → Prop} :
    ∀ (f l u : Nat), u - l ≤ f → l ≤ u → u ≤ k → (∀ i, i < l → r (p.getD i 0) k = true) → (∀ i, u ≤ i → i < k → r k (p.getD i 0) = true) →
      (∀ m, m ≤ k → (∀ i, i < m → r (p.getD i 0) k = true) → (∀ i, m ≤ i → i < k → r k (p.getD i 0) = true) → Q m s) → (kas_place p k f l u).kasWp cmp Q s
  | 0, l, u, hf, hl, hu, h1, h2, hQ => by
    have : l = u := by omega
    subst this
    exact hQ l hu h1 h2
  | f + 1, l, u, hf, hl, hu, h1, h2, hQ => by
    unfold kas_place
    by_cases e : l ≥ u
    · rw [if_pos e]
      have : l = u := by omega
      subst this
      exact hQ l hu h1 h2
    · rw [if_neg e]
      have hm1 : (l + u) / 2 < k := by omega
      show cmp (p.getD k 0) (p.getD ((l + u) / 2) 0) _ s
      rw [hx]
      refine hc _ _ _ hk (hpre _ hm1) ?_
      cases hr : r k (p.getD ((l + u) / 2) 0) with
      | true =>
        dsimp only
        rw [if_pos rfl]
        refine place_ok O hc hp hk hx hpre hs f l ((l + u) / 2) (by omega) (by omega) (by omega) h1 (fun i hi hik => ?_) hQ
        rcases Nat.lt_or_ge ((l + u) / 2) i with h | h
        · exact O.trans _ _ _ hr (hs _ _ h hik)
        · have : i = (l + u) / 2 := by omega
          subst this; exact hr
      | false =>
        dsimp only
        rw [if_neg Bool.false_ne_true]
        refine place_ok O hc hp hk hx hpre hs f ((l + u) / 2 + 1) u (by omega) (by omega) hu (fun i hi => ?_) h2 hQ
        have hpm : p.getD ((l + u) / 2) 0 < k := hpre _ hm1
        have hrm : r (p.getD ((l + u) / 2) 0) k = true := O.total _ _ hk (by omega) (by omega) hr
        rcases Nat.lt_or_ge i ((l + u) / 2) with h | h
        · exact O.trans _ _ _ (hs _ _ h hm1) hrm
        · have : i = (l + u) / 2 := by omega
          subst this; exact hrm
theorem bin_ok (O : Ord r n) (hc : ∀ i j C, i < n → j < i → C (r i j) s → cmp i j C s) {Q : Array Nat → Shared → Prop} (hQ : ∀ p, PermR n p → RiseTo r p n → Q p s) :
    ∀ (f : Nat) (p : Array Nat) (k : Nat), n - k = f → k ≤ n → PermR n p → (∀ i, k ≤ i → i < n → p.getD i 0 = i) → RiseTo r p k → (kas_bin f p k).kasWp cmp Q s
  | 0, p, k, hf, hk, hp, ht, hs => by
    have : k = n := by omega
    subst this
    exact hQ p hp hs
  | f + 1, p, k, hf, hk, hp, ht, hs => by
    have hkn : k < n := by omega
    have hpre : ∀ i, i < k → p.getD i 0 < k := fun i hi => by
      have h1 := hp.lt (i := i) (by omega)
      refine Nat.lt_of_not_le fun c => ?_
      have h2 := ht (p.getD i 0) c h1
      exact hp.inj (i := i) (j := p.getD i 0) (by omega) h1 h2.symm
    unfold kas_bin
    rw [KasT.kasWp_bind]
    refine place_ok O hc hp hkn (ht k (Nat.le_refl _) hkn) hpre hs k 0 k (by omega) (Nat.zero_le _) (Nat.le_refl _) (fun i hi => absurd hi (Nat.not_lt_zero _)) (fun i h1 h2 => absurd h2 (Nat.not_lt.mpr h1)) fun l hl h1 h2 => ?_
    have hb := fun i => getD_bubble (p := p) (src := k) (d := k - l) (by rw [hp.size]; exact hkn) (Nat.sub_le _ _) i
    have hkl : k - (k - l) = l := by omega
    simp only [hkl] at hb
    refine bin_ok O hc hQ f _ (k + 1) (by omega) (by omega) (hp.of (bubble_perm _ _ _)) (fun i hi hin => ?_) (fun i j hij hj => ?_)
    · rw [hb i, if_neg (by omega), if_neg (by omega)]
      exact ht i (by omega) hin
    · rw [hb i, hb j]
      have hxk := ht k (Nat.le_refl _) hkn
      repeat' split
      all_goals first
        | (exfalso; omega)
        | exact hs _ _ (by omega) (by omega)
        | (rw [hxk]; first | exact h1 i (by omega) | exact h2 (j - 1) (by omega) (by omega))
/-- a rising stretch -/
theorem asc_ok (O : Ord r n) {p : Array Nat} (hp : PermR n p) (hc : ∀ i, 0 < i → i < n → ∀ C : Bool → Shared → Prop, C (r (p.getD i 0) (p.getD (i - 1) 0)) s → cmp (p.getD i 0) (p.getD (i - 1) 0) C s) {Q : Nat → Shared → Prop} (m0 : Nat)
    (hQ : ∀ m, m0 ≤ m → 0 < m → m ≤ n → RiseTo r p m → (m < n → r (p.getD m 0) (p.getD (m - 1) 0) = true) → Q m s) : ∀ (f m : Nat), n - m = f → m0 ≤ m → 0 < m → m ≤ n → RiseTo r p m → (kas_asc p f m).kasWp cmp Q s
  | 0, m, hf, h00, h0, hm, hs => hQ m h00 h0 hm hs fun c => absurd c (by omega)
  | f + 1, m, hf, h00, h0, hm, hs => by
    have hmn : m < n := by omega
    show cmp (p.getD m 0) (p.getD (m - 1) 0) _ s
    refine hc m h0 hmn _ ?_
    cases hr : r (p.getD m 0) (p.getD (m - 1) 0) with
    | true =>
      dsimp only
      rw [if_pos rfl]
      exact hQ m h00 h0 hm hs fun _ => hr
    | false =>
      dsimp only
      rw [if_neg Bool.false_ne_true]
      have h1 := O.total _ _ (hp.lt hmn) (hp.lt (by omega)) (Ne.symm (hp.inj (by omega) hmn)) hr
      refine asc_ok O hp hc m0 hQ f (m + 1) (by omega) (by omega) (by omega) hmn fun i j hij hj => ?_
      rcases Nat.lt_or_ge j m with h | h
      · exact hs i j hij h
      · have : j = m := by omega
        subst this
        rcases Nat.lt_or_ge i (j - 1) with h2 | h2
        · exact O.trans _ _ _ (hs i (j - 1) h2 (by omega)) h1
        · have : i = j - 1 := by omega
          subst this; exact h1
noncomputable def FallTo (r : Nat → Nat → Bool) (p : Array Nat) (k : Nat) : Prop := ∀ i j, i < j → j < k → r (p.getD j 0) (p.getD i 0) = true
theorem desc_ok (O : Ord r n) {p : Array Nat} (hp : PermR n p) (hc : ∀ i j C, i < n → j < n → i ≠ j → C (r i j) s → cmp i j C s) {Q : Array Nat × Nat × Nat → Shared → Prop}
    (hQ : ∀ i, 2 ≤ i → i ≤ n → FallTo r p i → Q (p, i, 0) s) : ∀ (f i : Nat), n - i = f → 2 ≤ i → i ≤ n → FallTo r p i → (kas_desc f p i 0).kasWp cmp Q s
  | 0, i, hf, h2, hi, hs => hQ i h2 hi hs
  | f + 1, i, hf, h2, hi, hs => by
    have hin : i < n := by omega
    have hne := hp.inj (i := i - 1) (j := i) (by omega) hin
    have hl1 := hp.lt hin
    have hl2 := hp.lt (i := i - 1) (by omega)
    show cmp (p.getD i 0) (p.getD (i - 1) 0) _ s
    refine hc _ _ _ hl1 hl2 (Ne.symm hne) ?_
    cases hr : r (p.getD i 0) (p.getD (i - 1) 0) with
    | true =>
      dsimp only
      rw [if_pos rfl, if_neg (by omega)]
      refine desc_ok O hp hc hQ f (i + 1) (by omega) (by omega) hin fun a b hab hb => ?_
      rcases Nat.lt_or_ge b i with h | h
      · exact hs a b hab h
      · have : b = i := by omega
        subst this
        rcases Nat.lt_or_ge a (b - 1) with h3 | h3
        · exact O.trans _ _ _ hr (hs a (b - 1) h3 (by omega))
        · have : a = b - 1 := by omega
          subst this; exact hr
    | false =>
      dsimp only
      rw [if_neg Bool.false_ne_true]
      show cmp (p.getD (i - 1) 0) (p.getD i 0) _ s
      refine hc _ _ _ hl2 hl1 hne ?_
      rw [O.total _ _ hl1 hl2 (Ne.symm hne) hr]
      dsimp only
      rw [if_pos rfl]
      exact hQ i h2 hi hs
theorem count_ok (O : Ord r n) (h2 : 2 ≤ n) (hc : ∀ i j C, i < n → j < n → i ≠ j → C (r i j) s → cmp i j C s) {Q : Nat × Array Nat → Shared → Prop}
    (hQ : ∀ m p, 0 < m → m ≤ n → PermR n p → (∀ i, m ≤ i → i < n → p.getD i 0 = i) → RiseTo r p m → Q (m, p) s) : (kas_count n (List.toArray (List.range n))).kasWp cmp Q s := by
  have hp := PermR.range n
  have ht : ∀ i, i < n → (List.toArray (List.range n)).getD i 0 = i := fun i hi => range_getD hi
  generalize List.toArray (List.range n) = p at hp ht
  have hadj : ∀ (p : Array Nat), PermR n p → ∀ i, 0 < i → i < n → ∀ C : Bool → Shared → Prop, C (r (p.getD i 0) (p.getD (i - 1) 0)) s → cmp (p.getD i 0) (p.getD (i - 1) 0) C s := fun p hp i h0 hi C h => hc _ _ _ (hp.lt hi) (hp.lt (by omega)) (Ne.symm (hp.inj (by omega) hi)) h
  unfold kas_count
  rw [KasT.kasWp_bind]
  refine asc_ok O hp (hadj p hp) 1 (fun m _ h0 hm hs hend => ?_) (n - 1) 1 rfl (Nat.le_refl _) (by omega) (by omega) (fun i j h1 h2 => absurd h1 (by omega))
  by_cases e : m = n
  · subst e
    rw [if_pos (by simp)]
    exact hQ _ p h0 hm hp (fun i h1 h2 => ht i h2) hs
  · rw [if_neg (by simpa using e)]
    by_cases e1 : m > 1
    · rw [if_pos e1]
      show cmp (p.getD 0 0) (p.getD (m - 1) 0) _ s
      have hr := hs 0 (m - 1) (by omega) (by omega)
      refine hc _ _ _ (hp.lt (by omega)) (hp.lt (by omega)) (hp.inj (by omega) (by omega)) ?_
      rw [hr]
      dsimp only
      rw [if_pos rfl]
      exact hQ m p h0 hm hp (fun i h1 h2 => ht i h2) hs
    · rw [if_neg e1]
      have e2 : m = 1 := by omega
      subst e2
      have hr := hend (by omega)
      unfold kas_descPart
      rw [KasT.kasWp_bind]
      refine desc_ok O hp hc (fun i h2i hi hf => ?_) (n - (1 + 1)) 2 rfl (Nat.le_refl _) h2 (fun a b hab hb => ?_)
      · dsimp only
        rw [if_neg (by omega)]
        unfold kas_tail3
        rw [KasT.kasWp_bind]
        have hp' : PermR n (kas_rev p 0 i) := hp.of (mirror_perm _ _ _ _)
        have hg := fun k => getD_rev (p := p) (j := i) (by rw [hp.size]; exact hi) k
        refine asc_ok O hp' (hadj _ hp') i (fun m h00' h0' hm' hs' _ => ?_) (n - i) i rfl (Nat.le_refl _) (by omega) hi (fun a b hab hb => ?_)
        · refine hQ m _ h0' hm' hp' (fun j h1 h2 => ?_) hs'
          rw [hg j, if_neg (by omega)]
          exact ht j h2
        · rw [hg a, hg b, if_pos (by omega), if_pos hb]
          exact hf _ _ (by omega) (by omega)
      · have : a = 0 := by omega
        have : b = 1 := by omega
        subst a b
        exact hr
theorem sort_of (O : Ord r n) (hc : ∀ i j C, i < n → j < i → C (r i j) s → cmp i j C s) {Q : Array Nat → Shared → Prop} (hQ : ∀ p, PermR n p → RiseTo r p n → Q p s)
    (h : ∀ {Q' : Nat × Array Nat → Shared → Prop}, (∀ m p, 0 < m → m ≤ n → PermR n p → (∀ i, m ≤ i → i < n → p.getD i 0 = i) → RiseTo r p m → Q' (m, p) s) → (kas_count n (List.toArray (List.range n))).kasWp cmp Q' s) : (kas_sort n).kasWp cmp Q s := by
  unfold kas_sort
  rw [KasT.kasWp_bind]
  refine h fun m p h0 hm hp ht hs => ?_
  dsimp only
  have e : max m 1 = m := by omega
  rw [e]
  by_cases hmn : m < n
  · rw [if_pos hmn]
    exact bin_ok O hc hQ (n - m) p m rfl hm hp ht hs
  · rw [if_neg hmn]
    have : m = n := by omega
    subst this
    exact hQ p hp hs
/-- the sort by an order of the places -/
theorem sort_ok (O : Ord r n) (h2 : 2 ≤ n) (hc : ∀ i j C, i < n → j < n → i ≠ j → C (r i j) s → cmp i j C s) {Q : Array Nat → Shared → Prop} (hQ : ∀ p, PermR n p → RiseTo r p n → Q p s) : (kas_sort n).kasWp cmp Q s :=
  sort_of O (fun i j C hi hj h => hc i j C hi (by omega) (by omega) h) hQ fun hQ' => count_ok O h2 hc hQ'
/-- the same where only a later place is held against an earlier one, and the first place is the least -/
theorem sort_ok2 (O : Ord r n) (h2 : 2 ≤ n) (hc : ∀ i j C, i < n → j < i → C (r i j) s → cmp i j C s) (h1 : r 1 0 = false) (h0 : ∀ j C, 0 < j → j < n → C true s → cmp 0 j C s) {Q : Array Nat → Shared → Prop} (hQ : ∀ p, PermR n p → RiseTo r p n → Q p s) : (kas_sort n).kasWp cmp Q s := by
  refine sort_of O hc hQ fun {Q'} hQ' => ?_
  have hp := PermR.range n
  have ht : ∀ i, i < n → (List.toArray (List.range n)).getD i 0 = i := fun i hi => range_getD hi
  generalize List.toArray (List.range n) = p at hp ht
  have hadj : ∀ i, 0 < i → i < n → ∀ C : Bool → Shared → Prop, C (r (p.getD i 0) (p.getD (i - 1) 0)) s → cmp (p.getD i 0) (p.getD (i - 1) 0) C s := fun i h0 hi C h => by
    rw [ht i hi, ht (i - 1) (by omega)] at h ⊢
    exact hc _ _ _ hi (by omega) h
  unfold kas_count
  rw [KasT.kasWp_bind]
  refine asc_ok O hp hadj 1 (fun m _ hm0 hm hs hend => ?_) (n - 1) 1 rfl (Nat.le_refl _) (by omega) (by omega) (fun i j h1 h2 => absurd h1 (by omega))
  by_cases e : m = n
  · subst e
    rw [if_pos (by simp)]
    exact hQ' _ p hm0 hm hp (fun i h1 h2 => ht i h2) hs
  · rw [if_neg (by simpa using e)]
    have e1 : m > 1 := by
      refine Nat.lt_of_not_le fun c => ?_
      have e2 : m = 1 := by omega
      subst e2
      have := hend (by omega)
      rw [ht 1 (by omega), ht 0 (by omega), h1] at this
      cases this
    rw [if_pos e1]
    show cmp (p.getD 0 0) (p.getD (m - 1) 0) _ s
    rw [ht 0 (by omega), ht (m - 1) (by omega)]
    refine h0 _ _ (by omega) (by omega) ?_
    dsimp only
    rw [if_pos rfl]
    exact hQ' m p hm0 hm hp (fun i h1 h2 => ht i h2) hs
end

end
noncomputable section
-- a dict comprehension without a test, its keys texts, of any target and cells
section
variable {prog : Program} {w : World} {A : Around} {E : Value → Shared → Prop} {R : Result → Shared → Prop} {s : Shared}
theorem compLoopD_any {kx vx target iter : Expr} {scope : Scope} {pos : Pos} {it : Value} {D : Addr} {env : Env} (I : Nat → Shared → Prop)
    (turn : ∀ n s, I n s → wpAny (model prog w) A (pyNext it) (fun r s₁ => match r with
      | none => R (.ok .next) s₁
      | some v => wpAny (model prog w) A (letOwnedTupleGo target it v) (fun _ s₁' => wpAny (model prog w) A (assign target env v) (fun _ s₂ =>
          wpAny (model prog w) A (eval kx env) (fun kv s₄ => wpAny (model prog w) A (eval vx env) (fun vv s₅ =>
            wpAny (model prog w) A (dictSet D kv vv) (fun _ s₆ => ∃ m, m < n ∧ I m s₆) (fun _ _ => False) s₅) (fun _ _ => False) s₄) (fun _ _ => False) s₂) (fun _ _ => False) s₁') (fun _ _ => False) s₁) (fun _ _ => False) s)
    (n : Nat) (h : I n s) : codeAny (model prog w) A (.compLoop (.DictComp kx vx [⟨target, iter, [], 0⟩] scope pos) 0 it (.ref D) env) R s := by
  refine codeAny_loop rfl I (fun n s hI => ?_) n h
  show wpAny _ A ((compTurn (.DictComp kx vx [⟨target, iter, [], 0⟩] scope pos) 0 it (.ref D) env).onRaise (fun x => do noteFrame x env; theTreesLotGoes x)) _ _ s
  refine wpAny_noted ?_
  rw [compTurn_dict]
  refine wpAny_bind (wpAny_standAt (wpAny_bind (wpAny_mono (turn n s hI) (fun r s₁ h₁ => ?_) fun _ _ h' => h'.elim)))
  cases r with
  | none => exact wpAny_pure h₁
  | some v =>
    refine wpAny_bind (wpAny_mono h₁ (fun _ s₁' h₁' => ?_) fun _ _ h' => h'.elim)
    refine wpAny_bind (wpAny_mono h₁' (fun _ s₂ h₂ => ?_) fun _ _ h' => h'.elim)
    refine wpAny_bind (wpAny_pure ?_)
    exact wpAny_bind (wpAny_bind (wpAny_mono h₂ (fun kv s₄ h₄ => wpAny_bind (wpAny_holding (wpAny_mono h₄ (fun vv s₅ h₅ => wpAny_bind (wpAny_standAt (wpAny_holding (wpAny_mono h₅ (fun _ s₆ h₆ => wpAny_pure ⟨rfl, h₆⟩) fun _ _ h' => h'.elim)))) fun _ _ h' => h'.elim))) fun _ _ h' => h'.elim))
end
section
variable {prog : Program} {w : World} {A : Around} {E : Value → Shared → Prop} {s : Shared}
/-- the block, by turns; g is what stands -/
theorem comp_blockD {kx vx target iter : Expr} {scope : Scope} {cl : List (Str × Addr)} {pos : Pos} {env : Env} {I : Addr} {fp wr : List Addr} {n : Nat} {P : Nat → Value → Heap → Prop} {St : Nat → Heap → Prop} {g : Heap}
    {RR : Value → Addr → Result → Shared → Prop} (W : Wk prog w A target I fp wr n P St) (hsz : n ≤ sizeLine) (hst : St 0 s.heap) (hg : g.StaysIn s.heap) (hgs : g.objs.size ≤ s.heap.objs.size)
    (hwr : ∀ b ∈ wr, g.get? b = none ∧ b < s.heap.objs.size) (hfp : ∀ b ∈ fp, b ∈ wr ∨ ∃ o, g.get? b = some o) (hkind : scope.kind = .function)
    (J : Addr → Nat → List (Str × Value) → (Str → Option Value) → List (Addr × Obj) → Prop) (h0 : ∀ C cells, g.objs.size ≤ C → CellsAre (fun _ => none) (cellsFrom (C + 1) scope.names []) cells → J C 0 [] (fun _ => none) cells)
    (hlen : ∀ C i kvs m nw, J C i kvs m nw → kvs.length ≤ i)
    (step : ∀ C i v kvs m nw rest h tk, i < n → J C i kvs m nw → P i v h → Fr g C h m → News g C h (nw ++ rest) → (∀ p ∈ nw, ∀ q ∈ rest, p.1 ≠ q.1) →
      wpAny (model prog w) A (assign target (compEnvC scope (cellsFrom (C + 1) scope.names cl) C env) v) (fun _ s₂ =>
        wpAny (model prog w) A (eval kx (compEnvC scope (cellsFrom (C + 1) scope.names cl) C env)) (fun kv s₃ => ∃ k t, kv = .str k t ∧ wpAny (model prog w) A (eval vx (compEnvC scope (cellsFrom (C + 1) scope.names cl) C env)) (fun y => CEnd g C s rest (J C (i + 1) (stored kvs k y))) (fun _ _ => False) s₃) (fun _ _ => False) s₂) (fun _ _ => False) { s with heap := h, toks := tk })
    (hRR : ∀ D C kvs o m nw h tk, J C n kvs m nw → o.IsDictOf (PySem.strKind prog w) kvs → Fr g C h m → News g C h (nw ++ [(D, o)]) → (∀ p ∈ nw, p.1 ≠ D) → C ≠ D → s.heap.objs.size ≤ C → s.heap.objs.size ≤ D → RR (.ref D) C (.ok .next) { s with heap := h, toks := tk }) :
    wpAny (model prog w) A newDict (fun acc s₃ => wpAny (model prog w) A (newFunctionEnv scope env.globals cl [] env.qual none .none (some env)) (fun cenv s₄ =>
      codeAny (model prog w) A (.compStart (.DictComp kx vx [⟨target, iter, [], 0⟩] scope pos) 0 (.ref I) acc { cenv with scope := relabel scope env }) (RR acc cenv.locals) s₄) E s₃) E s := by
  have fresh : ∀ a, s.heap.objs.size ≤ a → g.get? a = none := fun a ha => Heap.get?_none_of_le (Nat.le_trans hgs ha)
  refine wpAny_newObj_type (newEnv_cells fun h₁ hk₁ hns₁ hc₁ => ?_)
  dsimp only at hk₁ hns₁ hc₁ ⊢
  obtain ⟨o0, hDo, hd0⟩ : ∃ o0, h₁.get? s.heap.objs.size = some o0 ∧ o0.IsDictOf (PySem.strKind prog w) [] :=
    Heap.dictOf_iff.mp ((Heap.DictOf.new (knd := PySem.strKind prog w) s.heap).at fun o e => hk₁ _ _ e)
  have hk₀ : s.heap.StaysIn h₁ := fun b o e => hk₁ b o (Heap.get?_push_of_some _ e)
  rw [Heap.size_push] at hns₁ hc₁ ⊢
  generalize hD : s.heap.objs.size = D at *
  have hst₁ : St 0 h₁ := W.frame _ _ _ hst fun b _ o e => hk₀ b o e
  obtain ⟨cells, N₁, hcl⟩ : ∃ cells, News g (D + 1) h₁ cells ∧ CellsAre (fun _ => none) (cellsFrom (D + 1 + 1) scope.names []) cells :=
    Cl.news (h₀ := g) (cm := fun _ => none) (Nat.le_trans hgs (Nat.le_succ D)) fun n c hm => ⟨(hc₁ n c hm).1, (hc₁ n c hm).2⟩
  have hcD : ∀ p ∈ cells, D + 1 < p.1 := fun p hp => by
    obtain ⟨n', hn'⟩ := cellsAre_mem hcl p hp
    exact (hc₁ n' p.1 hn').2
  have hg₁ : g.StaysIn h₁ := fun b o e => hk₀ b o (hg b o e)
  have hDw : D ∉ wr := fun hm => Nat.lt_irrefl _ (hwr _ hm).2
  have hCw : D + 1 ∉ wr := fun hm => Nat.lt_irrefl _ (Nat.lt_trans (hwr _ hm).2 (Nat.lt_succ_self D))
  have loop : codeAny (model prog w) A (.compLoop (.DictComp kx vx [⟨target, iter, [], 0⟩] scope pos) 0 (.ref I) (.ref D) (compEnvC scope (cellsFrom (D + 1 + 1) scope.names cl) (D + 1) env)) (RR (.ref D) (D + 1)) { s with heap := h₁ } := by
    refine compLoopD_any (fun k s' => E8 fun i kvs oD m nw ws h tk => A10 (s' = { s with heap := h, toks := tk }) (i ≤ n) (k = n + 1 - i) (oD.IsDictOf (PySem.strKind prog w) kvs) (St i h) (ws.map (·.1) = wr) (Fr g (D + 1) h m) (News g (D + 1) h (nw ++ (ws ++ [(D, oD)]))) (∀ p ∈ nw, p.1 ∉ wr ∧ p.1 ≠ D) (J (D + 1) i kvs m nw)) ?_ (n + 1) ?_
    · rintro k s' ⟨i, kvs, oD, m, nw, ws, h, tk, rfl, hi, rfl, hyl, hSt, hws, F, N, hoff, hJ⟩
      by_cases hlt : i < n
      · refine W.item i _ _ _ _ hlt hSt fun v h₂ tk₂ hP hSt₂ hk₂ => ?_
        dsimp only at hk₂
        have F₂ : Fr g (D + 1) h₂ m := by
          obtain ⟨oL, es, ep, hL, hLd, hLk, hLf⟩ := F.ns
          exact ⟨⟨oL, es, ep, hk₂ _ _ hCw hL, hLd, hLk, hLf⟩, fun b o e => hk₂ b o (fun hb => by rw [(hwr b hb).1] at e; cases e) (F.keep b o e), F.above⟩
        obtain ⟨ws₂, hws₂, hws₂e⟩ := objs_of (W.own _ _ hSt₂)
        have N₂ : News g (D + 1) h₂ (nw ++ (ws₂ ++ [(D, oD)])) := fun p hp => by
          rcases List.mem_append.mp hp with hp | hp
          · have z := N p (List.mem_append_left _ hp)
            exact ⟨hk₂ _ _ (hoff p hp).1 z.1, z.2⟩
          · rcases List.mem_append.mp hp with hp | hp
            · have hm : p.1 ∈ wr := hws₂ ▸ List.mem_map_of_mem hp
              exact ⟨hws₂e p hp, fun q => hCw (q ▸ hm), (hwr _ hm).1⟩
            · have z := N p (List.mem_append_right _ (List.mem_append_right _ hp))
              rw [List.mem_singleton.mp hp] at z ⊢
              exact ⟨hk₂ _ _ hDw z.1, z.2⟩
        have hoff₂ : ∀ p ∈ nw, ∀ q ∈ ws₂ ++ [(D, oD)], p.1 ≠ q.1 := fun p hp q hq => by
          rcases List.mem_append.mp hq with hq | hq
          · intro e; exact (hoff p hp).1 (e ▸ hws₂ ▸ List.mem_map_of_mem hq)
          · rw [List.mem_singleton.mp hq]; exact (hoff p hp).2
        refine wpAny_mono (step (D + 1) i v kvs m nw (ws₂ ++ [(D, oD)]) h₂ tk₂ hlt hJ hP F₂ N₂ hoff₂) (fun _ s₂ h₂' => ?_) fun _ _ x => x
        have stepSt : ∀ h₄ m₄ nw₄, Fr g (D + 1) h₄ m₄ → News g (D + 1) h₄ (nw₄ ++ (ws₂ ++ [(D, oD)])) → St (i + 1) h₄ := fun h₄ m₄ nw₄ F₄ N₄ => W.frame _ _ _ hSt₂ fun b hb o e => by
          rcases hfp b hb with hb | ⟨o', ho'⟩
          · obtain ⟨q, hq, rfl⟩ := List.mem_map.mp (hws₂ ▸ hb : b ∈ ws₂.map (·.1))
            rw [hws₂e q hq] at e; cases e
            exact (N₄ q (List.mem_append_right _ (List.mem_append_left _ hq))).1
          · rw [F₂.keep b o' ho'] at e; cases e
            exact F₄.keep _ _ ho'
        have hoff₄ : ∀ nw₄ : List (Addr × Obj), (∀ p ∈ nw₄, ∀ q ∈ ws₂ ++ [(D, oD)], p.1 ≠ q.1) → ∀ p ∈ nw₄, p.1 ∉ wr ∧ p.1 ≠ D := fun nw₄ ho p hp =>
          ⟨fun hm => by
            obtain ⟨q, hq, e⟩ := List.mem_map.mp (hws₂ ▸ hm : p.1 ∈ ws₂.map (·.1))
            exact ho p hp q (List.mem_append_left _ hq) e.symm, ho p hp _ (List.mem_append_right _ (List.mem_singleton.mpr rfl))⟩
        refine wpAny_mono h₂' (fun kv s₃ h₃ => ?_) fun _ _ x => x
        obtain ⟨kk, tkk, rfl, h₃⟩ := h₃
        refine wpAny_mono h₃ (fun y s₄ h₄ => ?_) fun _ _ x => x
        obtain ⟨h₄, tk₄, m₄, nw₄, rfl, F₄, N₄, o₄, J₄⟩ := h₄
        have zD := (N₄ (D, oD) (List.mem_append_right _ (List.mem_append_right _ (List.mem_singleton.mpr rfl)))).1
        have hD₀ : g.get? D = none := fresh D (Nat.le_refl _)
        have hkl := hlen _ _ _ _ _ hJ
        refine wpAny_dictSet_pairs (hsz := by omega) (PySem.strKind_is _ _ _ _) (Heap.dictOf_iff.mpr ⟨oD, zD, hyl⟩) fun h₅ hd₅ hs₅ => ?_
        dsimp only at hs₅
        obtain ⟨o₅, hD₅, hy₅⟩ := Heap.dictOf_iff.mp hd₅
        refine ⟨n + 1 - (i + 1), by omega, i + 1, stored kvs kk y, o₅, m₄, nw₄, ws₂, h₅, _, rfl, hlt, rfl, hy₅, ?_, hws₂, F₄.change hs₅ (Nat.ne_of_lt (Nat.lt_succ_self D)) hD₀, fun p hp => ?_, hoff₄ _ o₄, J₄⟩
        · refine W.frame _ _ _ (stepSt _ _ _ F₄ N₄) fun b hb o e => hs₅.extBut b o (fun q => ?_) e
          rcases hfp b hb with hb | ⟨o', ho'⟩
          · exact hDw (q ▸ hb)
          · rw [q, hD₀] at ho'; cases ho'
        · rcases List.mem_append.mp hp with hp | hp
          · exact ⟨hs₅.extBut _ _ (hoff₄ _ o₄ p hp).2 (N₄ p (List.mem_append_left _ hp)).1, (N₄ p (List.mem_append_left _ hp)).2⟩
          · rcases List.mem_append.mp hp with hp | hp
            · have z := N₄ p (List.mem_append_right _ (List.mem_append_left _ hp))
              exact ⟨hs₅.extBut _ _ (fun q => hDw (q ▸ hws₂ ▸ List.mem_map_of_mem hp)) z.1, z.2⟩
            · rw [List.mem_singleton.mp hp]
              exact ⟨hD₅, by show D ≠ D + 1; omega, hD₀⟩
      · obtain rfl : i = n := Nat.le_antisymm hi (Nat.not_lt.mp hlt)
        refine W.done _ _ _ hSt fun h₂ tk₂ hk₂ => ?_
        dsimp only at hk₂
        refine hRR D (D + 1) kvs oD m nw h₂ tk₂ hJ hyl ?_ (fun p hp => ?_) (fun p hp => (hoff p hp).2) (Nat.succ_ne_self D) (Nat.le_succ D) (Nat.le_refl _)
        · obtain ⟨oL, es, ep, hL, hLd, hLk, hLf⟩ := F.ns
          exact ⟨⟨oL, es, ep, hk₂ _ _ hCw hL, hLd, hLk, hLf⟩, fun b o e => hk₂ b o (fun hb => by rw [(hwr b hb).1] at e; cases e) (F.keep b o e), F.above⟩
        · rcases List.mem_append.mp hp with hp | hp
          · have z := N p (List.mem_append_left _ hp)
            exact ⟨hk₂ _ _ (hoff p hp).1 z.1, z.2⟩
          · have z := N p (List.mem_append_right _ (List.mem_append_right _ hp))
            rw [List.mem_singleton.mp hp] at z ⊢
            exact ⟨hk₂ _ _ hDw z.1, z.2⟩
    · obtain ⟨ws, hws, hwse⟩ := objs_of (W.own _ _ hst₁)
      refine ⟨0, [], o0, _, cells, ws, h₁, _, rfl, Nat.zero_le _, rfl, hd0, hst₁, hws, ⟨hns₁, hg₁, by omega⟩, fun p hp => ?_, fun p hp => ?_, h0 _ _ (by omega) hcl⟩
      · rcases List.mem_append.mp hp with hp | hp
        · exact N₁ p hp
        · rcases List.mem_append.mp hp with hp | hp
          · have hm : p.1 ∈ wr := hws ▸ List.mem_map_of_mem hp
            exact ⟨hwse p hp, fun q => hCw (q ▸ hm), (hwr _ hm).1⟩
          · rw [List.mem_singleton.mp hp]
            exact ⟨hDo, by show D ≠ D + 1; omega, fresh D (Nat.le_refl _)⟩
      · have hlt := Nat.lt_trans (Nat.lt_succ_self D) (hcD p hp)
        exact ⟨fun hm => Nat.lt_irrefl _ (Nat.lt_trans (hwr _ hm).2 hlt), Nat.ne_of_gt hlt⟩
  exact codeAny_compStart_dict loop (W.self 0 _ _ _ hst₁ loop)
noncomputable abbrev CStepD (prog : Program) (w : World) (A : Around) (env : Env) (kx vx target : Expr) (scope : Scope) (cl : List (Str × Addr)) (s₁ : Shared) (g : Heap) (n : Nat) (P : Nat → Value → Heap → Prop)
    (J : Addr → Nat → List (Str × Value) → (Str → Option Value) → List (Addr × Obj) → Prop) : Prop :=
  ∀ C i v kvs m nw rest h tk, i < n → J C i kvs m nw → P i v h → Fr g C h m → News g C h (nw ++ rest) → (∀ p ∈ nw, ∀ q ∈ rest, p.1 ≠ q.1) →
      wpAny (model prog w) A (assign target (compEnvC scope (cellsFrom (C + 1) scope.names cl) C env) v) (fun _ s₂ =>
        wpAny (model prog w) A (eval kx (compEnvC scope (cellsFrom (C + 1) scope.names cl) C env)) (fun kv s₃ => ∃ k t, kv = .str k t ∧ wpAny (model prog w) A (eval vx (compEnvC scope (cellsFrom (C + 1) scope.names cl) C env)) (fun y => CEnd g C s₁ rest (J C (i + 1) (stored kvs k y))) (fun _ _ => False) s₃) (fun _ _ => False) s₂) (fun _ _ => False) { s₁ with heap := h, toks := tk }
noncomputable abbrev CStartD (scope : Scope) (g : Heap) (J : Addr → Nat → List (Str × Value) → (Str → Option Value) → List (Addr × Obj) → Prop) : Prop :=
  ∀ C cells, g.objs.size ≤ C → CellsAre (fun _ => none) (cellsFrom (C + 1) scope.names []) cells → J C 0 [] (fun _ => none) cells
noncomputable abbrev CDoneD (prog : Program) (w : World) (g : Heap) (n : Nat) (J : Addr → Nat → List (Str × Value) → (Str → Option Value) → List (Addr × Obj) → Prop) (Fin : Addr → Addr → Shared → Prop) (s₁ : Shared) : Prop :=
  ∀ D C kvs o m nw h tk, J C n kvs m nw → o.IsDictOf (PySem.strKind prog w) kvs → Fr g C h m → News g C h (nw ++ [(D, o)]) → (∀ p ∈ nw, p.1 ≠ D) → C ≠ D → g.objs.size ≤ D → Fin D C { s₁ with heap := h, toks := tk }
/-- a dict comprehension over a row: from here the block's turns -/
noncomputable def CompD (prog : Program) (w : World) (A : Around) (env : Env) (kx vx target : Expr) (scope : Scope) (cl : List (Str × Addr)) (Fin : Addr → Addr → Shared → Prop) (xv : Value) (s₁ : Shared) : Prop :=
  E3 fun (ax : Addr) (items : Array Value) (J : Addr → Nat → List (Str × Value) → (Str → Option Value) → List (Addr × Obj) → Prop) => A7 (xv = .ref ax) (s₁.heap.IsList ax items) (items.size ≤ sizeLine) (CStartD scope s₁.heap J) (∀ C i kvs m nw, J C i kvs m nw → kvs.length ≤ i) (CStepD prog w A env kx vx target scope cl s₁ s₁.heap items.size (fun i v _ => items[i]? = some v) J) (CDoneD prog w s₁.heap items.size J Fin s₁)
theorem dictComp {kx vx target iter : Expr} {scope : Scope} {cl : List (Str × Addr)} {pos : Pos} {env : Env} {Q : Value → Shared → Prop}
    (hclos : closureFor scope env = pure cl) (hkind : scope.kind = .function) (hnames : ∀ y ∈ scope.names, y.2 = .local → scope.names.lookup y.1 = some .local) (hh : A.handled = none)
    (h : wpAny (model prog w) A (eval iter env) (CompD prog w A env kx vx target scope cl (FinL Q)) (fun _ _ => False) s)
    (hs : ∀ x, foldedSetIterable iter env x = pure x := by intro _; rfl) :
    wpAny (model prog w) A (eval (.DictComp kx vx [⟨target, iter, [], 0⟩] scope pos) env) Q (fun _ _ => False) s := by
  rw [arm_eval_DictComp]
  refine wpAny_comprehension_free (use := none) rfl hs hclos hkind hnames (wpAny_mono h (fun xv s₁ h₁ => ?_) fun _ _ e => e)
  obtain ⟨ax, items, J, rfl, hl, hsz, h0, hlen, step, fin⟩ := h₁
  have hlt : ax < s₁.heap.objs.size := by obtain ⟨_, e, _⟩ := hl; exact Heap.lt_size e
  refine wpAny_pyIter_list hl ?_
  have up : ∀ b o, s₁.heap.get? b = some o → (s₁.heap.push { cls := .type "list_iterator", data := .fields #[.ref ax, .int 0 0] }).get? b = some o := fun b o e => Heap.get?_push_of_some _ e
  refine comp_blockD (g := s₁.heap) (Wk.list hh target s₁.heap.objs.size ax (Nat.ne_of_lt hlt) items) hsz ⟨⟨_, Heap.get?_push_size _ rfl, rfl, rfl⟩, hl.push _⟩ up (by rw [Heap.size_push]; exact Nat.le_succ _) (fun b hb => ?_) (fun b hb => ?_) hkind J h0 hlen step ?_
  · rw [List.mem_singleton.mp hb]
    exact ⟨Heap.get?_none_of_le (Nat.le_refl _), by rw [Heap.size_push]; exact Nat.lt_succ_self _⟩
  · rcases List.mem_cons.mp hb with rfl | hb
    · exact .inl (.head _)
    · rw [List.mem_singleton.mp hb]
      obtain ⟨o, e, _⟩ := hl
      exact .inr ⟨o, e⟩
  · intro D C kvs o m nw h tk hJ ho F N hoff hCD hC hD
    obtain ⟨⟨m', hn⟩, h'⟩ := fin D C kvs o m nw h tk hJ ho F N hoff hCD (Nat.le_trans (by rw [Heap.size_push]; exact Nat.le_succ _) hD)
    exact ⟨m', hn, h'⟩
/-- its end, as the frame around sees it -/
theorem doneLD {s₁ : Shared} {n : Nat} {J : Addr → Nat → List (Str × Value) → (Str → Option Value) → List (Addr × Obj) → Prop} {Q : Value → Shared → Prop} {h₀ : Heap} {L : Addr} {m₀ : Str → Option Value} {news : List (Addr × Obj)} (F₀ : Fr h₀ L s₁.heap m₀) (N₀ : News h₀ L s₁.heap news)
    (fin : ∀ D C kvs o m nw h tk, J C n kvs m nw → o.IsDictOf (PySem.strKind prog w) kvs → Fr h₀ L h m₀ → News h₀ L h ((D, o) :: (nw ++ news)) → s₁.heap.StaysIn h → (∀ p ∈ news, p.1 < D) → Q (.ref D) { s₁ with heap := h, toks := tk }) : CDoneD prog w s₁.heap n J (FinL Q) s₁ := by
  intro D C kvs o m nw h tk hJ ho F N hoff hCD hDg
  refine ⟨⟨m, F.ns⟩, fun h'' hs'' => ?_⟩
  have hk : s₁.heap.StaysIn h'' := fun b o e => hs''.extBut b o (fun q => by rw [q] at e; exact Nat.lt_irrefl _ (Nat.lt_of_lt_of_le (Heap.lt_size e) F.above)) (F.keep b o e)
  have h0 : ∀ a, s₁.heap.get? a = none → h₀.get? a = none ∧ a ≠ L := fun a ha => none_of F₀ ha
  refine fin D C kvs o m nw h'' tk hJ ho (F₀.keeps hk) (fun p hp => ?_) hk (fun p hp => Nat.lt_of_lt_of_le (Heap.lt_size (N₀ p hp).1) hDg)
  rcases List.mem_cons.mp hp with rfl | hp
  · have z := N (D, _) (List.mem_append_right _ (List.mem_singleton.mpr rfl))
    exact ⟨hs''.extBut _ _ (Ne.symm hCD) z.1, (h0 _ z.2.2).2, (h0 _ z.2.2).1⟩
  · rcases List.mem_append.mp hp with hp | hp
    · have z := N p (List.mem_append_left _ hp)
      exact ⟨hs''.extBut _ _ z.2.1 z.1, (h0 _ z.2.2).2, (h0 _ z.2.2).1⟩
    · exact ⟨hk _ _ (N₀ p hp).1, (N₀ p hp).2⟩
end
theorem valueAt_stored {K : Type} [DecidableEq K] (kvs : List (K × Value)) (k k' : K) (v : Value) : valueAt (stored kvs k v) k' = if k' = k then some v else valueAt kvs k' := by
  unfold stored
  split
  · rename_i h
    induction kvs with
    | nil => simp at h
    | cons p r ih =>
      unfold valueAt at ih ⊢
      rw [List.map_cons, List.find?_cons, List.find?_cons]
      by_cases hp : p.1 = k
      · by_cases hk : k' = k
        · rw [if_pos hk, if_pos hp, hk]; simp only [hp, decide_true]; rfl
        · rw [if_neg hk, if_pos hp]
          have h1 : ¬ k = k' := fun e => hk e.symm
          have h2 : ¬ p.1 = k' := fun e => h1 (hp ▸ e)
          simp only [h1, h2, decide_false]
          by_cases hr : (r.any fun kv => kv.1 = k) = true
          · rw [ih hr, if_neg hk]
          · have e : (r.map fun kv => if kv.1 = k then (kv.1, v) else kv) = r := by
              conv => rhs; rw [← List.map_id r]
              refine List.map_congr_left fun q hq => ?_
              rw [if_neg (fun e => hr (List.any_eq_true.mpr ⟨q, hq, by simpa using e⟩))]; rfl
            rw [e]
      · rw [if_neg hp]
        have hr : (r.any fun kv => kv.1 = k) = true := by simpa [hp] using h
        by_cases hk2 : p.1 = k'
        · have hk : ¬ k' = k := fun e => hp (hk2.trans e)
          rw [if_neg hk]
          simp [hk2]
        · simp only [hk2, decide_false]
          exact ih hr
  · rename_i h
    unfold valueAt
    rw [List.find?_append]
    by_cases hk : k' = k
    · subst hk
      have e : (kvs.find? fun kv => kv.1 = k') = none := by
        rw [List.find?_eq_none]
        intro q hq c
        exact h (List.any_eq_true.mpr ⟨q, hq, c⟩)
      rw [e, if_pos rfl]
      simp
    · rw [if_neg hk]
      cases e : kvs.find? fun kv => kv.1 = k' with
      | some q => rfl
      | none =>
        have h1 : ¬ k = k' := fun e => hk e.symm
        simp [h1]
section
variable {prog : Program} {w : World} {A : Around} {E : Value → Shared → Prop} {s : Shared}
theorem item_dict {d : Addr} {kvs : List (Str × Value)} {k : Str} {t : Tok} {v : Value} {value slice : PySem.Expr} {Q : Value → Shared → Prop} (hD : s.heap.DictOf (PySem.strKind prog w) d kvs) (hl : valueAt kvs k = some v) (h : Q v { s with toks := s.toks + 1 })
    (hs : subscripted slice false (.ref d) (.str k t) = operate [.ref d, .str k t] (getItem (.ref d) (.str k t)) := by with_unfolding_all rfl) (hg : ∀ r, letTemporaryGo value (.ref d) r = pure () := by intro _; with_unfolding_all rfl) :
    wpAny (model prog w) A (subscriptTail value slice (.ref d) (.str k t)) Q E s :=
  subscriptTail_builtin hD.typeIs slot_dict_getitem.lookup (wpAny_getItem_of (PySem.strKind_is _ _ _ _) hD.mapOf hl h) hs hg
end
theorem slice_head (vs : List Value) (k : Nat) : slicePick vs.toArray none (some (k : Int)) none = (vs.take k).toArray := by
  rw [slicePick_plain]
  simp only [Option.elim, clipAt_nat, List.size_toArray, List.drop_zero, Nat.sub_zero]
  rcases Nat.le_total k vs.length with h | h
  · rw [Nat.min_eq_left h]
  · rw [Nat.min_eq_right h, List.take_of_length_le h, List.take_of_length_le (Nat.le_refl _)]
theorem any_sl (w : List Nat) : ∀ l : List (List Nat), (l.map sl).any (· == sl w) = decide (w ∈ l)
  | [] => by simp
  | y :: l => by
    rw [List.map_cons, List.any_cons, any_sl w l, sl_beq]
    by_cases h : y = w
    · subst h; simp
    · have h2 : ¬ w = y := fun e => h e.symm
      simp [h, h2]
section
variable {prog : Program} {w : World} {A : Around} {E : Value → Shared → Prop} {s : Shared} {g : Heap} {C T c : Addr} {o : Obj} {v₀ : Option Value} {post : List (Addr × Obj)} {m : Str → Option Value} {scope : Scope} {cl : List (Str × Addr)} {env : Env} {x y : Str} {px py pos : Pos} {x1 : Nat} {a b : Value} {Q : Unit → Shared → Prop}
/-- two targets of a block, the first of which an inner block captures -/
theorem cmp_store2C (hh : A.handled = none) (F : Fr g C s.heap m) (N : News g C s.heap ((c, o) :: post)) (hp : ∀ p ∈ post, p.1 ≠ c) (hc : cl.lookup x = some c) (hd : o.data = .cell v₀) (hT : s.heap.IsTuple T #[a, b])
    (h : ∀ h' o' tk, Fr g C h' (fun z => if z = y then some b else m z) → News g C h' ((c, o') :: post) → o'.data = .cell (some a) → Q () { s with heap := h', toks := tk })
    (hk : (compEnvC scope cl C env).scope.kind = .function) (hl : (compEnvC scope cl C env).kindOf x = some .cell) (hl2 : (compEnvC scope cl C env).kindOf y = some .local) :
    wpAny (model prog w) A (assign (.Tuple [.Name x px, .Name y py] x1 pos) (compEnvC scope cl C env) (.ref T)) Q E s := by
  refine PySem.wpAny_assign_Tuple hh hT rfl rfl fun h1 hx1 => ?_
  have k1 : ∀ b o, s.heap.get? b = some o → h1.get? b = some o := fun b o e => hx1 b o (Nat.ne_of_lt (Heap.lt_size e)) e
  have F1 := F.keeps k1
  have N1 : News g C h1 ((c, o) :: post) := fun p hp => ⟨k1 _ _ (N p hp).1, (N p hp).2⟩
  refine PyProof.Rows.assignInOrder_cons ?_
  refine cmp_storeC (Q := fun _ s₁ => _) (s := { s with heap := h1 }) F1 N1 hp hc hd (fun h2 o2 F2 N2 hd2 k2 => ?_) hk hl
  refine PyProof.Rows.assignInOrder_cons ?_
  refine cmp_store (s := { s with heap := h2, toks := _ }) F2 (fun h3 F3 k3 => ?_) hk hl2
  exact PyProof.Rows.assignInOrder_nil (h h3 o2 _ F3 (news_but N2 k3) hd2)
end
theorem dat_ints {vs : List Value} {zs : List Int} (h : IntsAre vs zs) (nw : List (Addr × Obj)) : DatAll nw vs (zs.map Dat.int) := by
  induction h with
  | nil => exact .nil
  | cons n t _ ih => exact .cons (.int n t) ih
theorem dat_strs {vs : List Value} {xs : List (List Nat)} (h : StrsAre vs (xs.map sl)) (nw : List (Addr × Obj)) : DatAll nw vs (xs.map fun x => Dat.str (sl x)) := by
  induction xs generalizing vs with
  | nil => cases h; exact .nil
  | cons x xs ih =>
    cases h with
    | cons _ t h => exact .cons (.str _ t) (ih h)
theorem dat_cts {ts : List (Addr × Obj)} {ps : List (Nat × List Nat)} (x : CtsAre ts ps) : ∀ {nw : List (Addr × Obj)}, (∀ q ∈ ts, q ∈ nw) → DatAll nw (ts.map fun q => Value.ref q.1) (ps.map fun p => Dat.tuple [Dat.int (p.1 : Int), Dat.str (sl p.2)]) := by
  induction x with
  | nil => exact fun _ => .nil
  | @cons T p tk tv n ts ps _ ih =>
    intro nw h
    exact .cons (.tuple (vs := [.int (p.1 : Int) tk, .str (sl p.2) tv]) (n := n) (h _ (.head _)) (.cons (.int _ _) (.cons (.str _ _) .nil))) (ih fun q hq => h q (.tail _ hq))
theorem slice_to (l : List Nat) (k : Nat) (h : k ≤ l.length) : Txt.slice (sl l) none (some (k : Int)) = sl (l.take k) := by
  have := slice_closes_to (x := sl l) (j := (k : Int)) ⟨by omega, by rw [sl_cps]; omega⟩
  rw [beq_iff_eq.mp this]
  simp [sl]
section
variable {prog : Program} {w : World} {A : Around} {E : Value → Shared → Prop} {s : Shared} {h₀ : Heap} {L a b : Addr} {news : List (Addr × Obj)} {vs us : List Value} {zs : List Int} {ka kb : Nat} {Q : Value → Shared → Prop}
theorem eq_none_ints (N : News h₀ L s.heap news) (ma : (a, listOf vs.toArray ka) ∈ news) (x : IntsAre vs zs) (mb : (b, listOf ([] : List Value).toArray kb) ∈ news) (hu : A.units + 64 < cLine) (h : Q (.bool (decide (zs = []))) s) : wpAny (model prog w) A (compareOp .Eq (.ref a) (.ref b)) Q E s := by
  refine kqd_eq N ma rfl rfl (dat_ints x news) (fun _ h => h) mb rfl rfl .nil (fun _ h => h) (fun d hd => ?_) (fun _ h => nomatch h) hu ?_
  · obtain ⟨z, _, rfl⟩ := List.mem_map.mp hd
    rfl
  · by_cases hz : zs = []
    · rw [decide_eq_true hz] at h
      rw [decide_eq_true (by rw [hz]; rfl)]
      exact h
    · rw [decide_eq_false hz] at h
      rw [decide_eq_false (fun e => hz (List.map_eq_nil_iff.mp e))]
      exact h
end
section
variable {prog : Program} {w : World} {A : Around} {E : Value → Shared → Prop} {s : Shared} {h₀ : Heap} {L a b : Addr} {news : List (Addr × Obj)} {vs us : List Value} {ds : List Dat} {ka kb : Nat} {Q : Value → Shared → Prop}
/-- two tuples that hold the same -/
theorem eq_datT (N : News h₀ L s.heap news) (ma : (a, ({ cls := .type "tuple", data := .seq vs.toArray ka } : Obj)) ∈ news) (Da : DatAll news vs ds) (mb : (b, ({ cls := .type "tuple", data := .seq us.toArray kb } : Obj)) ∈ news) (Db : DatAll news us ds)
    (hd : ∀ d ∈ ds, kqdOk 8 d = true) (hu : A.units + 64 < cLine) (h : Q (.bool true) s) : wpAny (model prog w) A (compareOp .Eq (.ref a) (.ref b)) Q E s := by
  obtain ⟨as, ra⟩ := kqd_all N 8 Da hd
  obtain ⟨bs, rb⟩ := kqd_all N 8 Db hd
  have la := kqd_lay 9 (.tuple ds) (by simpa [kqdOk] using hd)
  have e := (kqd_eqv 9 (.tuple ds) (.tuple ds) 9 (by simpa [kqdOk] using hd) (by simpa [kqdOk] using hd)).mpr rfl
  rw [kqdP] at la e
  refine eq_dataH (reads_tuple_at (N.get ma) rfl rfl (by simpa using ra)) (reads_tuple_at (N.get mb) rfl rfl (by simpa using rb)) ?_ ?_ hu (by rw [e]; exact h)
  · unfold SeqAt.shaped; rw [la.1, Bool.true_and]; exact decide_eq_true (Nat.le_trans la.2 (by decide))
  · unfold SeqAt.shaped; rw [la.1, Bool.true_and]; exact decide_eq_true (Nat.le_trans la.2 (by decide))
end

end
section
noncomputable def looseN : List Str := [Str.ofString "insort_right", Str.ofString "bisect_right", Str.ofString "bisect_left", Str.ofString "_name_disallowed_re", Str.ofString "_value_disallowed_re"]
noncomputable def viewN : Program := { PySem.Challenge.rw_pe0272_01.row.prog with main := { PySem.Challenge.rw_pe0272_01.row.prog.main with body := [0, 1, 7, 8, 9, 10, 11, 13, 14, 15, 17, 18, 19, 20, 21, 22].filterMap fun i => PySem.Challenge.rw_pe0272_01.row.prog.main.body[i]? } }
theorem said_ok : OpenLaw.wellSaid PySem.Challenge.rw_pe0272_01 = true := by
  unfold OpenLaw.wellSaid
  repeat' (with_reducible refine look_both ?_ ?_)
  all_goals try (unfold OpenRow.wellSaid; repeat' (with_reducible refine look_both ?_ ?_))
  all_goals try (unfold OpenRow.partSaid; repeat' (with_reducible refine look_both ?_ ?_))
  all_goals try (unfold looksOpen; repeat' (with_reducible refine look_both ?_ ?_))
  all_goals (decide +kernel)
local macro_rules | `(tactic| o_law) => `(tactic| refine holds_law said_ok fun said => ?_)
local macro_rules | `(tactic| o_head $H) => `(tactic| (
  refine holds_open (q := viewN) (loose := looseN) (Xt := fun s => xlAt viewN [] s && recOk (RowW.records (OpenRow.toRowW PySem.Challenge.rw_pe0272_01.row)) s) (XP := XL viewN []) (Yf := Hook.obs $H) (Ya := Hook.val $H) (YP := Hook.says $H) (N := 2774) ?hl (Hook.of $H) (Hook.keeps $H) (fun s e => xl_of s (Bool.and_eq_true_iff.mp e).1) XL.keeps (by rfl) (by rfl) (by rfl) (fun s e => recFacts_of (Bool.and_eq_true_iff.mp e).2) (by rfl) (by assumption) (by decide +kernel) ⟨rfl, rfl, rfl, rfl, rfl, by decide +kernel⟩ ?hw ?hc
  (case hl => (intro w; kernel_rfl))))
set_option maxHeartbeats 8000000 in
open_top hd1 for PySem.Challenge.rw_pe0272_01

end
-- small facts of order without a long proof
local macro_rules | `(tactic| omega) => `(tactic| first
  | (k_whole; with_reducible first
  | exact Nat.zero_le _ | exact Int.natCast_nonneg _ | exact om_lo1 _ _ | exact om_lo _ _ | exact om_z _ | exact om_nat _
  | exact om_hi1 (by assumption) | exact om_hi (by assumption) | exact om_hi5 (by assumption) (by assumption) | exact om_hi4 (by assumption) (by assumption) | exact om_hi3 (by assumption) (by assumption)
  | exact om_neg (by decide) | exact om_negL (by decide)
  | exact om_le (by assumption) (by decide) | exact om_leI (by assumption) (by decide) | exact om_leJ (by assumption) (by decide)
  | exact om_le2 (by assumption) (by assumption) (by decide) | exact om_leI2 (by assumption) (by assumption) (by decide) | exact om_leJ2 (by assumption) (by assumption) (by decide)
  | decide)
  | ((fail_if_success (fail_if_success (omega (config := {})))); first | lia | omega (config := {})))
local macro_rules | `(tactic| walk_at "CutP") => `(tactic| (dsimp only [CutP]))
-- a frame's map, written
local macro_rules | `(tactic| wtm_at "map") => `(tactic| first | exact fun _ => rfl | (refine' mp_put ?e9; (case e9 => wtm_at "map")))
local macro_rules | `(tactic| wtm_at "fr") => `(tactic| (refine' Fr_as ?F ?e ?e2; (case F => assumption); (case e => wtm_at "map"); (case e2 => exact rfl)))
-- into a def's body

-- the names that are known
local macro_rules | `(tactic| wtm_at "look") => `(tactic| first | exact List.forall_mem_nil _ | (refine' List.forall_mem_cons.mpr ⟨?a, ?b⟩; (case a => exact rfl); (case b => wtm_at "look")))
local macro_rules | `(tactic| wtm_at "frq") => `(tactic| (refine' Fr_mq ?F ?e; (case F => assumption); (case e => wtm_at "look")))
-- room for a call
local macro_rules | `(tactic| wtm_at "lt") => `(tactic| first | assumption | exact dn1 (by assumption) | exact dn2 (by assumption) | exact dn3 (by assumption) | exact dn4 (by assumption) | exact Nat.lt_succ_self _ | exact dn1 (Nat.lt_succ_self _) | exact dn2 (Nat.lt_succ_self _) | exact dn3 (Nat.lt_succ_self _))
local macro_rules | `(tactic| k_ne) => `(tactic| (refine neN ?_; (try dsimp only); first | exact Nat.ne_of_gt (by wtm_at "lt") | exact Nat.ne_of_lt (by wtm_at "lt") | assumption | exact Ne.symm (by assumption) | omega))
-- lists whose items are values
local macro_rules | `(tactic| walk_at "call builtin:len") => `(tactic| (k_here; (with_reducible show wpAny _ _ (call (Value.builtin "len") [Value.ref _]) _ _ _); (refine' PyProof.Rows.len_list ?l ?f ?_); (case l => is_list); (case f => (simp only [List.size_toArray]; omega)); (simp only [List.size_toArray])))
local macro_rules | `(tactic| walk_at "subscriptTail") => `(tactic| (k_here; (with_reducible show wpAny _ _ (subscriptTail _ _ (Value.ref _) (Value.int _ _)) _ _ _); (refine' KTb.item_list ?l ?s ?a ?b ?c ?_; (case l => is_list); (case s => assumption); (case a => omega); (case b => (simp only [List.length_map]; omega)); (case c => omega)); intro _ _))
-- the walk stops at a loop
local macro_rules | `(tactic| walk_at "exec While Compare cons nil") => `(tactic| (k_here; refine Stop.out ?_))
local macro_rules | `(tactic| walk_at "exec While BoolOp cons nil") => `(tactic| (k_here; refine Stop.out ?_))
local macro_rules | `(tactic| walk_at "exec For Name Call cons nil") => `(tactic| (k_here; refine Stop.out ?_))
local macro_rules | `(tactic| walk_at "exec For Name Name cons nil") => `(tactic| (k_here; refine Stop.out ?_))
local macro_rules | `(tactic| walk_at "exec For Name Subscript cons nil") => `(tactic| (k_here; refine Stop.out ?_))
local macro_rules | `(tactic| walk_at "exec For Tuple Attribute cons nil") => `(tactic| (k_here; refine Stop.out ?_))
local macro_rules | `(tactic| walk_at "exec For Name List cons nil") => `(tactic| (k_here; refine Stop.out ?_))
-- list comprehensions
local macro_rules | `(tactic| walk_at "eval ListComp") => `(tactic| (k_here; k_dflt (refine' listComp ?c ?k ?n ?_; (case c => with_unfolding_all rfl); (case k => exact rfl); (case n => decide))))
local macro_rules | `(tactic| walk_at "exec Assign cons ListComp") => `(tactic| (k_here; k_dflt (refine' listAssign ?w ?c ?k ?n ?_; (case w => with_unfolding_all rfl); (case c => with_unfolding_all rfl); (case k => exact rfl); (case n => decide))))
local macro_rules | `(tactic| walk_at "eval Name") => `(tactic| (k_here; (with_reducible show wpAny _ _ (eval (Expr.Name _ _) (compEnvC _ _ _ _)) _ _ _); k_dflt (first
  | (refine' cmp_own ?F ?v ?_ ?a ?b; (case F => k_asm); (case v => exact rfl); (case a => exact rfl); (case b => exact rfl))
  | (refine' cmp_cell ?F ?c ?g ?d ?_ ?a ?b; (case F => k_asm); (case c => exact rfl); (case g => assumption); (case d => first | assumption | exact rfl); (case a => exact rfl); (case b => exact rfl))
  | (refine' cmp_new ?N ?c ?m ?d ?_ ?a ?b; (case N => k_asm); (case c => exact rfl); (case m => k_mem); (case d => first | assumption | exact rfl); (case a => exact rfl); (case b => exact rfl))
  | (refine' cmp_free ?F ?c ?g ?d ?_ ?a ?b; (case F => k_asm); (case c => exact rfl); (case g => assumption); (case d => first | assumption | exact rfl); (case a => exact rfl); (case b => exact rfl)))))
local macro_rules | `(tactic| k_inst) => `(tactic| (refine' inst_of ?F ?I ?D; (case F => k_asm); (case I => assumption); (case D => assumption)))
local macro_rules | `(tactic| walk_at "call builtin:str.lower") => `(tactic| (k_here; (with_reducible show wpAny _ _ (call (Value.builtin "str.lower") [Value.str (sl _) _]) _ _ _); (refine' call_lower ?h ?l ?_; (case h => assumption); (case l => first | assumption | omega); intro _ _)))
local macro_rules | `(tactic| walk_at "call builtin:str.upper") => `(tactic| (k_here; (with_reducible show wpAny _ _ (call (Value.builtin "str.upper") [Value.str (sl _) _]) _ _ _); (refine' call_upper ?h ?l ?_; (case h => assumption); (case l => first | assumption | omega); intro _ _)))
local macro_rules | `(tactic| walk_at "delItem ref str") => `(tactic| (k_here; refine Stop.out ?_))
local macro_rules | `(tactic| k_all) => `(tactic| first | (refine' List.forall_mem_cons.mpr ⟨?a, ?b⟩; (case a => k_ne); (case b => k_all)) | assumption)
noncomputable section
theorem sub_pure (c d : Nat) (tx ty : Tok) (hc : c < 128) (hd : d < 128) : Pure Mine.hd1.heap_1 PySem.Challenge.rw_pe0272_01.row.prog 72 1 ⟨[.str (sl [c]) tx, .str (sl [d]) ty], []⟩ (fun _ _ => True) (fun r _ => ∃ t, r = .int (subc c d : Nat) t) := by
  unfold Pure
  intro w p loose mean mg mb dp un fr gd s Q E X T _ hdp hun hret
  dsimp only at hret
  have hl1 : (sl [c]).length = 1 := sl_length _
  have hl2 : (sl [d]).length = 1 := sl_length _
  w_top off; revert X; k_fill; intro X
  (k_dflt (refine' enterS (args := ⟨_, _⟩) [] ?hS ?kX ?kT ?k6 ?k7 ?k8 ?k9 ?kB ?_ ?c2 ?c3 ?c4 ?c5; (case hS => exact List.forall_mem_nil _); (case kX => assumption); (case kT => assumption); (case k6 => k_is); (case k7 => k_is); (case k8 => (dsimp only [Ar]; omega)); (case k9 => first | exact BindsTo.of_eq rfl | exact binds_K (by k_in) rfl (by k_is) rfl rfl rfl | (refine' kp_binds ?kx ?ke; (case kx => k_in); (case ke => exact fun _ => rfl))); (case c5 => decide); (case kB => exact locs rfl); (case c2 => exact rfl); (case c3 => exact rfl); (case c4 => exact rfl); k_whole))
  intro g L' h' hg F' N' X' T' _
  dsimp only
  k_steps
  all_goals (refine ret_int (s := s) hret ?_ (by (refine' stays_of ?h1 ?h2; (case h1 => assumption); (case h2 => assumption))))
  all_goals (simp only [sl_beq, lower_one hc, lower_one hd, decide_eq_true_eq, decide_eq_false_iff_not, List.cons.injEq, and_true] at *; simp only [subc]; simp [*])

end
section
local macro_rules | `(tactic| walk_at "eval Subscript") => `(tactic| (k_here; (with_reducible show wpAny _ _ (eval (Expr.Subscript _ (Expr.Slice none (some (Expr.BoolOp BoolOp.Or _ _)) none _) _) _) _ _ _); k_dflt (refine' cutTo ?F ?N ?x ?y ?v ?k ?l ?_; (case F => k_asm); (case N => k_asm); (case x => exact rfl); (case y => exact rfl); (case v => assumption); (case k => assumption); (case l => assumption); intro _ _ _ _ _ _)))
theorem take_succ_eq {a b : List Nat} {i : Nat} (h : a.take i = b.take i) (h1 : i < a.length) (h2 : i < b.length) (e : a[i] = b[i]) : a.take (i + 1) = b.take (i + 1) := by
  rw [List.take_add_one, List.take_add_one, h, List.getElem?_eq_getElem h1, List.getElem?_eq_getElem h2, e]
theorem drop_pred_eq {a b : List Nat} {k : Nat} (h : a.drop (a.length - k) = b.drop (b.length - k)) (h1 : k < a.length) (h2 : k < b.length) (e : a[a.length - (k + 1)] = b[b.length - (k + 1)]) :
    a.drop (a.length - (k + 1)) = b.drop (b.length - (k + 1)) := by
  have e1 : a.length - (k + 1) + 1 = a.length - k := by rw [Nat.sub_succ]; exact Nat.succ_pred_eq_of_pos (Nat.sub_pos_of_lt h1)
  have e2 : b.length - (k + 1) + 1 = b.length - k := by rw [Nat.sub_succ]; exact Nat.succ_pred_eq_of_pos (Nat.sub_pos_of_lt h2)
  have f1 : a.length - (k + 1) < a.length := Nat.sub_lt (Nat.zero_lt_of_lt h1) (Nat.succ_pos k)
  have f2 : b.length - (k + 1) < b.length := Nat.sub_lt (Nat.zero_lt_of_lt h2) (Nat.succ_pos k)
  rw [List.drop_eq_getElem_cons f1, List.drop_eq_getElem_cons (i := b.length - (k + 1)) f2, e1, e2, h, e]

noncomputable abbrev lv1 (a b : List Nat) (tx ty tz : Tok) (v : Value) : List (Str × Value) := [(Str.ofString "max_cost", .int 99 tz), (Str.ofString "b", .str (sl b) ty), (Str.ofString "a", .str (sl a) tx), (Str.ofString "pre", v)]
noncomputable abbrev lv2 (a b : List Nat) (tx ty tz : Tok) (v u : Value) : List (Str × Value) := [(Str.ofString "max_cost", .int 99 tz), (Str.ofString "b", .str (sl b) ty), (Str.ofString "a", .str (sl a) tx), (Str.ofString "pre", v), (Str.ofString "post", u)]

/-- the row behind j signs of b, and within the next one -/
noncomputable def dpRow (a b : List Nat) (j : Nat) : List Int := (List.range a.length).map fun k => ((cost (b.take j) (a.take (k + 1)) : Nat) : Int)
noncomputable def mixRow (a b : List Nat) (j i : Nat) : List Int := (List.range a.length).map fun k => if k < i then ((cost (b.take (j + 1)) (a.take (k + 1)) : Nat) : Int) else ((cost (b.take j) (a.take (k + 1)) : Nat) : Int)
theorem dpRow_zero (a b : List Nat) : dpRow a b 0 = (List.range a.length).map fun i : Nat => (2 : Int) + (i : Int) * 2 := by
  unfold dpRow
  refine List.map_congr_left fun k hk => ?_
  have : k < a.length := List.mem_range.mp hk
  rw [List.take_zero, cost_nil, List.length_take]; omega
theorem mixRow_zero (a b : List Nat) (j : Nat) : mixRow a b j 0 = dpRow a b j := by
  unfold mixRow dpRow
  refine List.map_congr_left fun k hk => ?_
  rw [if_neg (Nat.not_lt_zero _)]
theorem mixRow_all (a b : List Nat) (j : Nat) : mixRow a b j a.length = dpRow a b (j + 1) := by
  unfold mixRow dpRow
  refine List.map_congr_left fun k hk => ?_
  rw [if_pos (List.mem_range.mp hk)]
theorem mixRow_at (a b : List Nat) (j i : Nat) (h : i < a.length) : (mixRow a b j i).getD i 0 = ((cost (b.take j) (a.take (i + 1)) : Nat) : Int) := by
  simp [mixRow, List.getD_eq_getElem?_getD, h]
theorem mixRow_length (a b : List Nat) (j i : Nat) : (mixRow a b j i).length = a.length := by simp [mixRow]
theorem mixRow_set (a b : List Nat) (j i : Nat) (h : i < a.length) : (mixRow a b j i).set i ((cost (b.take (j + 1)) (a.take (i + 1)) : Nat) : Int) = mixRow a b j (i + 1) := by
  apply List.ext_getElem?
  intro k
  rw [List.getElem?_set]
  by_cases hk : i = k
  · subst hk
    rw [if_pos rfl, if_pos (by rw [mixRow_length]; exact h)]
    simp [mixRow, h]
  · rw [if_neg hk]
    unfold mixRow
    rw [List.getElem?_map, List.getElem?_map]
    by_cases hkn : k < a.length
    · rw [List.getElem?_range hkn]
      simp only [Option.map_some]
      by_cases h1 : k < i
      · rw [if_pos h1, if_pos (by omega)]
      · rw [if_neg h1, if_neg (by omega)]
    · rw [List.getElem?_eq_none (by simpa using hkn)]; rfl
theorem step_cost (a b : List Nat) (j i : Nat) (hj : j < b.length) (hi : i < a.length) : cost (b.take (j + 1)) (a.take (i + 1)) =
    min (subc b[j] a[i] + cost (b.take j) (a.take i)) (min (2 + cost (b.take j) (a.take (i + 1))) (2 + cost (b.take (j + 1)) (a.take i))) := by
  have e1 : b.take (j + 1) = b.take j ++ [b[j]] := by rw [List.take_add_one, List.getElem?_eq_getElem hj]; rfl
  have e2 : a.take (i + 1) = a.take i ++ [a[i]] := by rw [List.take_add_one, List.getElem?_eq_getElem hi]; rfl
  rw [e1, e2, cost_snoc]
theorem ite_min (x y : Int) : (if y < x then y else x) = min x y := by split <;> omega
/-- what stands in 'result' at the i-th sign -/
noncomputable def resAt (a b : List Nat) (j i : Nat) : Int := if i = 0 then 2 * (j : Int) else ((cost (b.take (j + 1)) (a.take i) : Nat) : Int)
theorem int_min (a b : Nat) : min (a : Int) (b : Int) = ((min a b : Nat) : Int) := by omega
theorem min4 (s A B C : Nat) : min (min (C : Int) (B : Int) + 2) ((A : Int) + (s : Int)) = ((min (s + A) (min (2 + B) (2 + C)) : Nat) : Int) := by
  rw [int_min, ← Int.natCast_add, show ((min C B : Nat) : Int) + 2 = ((min C B + 2 : Nat) : Int) from rfl, int_min, Nat.min_comm, Nat.add_comm A s, Nat.min_comm C B, ← Nat.add_min_add_right, Nat.add_comm B 2, Nat.add_comm C 2]
theorem min5 (s j B : Nat) (h : s ≤ 2) : min (min (2 * (j : Int)) (B : Int) + 2) (((2 * j : Nat) : Int) + (s : Int)) = ((min (s + 2 * j) (min (2 + B) (2 + 2 * (j + 1))) : Nat) : Int) := by
  have e : ∀ X, s + 2 * j ≤ X → min (s + 2 * j) (min (2 + B) X) = min (s + 2 * j) (2 + B) := fun X hX => by rw [Nat.min_comm (2 + B) X, ← Nat.min_assoc, Nat.min_eq_left hX]
  have h1 : s + 2 * j ≤ 2 + 2 * j := Nat.add_le_add_right h _
  have h2 : s + 2 * j ≤ 2 + 2 * (j + 1) := Nat.le_trans h1 (Nat.add_le_add_left (Nat.mul_le_mul_left 2 (Nat.le_succ j)) 2)
  have := min4 s (2 * j) B (2 * j)
  rw [e _ h1] at this
  rw [e _ h2]
  exact this
theorem resAt_step (a b : List Nat) (j i : Nat) (hj : j < b.length) (hi : i < a.length) (su : Int) (hsu : su = ((cost (b.take j) (a.take i) : Nat) : Int) + ((subc b[j] a[i] : Nat) : Int)) :
    min (min (resAt a b j i) ((cost (b.take j) (a.take (i + 1)) : Nat) : Int) + 2) su = ((cost (b.take (j + 1)) (a.take (i + 1)) : Nat) : Int) := by
  have h := step_cost a b j i hj hi
  unfold resAt
  by_cases h0 : i = 0
  · subst h0
    rw [if_pos rfl]
    rw [List.take_zero, cost_nil_r, cost_nil_r, List.length_take, List.length_take, Nat.min_eq_left (Nat.le_of_lt hj), Nat.min_eq_left hj] at h
    rw [List.take_zero, cost_nil_r, List.length_take, Nat.min_eq_left (Nat.le_of_lt hj)] at hsu
    rw [hsu, h]
    exact min5 _ _ _ (subc_le _ _)
  · rw [if_neg h0, hsu, h]
    exact min4 _ _ _ _
theorem cost_le40 (a b : List Nat) (ha : a.length ≤ 20) (hb : b.length ≤ 20) (j i : Nat) : cost (b.take j) (a.take i) ≤ 40 := by
  have := cost_bound (b.take j) (a.take i)
  have h1 : (b.take j).length ≤ 20 := by rw [List.length_take]; omega
  have h2 : (a.take i).length ≤ 20 := by rw [List.length_take]; omega
  omega

theorem lev_pure (a b : List Nat) (tx ty tz : Tok) (ha : ∀ c ∈ a, c < 128) (hb : ∀ c ∈ b, c < 128) (hal : a.length ≤ 20) (hbl : b.length ≤ 20) :
    Pure Mine.hd1.heap_1 PySem.Challenge.rw_pe0272_01.row.prog 79 2 ⟨[.str (sl a) tx, .str (sl b) ty, .int 99 tz], []⟩ (fun _ _ => True) (fun r _ => ∃ t, r = .int (cost a b : Nat) t) := by
  unfold Pure
  intro w p loose mean mg mb dp un fr gd s Q E X T _ hdp hun hret
  dsimp only at hret
  have hl1 : (sl a).length = a.length := sl_length _
  have hl2 : (sl b).length = b.length := sl_length _
  w_top off; revert X; k_fill; intro X
  (k_dflt (refine' enterS (args := ⟨_, _⟩) [] ?hS ?kX ?kT ?k6 ?k7 ?k8 ?k9 ?kB ?_ ?c2 ?c3 ?c4 ?c5; (case hS => exact List.forall_mem_nil _); (case kX => assumption); (case kT => assumption); (case k6 => k_is); (case k7 => k_is); (case k8 => (dsimp only [Ar]; omega)); (case k9 => first | exact BindsTo.of_eq rfl | exact binds_K (by k_in) rfl (by k_is) rfl rfl rfl | (refine' kp_binds ?kx ?ke; (case kx => k_in); (case ke => exact fun _ => rfl))); (case c5 => decide); (case kB => exact locs rfl); (case c2 => exact rfl); (case c3 => exact rfl); (case c4 => exact rfl); k_whole))
  intro g L' h' hg F' N' X' T' _
  dsimp only
  replace F' : Fr g L' h' (mp [(Str.ofString "max_cost", .int 99 tz), (Str.ofString "b", .str (sl b) ty), (Str.ofString "a", .str (sl a) tx)]) := Fr_eqv F' fun _ => rfl
  refine cut (fun s' => E3 fun t h1 tk1 => A3 (s' = { s with heap := h1, toks := tk1 }) (Fr g L' h1 (mp (lv1 a b tx ty tz (.int 0 t)))) (News g L' h1 [])) 2 ?_ ?_
  · dsimp only [List.take]
    k_fold
    k_steps
    · refine ret_int (s := s) hret ?_ (by (refine' stays_of ?h1 ?h2; (case h1 => assumption); (case h2 => assumption)))
      simp only [sl_beq, decide_eq_true_eq] at *
      subst_vars; rw [cost_self]; rfl
    · unfold Hit
      refine' ⟨_, _, _, rfl, ?F, by assumption⟩
      case F => wtm_at "fr"
  rintro _ ⟨t, h1, tk1, rfl, F1, N1⟩
  clear F' N'
  dsimp only [List.drop]
  refine cutO (fun s' => E4 fun i t h1 tk1 => A6 (s' = { s with heap := h1, toks := tk1 }) (Fr g L' h1 (mp (lv1 a b tx ty tz (.int (i : Nat) t)))) (News g L' h1 []) (i ≤ a.length) (i ≤ b.length) (a.take i = b.take i)) 1 ?_ ?_
  · intro P' hP'; dsimp only [List.take]
    refine wpAny_execs_cons ?_
    refine While_inv3 (fun n m nw => E2 fun i t => A6 (m = mp (lv1 a b tx ty tz (.int (i : Nat) t))) (nw = []) (i ≤ a.length) (i ≤ b.length) (a.take i = b.take i) (n = a.length - i)) F1 N1 ⟨0, t, rfl, rfl, by omega, by omega, by simp, rfl⟩ ?_
    rintro n m₁ nw h₁ tk₁ F₁ N₁ ⟨i, t, rfl, rfl, hi1, hi2, hi3, rfl⟩
    clear F1 N1
    (try k_fold)
    k_steps
    · have e1 : i < a.length := by simp only [slice_from _ _ hi1, sl_length, List.length_drop] at *; omega
      have e2 : i < b.length := by simp only [slice_from _ _ hi2, sl_length, List.length_drop] at *; omega
      simp only [item_sl _ _ e1, item_sl _ _ e2, sl_beq, decide_eq_true_eq, List.cons.injEq, and_true] at *
      refine' ⟨_, _, _, _, a.length - (i + 1), rfl, ?F, by assumption, om_sub e1, i + 1, _, rfl, rfl, e1, e2, take_succ_eq hi3 e1 e2 (by assumption), rfl⟩
      case F => wtm_at "fr"
    all_goals (refine hP' _ ?_; refine' ⟨_, _, _, _, rfl, by assumption, by assumption, by assumption, by assumption, by assumption⟩)
  rintro _ ⟨i, t, h1, tk1, rfl, F1, N1, hi1, hi2, hi3⟩
  dsimp only [List.drop]
  obtain ⟨pr, a1, b1, ea, eb, hpl⟩ : E3 fun (pr a1 b1 : List Nat) => A3 (a = pr ++ a1) (b = pr ++ b1) (pr.length = i) := ⟨a.take i, a.drop i, b.drop i, by simp, by rw [hi3]; simp, by simp; omega⟩
  refine cutO (fun s' => E6 fun tx ty t u h1 tk1 => A3 (s' = { s with heap := h1, toks := tk1 }) (Fr g L' h1 (mp (lv2 a1 b1 tx ty tz (.int (i : Nat) t) (.int 0 u)))) (News g L' h1 [])) 3 ?_ ?_
  · intro P' hP'; dsimp only [List.take]
    (try k_fold)
    k_steps
    refine hP' _ ?_
    have hd1 : Txt.slice (sl a) (some (i : Int)) none = sl a1 := by rw [slice_from _ _ hi1, ea, ← hpl]; simp
    have hd2 : Txt.slice (sl b) (some (i : Int)) none = sl b1 := by rw [slice_from _ _ hi2, eb, ← hpl]; simp
    simp only [hd1, hd2] at *
    refine' ⟨_, _, _, _, _, _, rfl, ?F, by assumption⟩
    case F => wtm_at "fr"
  rintro _ ⟨tx1, ty1, t1, u1, h1', tk1', rfl, F2, N2⟩
  clear F1 N1 hi3
  have hc1 : cost a b = cost a1 b1 := by rw [ea, eb, cost_pre]
  have hal1 : a1.length ≤ 20 := by have := congrArg List.length ea; simp at this; exact om_app this hal
  have hbl1 : b1.length ≤ 20 := by have := congrArg List.length eb; simp at this; exact om_app this hbl
  have hl3 : (sl a1).length = a1.length := sl_length _
  have hl4 : (sl b1).length = b1.length := sl_length _
  dsimp only [List.drop]
  refine cutO (fun s' => E5 fun k v u h1 tk1 => A7 (s' = { s with heap := h1, toks := tk1 }) (Fr g L' h1 (mp (lv2 a1 b1 tx1 ty1 tz (.int (i : Nat) t1) (.int v u)))) (News g L' h1 []) (v = -(k : Nat)) (k ≤ a1.length) (k ≤ b1.length) (a1.drop (a1.length - k) = b1.drop (b1.length - k))) 1 ?_ ?_
  · intro P' hP'; dsimp only [List.take]
    refine wpAny_execs_cons ?_
    refine While_inv3 (fun n m nw => E3 fun k v u => A7 (m = mp (lv2 a1 b1 tx1 ty1 tz (.int (i : Nat) t1) (.int v u))) (nw = []) (v = -(k : Nat)) (k ≤ a1.length) (k ≤ b1.length) (a1.drop (a1.length - k) = b1.drop (b1.length - k)) (n = a1.length - k)) F2 N2 ⟨0, 0, u1, rfl, rfl, by omega, by omega, by omega, by simp, rfl⟩ ?_
    rintro n m₁ nw h₁ tk₁ F₁ N₁ ⟨k, v, u, rfl, rfl, hv, hk1, hk2, hk3, rfl⟩
    clear F2 N2
    (try k_fold)
    k_steps
    · have e1 : k < a1.length := by simp only [sl_length, List.length_take] at *; exact om_take hk1 (by assumption)
      have e2 : k < b1.length := by simp only [sl_length, List.length_take] at *; exact om_take hk2 (by assumption)
      simp only [item_neg a1 (k + 1) (Nat.succ_pos _) e1 (v - 1) (om_negs hv), item_neg b1 (k + 1) (Nat.succ_pos _) e2 (v - 1) (om_negs hv), sl_beq, decide_eq_true_eq, List.cons.injEq, and_true] at *
      refine' ⟨_, _, _, _, a1.length - (k + 1), rfl, ?F, by assumption, om_sub e1, k + 1, v - 1, _, rfl, rfl, om_negs hv, e1, e2, drop_pred_eq hk3 e1 e2 (by assumption), rfl⟩
      case F => wtm_at "fr"
    all_goals (refine hP' _ ?_; refine' ⟨_, _, _, _, _, rfl, by assumption, by assumption, by assumption, by assumption, by assumption, by assumption⟩)
  rintro _ ⟨k, v, u, h2', tk2', rfl, F3, N3, hv, hk1, hk2, hk3⟩
  clear F2 N2
  dsimp only [List.drop]
  have hc2 : cost a1 b1 = cost (a1.take (a1.length - k)) (b1.take (b1.length - k)) := by
    have e1 : a1 = a1.take (a1.length - k) ++ a1.drop (a1.length - k) := (List.take_append_drop _ _).symm
    have e2 : b1 = b1.take (b1.length - k) ++ a1.drop (a1.length - k) := by rw [hk3]; exact (List.take_append_drop _ _).symm
    conv => lhs; rw [e1, e2]
    rw [cost_suf]
  refine cutO (fun s' => E4 fun tx ty h1 tk1 => A3 (s' = { s with heap := h1, toks := tk1 }) (Fr g L' h1 (mp (lv2 (a1.take (a1.length - k)) (b1.take (b1.length - k)) tx ty tz (.int (i : Nat) t1) (.int v u)))) (News g L' h1 [])) 2 ?_ ?_
  · intro P' hP'; dsimp only [List.take]
    (try k_fold)
    k_steps
    refine hP' _ ?_
    refine' ⟨_, _, _, _, rfl, ?F, by assumption⟩
    case F => wtm_at "fr"
  rintro _ ⟨tx2, ty2, h3', tk3', rfl, F4, N4⟩
  clear F3 N3
  dsimp only [List.drop]
  obtain ⟨a2, ea2⟩ : ∃ a2, a2 = a1.take (a1.length - k) := ⟨_, rfl⟩
  obtain ⟨b2, eb2⟩ : ∃ b2, b2 = b1.take (b1.length - k) := ⟨_, rfl⟩
  rw [← ea2, ← eb2] at F4 hc2
  have ha2 : (∀ c ∈ a2, c < 128) ∧ a2.length ≤ 20 := ⟨fun c hc => ha c (by rw [ea]; rw [ea2] at hc; exact List.mem_append_right _ (List.mem_of_mem_take hc)), by rw [ea2, List.length_take]; exact Nat.le_trans (Nat.min_le_right _ _) hal1⟩
  have hb2 : (∀ c ∈ b2, c < 128) ∧ b2.length ≤ 20 := ⟨fun c hc => hb c (by rw [eb]; rw [eb2] at hc; exact List.mem_append_right _ (List.mem_of_mem_take hc)), by rw [eb2, List.length_take]; exact Nat.le_trans (Nat.min_le_right _ _) hbl1⟩
  have hc3 : cost a b = cost a2 b2 := hc1.trans hc2
  have hl5 : (sl a2).length = a2.length := sl_length _
  have hl6 : (sl b2).length = b2.length := sl_length _
  have hab2 := ha2.2
  have hbb2 := hb2.2
  refine cut (fun s' => E6 fun a3 b3 tx ty h1 tk1 => A9 (s' = { s with heap := h1, toks := tk1 }) (Fr g L' h1 (mp (lv2 a3 b3 tx ty tz (.int (i : Nat) t1) (.int v u)))) (News g L' h1 []) (cost a b = cost a3 b3) (1 ≤ a3.length) (a3.length ≤ b3.length) (b3.length ≤ 20) (∀ c ∈ a3, c < 128) (∀ c ∈ b3, c < 128)) 4 ?_ ?_
  · dsimp only [List.take]
    (try k_fold)
    clear hk1 hk2 hk3 hi1 hi2 hl1 hl2 hl3 hl4 hal hbl hal1 hbl1
    k_steps
    · unfold Hit
      refine' ⟨b2, a2, _, _, _, _, rfl, ?F, cb_drop (by assumption) (fun p hp => nomatch hp), by rw [hc3, cost_comm], by omega, by omega, by omega, hb2.1, ha2.1⟩
      case F => wtm_at "fr"
    · unfold Hit
      exact ⟨a2, b2, _, _, _, _, rfl, by assumption, by assumption, hc3, by omega, by omega, by omega, ha2.1, hb2.1⟩
    · refine ret_int (s := s) hret ?_ (by (refine' stays_of ?h1 ?h2; (case h1 => assumption); (case h2 => assumption)))
      have e : b2 = [] := List.length_eq_zero_iff.mp (by omega)
      rw [hc3, hl5, hl6, e, cost_nil_r]; simp
    · refine ret_int (s := s) hret ?_ (by (refine' stays_of ?h1 ?h2; (case h1 => assumption); (case h2 => assumption)))
      have e : a2 = [] := List.length_eq_zero_iff.mp (by omega)
      rw [hc3, hl5, hl6, e, cost_nil]; simp
  rintro _ ⟨a3, b3, tx3, ty3, h4', tk4', rfl, F5, N5, hc4, hn1, hn2, hn3, ha3, hb3⟩
  clear F4 N4 hl5 hl6 ha2 hb2 hc3 hc2 hc1 hk1 hk2 hk3 hi1 hi2 hl1 hl2 hl3 hl4 hal hbl hal1 hbl1 hab2 hbb2
  have hl1 : (sl a3).length = a3.length := sl_length _
  have hl2 : (sl b3).length = b3.length := sl_length _
  dsimp only [List.drop]
  have hsm : Builtin.Range.small 2 (2 * (((sl a3).length : Int) + 1)) 2 = true := small_any ⟨by omega, by omega⟩ ⟨by omega, by omega⟩ (.inr (.inl rfl))
  have hrn : Builtin.Range.rangeSize 2 (2 * (((sl a3).length : Int) + 1)) 2 = ((a3.length : Nat) : Int) := by
    unfold Builtin.Range.rangeSize
    rw [if_pos (by decide), if_pos (by omega)]
    omega
  refine cutO (fun s' => E6 fun D us c t h1 tk1 => A4 (s' = { s with heap := h1, toks := tk1 }) (Fr g L' h1 (mp (lv2 a3 b3 tx3 ty3 tz (.int (i : Nat) t1) (.int v u) ++ [(Str.ofString "row", .ref D), (Str.ofString "result", .int 0 t)]))) (News g L' h1 [(D, listOf (List.toArray us) c)]) (IntsAre us ((List.range a3.length).map fun i => 2 + (i : Nat) * 2))) 2 ?_ ?_
  · intro P' hP'; dsimp only [List.take]
    (try k_fold)
    k_steps
    refine' list_range_any rfl ?F ?N ?r hsm hrn (Nat.le_trans (Nat.le_trans hn2 hn3) (Nat.le_of_ble_eq_true rfl)) ?_
    (case F => assumption)
    (case N => assumption)
    (case r => assumption)
    intro D us c h5 tk5 F6 N6 hD hI
    (try k_fold)
    k_steps
    refine hP' _ ?_
    refine' ⟨D, us, _, _, _, _, rfl, ?F, by assumption, hI⟩
    case F => wtm_at "fr"
  rintro _ ⟨D, us, c, t2, h5', tk5', rfl, F6, N6, hI⟩
  clear F5 N5 hsm hrn
  dsimp only [List.drop]
  refine wpAny_execs_cons ?_
  have e0 : (sl b3).length = b3.length := hl2
  clear ha hb ea eb hpl pr hl1 hl2 ea2 eb2 hv
  have hn4 := hn3
  have hl1 : (sl a3).length = a3.length := sl_length _
  have hl2 : (sl b3).length = b3.length := sl_length _
  refine for_range (h₀ := g) (a := 0) (b := ((sl b3).length : Int)) (c := 1) (n := b3.length) (fun j m nw => E5 fun u us c res t => A4 (m = mq [(Str.ofString "max_cost", .int 99 tz), (Str.ofString "b", .str (sl b3) ty3), (Str.ofString "a", .str (sl a3) tx3), (Str.ofString "row", .ref D), (Str.ofString "result", .int res t)] u) (nw = [(D, listOf (List.toArray us) c)]) (IntsAre us (dpRow a3 b3 j)) (j = 0 ∨ res = ((cost (b3.take j) a3 : Nat) : Int))) rfl rfl (small_nat (by omega)) (size_nat (by first | rfl | assumption)) rfl rfl ?h ?turn ?done
  case h =>
    (try k_fold)
    k_steps
    unfold Hit2
    refine' ⟨_, _, _, _, _, _, _, _, rfl, rfl, ?r, ?F, ?N, _, us, c, 0, t2, rfl, rfl, ?I, .inl rfl⟩
    (case r => assumption)
    (case F => wtm_at "frq")
    (case N => assumption)
    (case I => rw [dpRow_zero]; exact hI)
  case done =>
    rintro m nw h tk ⟨u, us, c, res, t, rfl, rfl, hI, hr⟩ Fd Nd
    dsimp only
    (try k_fold)
    k_steps
    dsimp only
    refine ret_int (s := s) hret ?_ (by (refine' stays_of ?h1 ?h2; (case h1 => assumption); (case h2 => assumption)))
    rcases hr with h0 | rfl
    · omega
    · rw [List.take_length, hc4, cost_comm]
  case turn =>
    rintro j v t m nw It o h tk hj hv ⟨u, us, c, res, t', rfl, rfl, hI, hr⟩ hfr Ft Nt
    obtain rfl : v = (j : Int) := by omega
    clear F6 N6 hr hv
    simp only [List.forall_mem_cons, List.not_mem_nil, false_implies, implies_true, and_true] at hfr
    refine cutO (fun s' => E8 fun u t1 t2 t3 t4 t5 h1 tk1 => A3 (s' = { s with heap := h1, toks := tk1 }) (Fr g L' h1 (mq [(Str.ofString "max_cost", .int 99 tz), (Str.ofString "b", .str (sl b3) ty3), (Str.ofString "a", .str (sl a3) tx3), (Str.ofString "row", .ref D),
      (Str.ofString "bindex", .int (j : Nat) t1), (Str.ofString "bchar", .str (sl [b3[j]]) t2), (Str.ofString "distance", .int (2 * (j : Nat)) t3), (Str.ofString "result", .int (2 * (j : Nat)) t4), (Str.ofString "minimum", .int 9223372036854775807 t5)] u)) (News g L' h1 [(It, o), (D, listOf (List.toArray us) c)])) 3 ?_ ?_
    · intro P' hP'; dsimp only [List.take]
      (try k_fold)
      k_steps
      refine hP' _ ?_
      rename_i F9 N9
      simp only [item_sl _ _ hj, Int.mul_comm (j : Int) 2] at F9
      refine' ⟨_, _, _, _, _, _, _, _, rfl, ?F, by assumption⟩
      case F => wtm_at "frq"
    rintro _ ⟨u', t1, t2, t3, t4, t5, h1, tk1, rfl, F7, N7⟩
    clear Ft Nt
    dsimp only [List.drop]
    refine wpAny_execs_cons ?_
    refine for_range (h₀ := g) (L := L') (a := 0) (b := ((sl a3).length : Int)) (c := 1) (n := a3.length) (fun i m nw => E9 fun u us c t2 t3 t4 t5 res mi => A5 (m = mq [(Str.ofString "max_cost", .int 99 tz), (Str.ofString "b", .str (sl b3) ty3), (Str.ofString "a", .str (sl a3) tx3), (Str.ofString "row", .ref D),
      (Str.ofString "bchar", .str (sl [b3[j]]) t2), (Str.ofString "distance", .int ((cost (b3.take j) (a3.take i) : Nat) : Int) t3), (Str.ofString "result", .int res t4), (Str.ofString "minimum", .int mi t5)] u) (nw = [(It, o), (D, listOf (List.toArray us) c)]) (IntsAre us (mixRow a3 b3 j i)) (res = resAt a3 b3 j i) (i = 0 ∨ mi ≤ 99)) rfl rfl (small_nat (by omega)) (size_nat (by first | rfl | assumption)) rfl rfl ?h ?turn ?done
    case h =>
      (try k_fold)
      k_steps
      unfold Hit2
      refine' ⟨_, _, _, _, _, _, _, _, rfl, rfl, ?r, ?F, ?N, _, us, c, t2, t3, t4, t5, 2 * (j : Nat), 9223372036854775807, rfl, rfl, ?I, rfl, .inl rfl⟩
      (case r => assumption)
      (case F => (rw [List.take_zero, cost_nil_r, List.length_take, Nat.min_eq_left (Nat.le_of_lt hj)]; wtm_at "frq"))
      (case N => assumption)
      (case I => rw [mixRow_zero]; exact hI)
    case done =>
      rintro m nw h tk ⟨u, us, c, t2, t3, t4, t5, res, mi, rfl, rfl, hI, hr, hm⟩ Fd Nd
      dsimp only
      (try k_fold)
      k_steps
      · refine' ⟨_, _, _, _, rfl, ?F, Nd, ?fresh, _, us, c, res, t4, rfl, rfl, ?I, .inr ?R⟩
        case F => wtm_at "frq"
        case fresh => simp only [List.forall_mem_cons, List.not_mem_nil, false_implies, implies_true, and_true]; exact hfr
        case I => rw [← mixRow_all]; exact hI
        case R => rw [hr]; unfold resAt; rw [if_neg (by omega), List.take_length]
    case turn =>
      rintro i v t m nw It2 o2 h tk hi hv ⟨u, us, c, t2, t3, t4, t5, res, mi, rfl, rfl, hI, hr, hm⟩ hfr2 Ft Nt
      obtain rfl : v = (i : Int) := by omega
      clear F7 N7 hv
      simp only [List.forall_mem_cons, List.not_mem_nil, false_implies, implies_true, and_true] at hfr2
      (try k_fold)
      k_steps
      rw [item_sl _ _ hi]
      have hml := mixRow_length a3 b3 j i
      have hma := mixRow_at a3 b3 j i hi
      refine' (sub_pure b3[j] a3[i] _ _ (hb3 _ (List.getElem_mem _)) (ha3 _ (List.getElem_mem _))).use ?F X' ?N T' trivial ?rm ?un ?_
      (case F => assumption)
      (case N => assumption)
      (case rm => (first | exact room3 (by assumption) (by decide) | exact room2 (by assumption) (by decide) | omega | (dsimp only [Ar, Around.deeper]; omega) | (simp only [depth_deeper, units_deeper]; dsimp only [Ar]; omega)))
      (case un => (first | exact room3 (by assumption) (by decide) | exact room2 (by assumption) (by decide) | omega | (dsimp only [Ar, Around.deeper]; omega) | (simp only [depth_deeper, units_deeper]; dsimp only [Ar]; omega)))
      rintro _ h8 tk8 F8 N8 _ ⟨t8, rfl⟩
      dsimp only
      (try k_fold)
      k_steps
      have hrs := resAt_step a3 b3 j i hj hi _ rfl
      simp only [ite_min, Int.toNat_natCast, hma, hr, hrs] at *
      clear hr hma
      have q1 := neN hfr2.1
      have q2 := neN hfr2.2
      have q3 := neN hfr
      have h40 := cost_le40 a3 b3 (by omega) hn3 (j + 1) (i + 1)
      refine' ksa_set ?F ?N ?U hI ?h0 ?h1 ?hf ?_
      (case F => assumption)
      (case N => assumption)
      (case U => k_upd)
      (case h0 => omega)
      (case h1 => omega)
      (case hf => omega)
      intro h9 F9 N9 hI9 _ _
      rw [Int.toNat_natCast, mixRow_set _ _ _ _ hi] at hI9
      (try k_fold)
      k_steps
      all_goals (
        refine' ⟨_, _, _, _, rfl, ?F, by assumption, ?fresh, _, _, _, _, _, _, _, _, _, rfl, rfl, hI9, ?res, .inr ?mi⟩
        (case F => wtm_at "frq")
        (case fresh => simp only [List.forall_mem_cons, List.not_mem_nil, false_implies, implies_true, and_true]; exact hfr2)
        (case res => unfold resAt; rw [if_neg (by omega)])
        (case mi => omega))

end
noncomputable section
/-- the place of a new item, found by halves -/
noncomputable def At (n : Nat) (below : Nat → Bool) (lo r : Nat) : Prop := lo ≤ r ∧ r ≤ n ∧ (∀ i, lo ≤ i → i < r → below i = true) ∧ ∀ i, r ≤ i → i < n → below i = false

-- the middle of two places
theorem md1 {lo hi : Nat} (h : (lo : Int) < hi) : (lo + hi) / 2 - lo < hi - lo := by omega
theorem md2 {lo hi : Nat} (h : (lo : Int) < hi) : hi - ((lo + hi) / 2 + 1) < hi - lo := by omega
theorem md3 {lo hi n : Nat} (h : (lo : Int) < hi) (k : hi ≤ n) : (lo + hi) / 2 < n := by omega
theorem md4 {lo hi : Nat} (h : (lo : Int) < hi) : (lo + hi) / 2 + 1 ≤ hi := by omega
theorem md5 {lo hi : Nat} (h : (lo : Int) < hi) : lo ≤ (lo + hi) / 2 := by omega
theorem md6 {lo hi l : Nat} (h : (lo : Int) < hi) (k : l ≤ lo) : l ≤ (lo + hi) / 2 + 1 := by omega
theorem fdiv2 (a b : Nat) : ((a : Int) + b).fdiv 2 = (((a + b) / 2 : Nat) : Int) := by rw [Int.fdiv_eq_ediv_of_nonneg _ (by decide)]; omega
theorem stays_list' {h g : Heap} {l : Addr} {items : Array Value} (hg : ∀ b o, h.get? b = some o → b ∉ ([] : List Addr) → g.get? b = some o) (x : h.IsList l items) : g.IsList l items := let ⟨o, ho, r⟩ := x; ⟨o, hg l o ho List.not_mem_nil, r⟩

theorem getD_sl (xs : List (List Nat)) (k : Nat) (h : k < xs.length) : ((xs.map sl).getD ((k : Int).toNat) Str.empty).cps.toList = xs.getD k [] := by
  simp [List.getD_eq_getElem?_getD, h, sl]
theorem srt_le {xs : List (List Nat)} (hs : xs.Pairwise fun a b => ¬ b < a) {i j : Nat} (hij : i ≤ j) (hj : j < xs.length) : ¬ xs.getD j [] < xs.getD i [] := by
  rw [List.getD_eq_getElem?_getD, List.getD_eq_getElem?_getD, List.getElem?_eq_getElem hj, List.getElem?_eq_getElem (by omega)]
  simp only [Option.getD_some]
  by_cases e : i = j
  · subst e; exact List.lt_irrefl _
  · exact (List.pairwise_iff_getElem.mp hs) i j (by omega) hj (by omega)
theorem srt_lt {xs : List (List Nat)} (hs : xs.Pairwise fun a b => ¬ b < a) {x : List Nat} {i j : Nat} (hij : i ≤ j) (hj : j < xs.length) (h : xs.getD j [] < x) : xs.getD i [] < x :=
  List.lt_of_le_of_lt (List.not_lt.mp (srt_le hs hij hj)) h
theorem srt_gt {xs : List (List Nat)} (hs : xs.Pairwise fun a b => ¬ b < a) {x : List Nat} {i j : Nat} (hij : i ≤ j) (hj : j < xs.length) (h : x < xs.getD i []) : x < xs.getD j [] :=
  Decidable.byContradiction fun c => srt_le hs hij hj (List.lt_of_le_of_lt (List.not_lt.mp c) h)

theorem bl_core (args : List Value) (l : Addr) (vs : List Value) (xs : List (List Nat)) (x : List Nat) (tx tl : Tok) (lo : Nat)
    (ha : BindsF Mine.hd1.heap_1 65 ⟨args, []⟩ [(Str.ofString "a", .ref l), (Str.ofString "x", .str (sl x) tx), (Str.ofString "lo", .int (lo : Nat) tl), (Str.ofString "hi", .none), (Str.ofString "key", .none)])
    (hlo : lo ≤ xs.length) (hn : xs.length ≤ 100) (hS : StrsAre vs (xs.map sl)) (hs : xs.Pairwise fun a b => ¬ b < a) :
    Pure Mine.hd1.heap_1 PySem.Challenge.rw_pe0272_01.row.prog 65 2 ⟨args, []⟩ (fun _ h => h.IsList l vs.toArray) (fun r _ => E2 fun k t => r = .int (k : Nat) t ∧ At xs.length (fun i => decide (xs.getD i [] < x)) lo k) := by
  unfold Pure
  intro w p loose mean mg mb dp un fr gd s Q E X T hl hdp hun hret
  dsimp only at hret
  have hlen : vs.length = xs.length := by simpa using hS.length
  w_top off; revert X; k_fill; intro X
  (k_dflt (refine' enterS (args := ⟨_, _⟩) [] ?hS ?kX ?kT ?k6 ?k7 ?k8 ?k9 ?kB ?_ ?c2 ?c3 ?c4 ?c5; (case hS => exact List.forall_mem_nil _); (case kX => assumption); (case kT => assumption); (case k6 => k_is); (case k7 => k_is); (case k8 => (dsimp only [Ar]; omega)); (case k9 => exact ‹BindsF _ _ _ _› _ _ _ _ _ (by k_is) _ (by assumption)); (case c5 => decide); (case kB => exact locs rfl); (case c2 => exact rfl); (case c3 => exact rfl); (case c4 => exact rfl); k_whole))
  intro g L' h' hg F' N' X' T' _
  (try dsimp only)
  have hlg := stays_list' hg hl
  refine cutO (fun s' => E7 fun u v v2 t1 t2 h1 tk1 => A5 (s' = { s with heap := h1, toks := tk1 }) (Fr g L' h1 (mq [(Str.ofString "a", .ref l), (Str.ofString "x", .str (sl x) tx), (Str.ofString "lo", .int v t1), (Str.ofString "hi", .int v2 t2), (Str.ofString "key", .none)] u)) (News g L' h1 []) (v = (lo : Nat)) (v2 = (xs.length : Nat))) 2 ?_ ?_
  · intro P' hP'; dsimp only [List.take]
    (try k_fold)
    k_steps
    refine hP' _ ?_
    refine' ⟨_, _, _, _, _, _, _, rfl, ?F, by assumption, ?v, ?v2⟩
    (case F => wtm_at "frq")
    (case v => omega)
    (case v2 => omega)
  rintro _ ⟨u, v, v2, t1, t2, h1, tk1, rfl, F1, N1, rfl, rfl⟩
  clear F' N'
  dsimp only [List.drop]
  refine cutO (fun s' => E5 fun u r t1 h1 tk1 => A4 (s' = { s with heap := h1, toks := tk1 }) (Fr g L' h1 (mq [(Str.ofString "lo", .int (r : Nat) t1)] u)) (News g L' h1 []) (At xs.length (fun i => decide (xs.getD i [] < x)) lo r)) 1 ?_ ?_
  · intro P' hP'; dsimp only [List.take]
    refine wpAny_execs_cons (wpAny_If ?_)
    (try k_fold)
    k_steps
    unfold Stop
    refine While_inv3 (fun n m nw => E5 fun (u : Str → Option Value) (lo1 hi1 : Nat) (t1 t2 : Tok) => A8 (m = mq [(Str.ofString "a", .ref l), (Str.ofString "x", .str (sl x) tx), (Str.ofString "lo", .int (lo1 : Nat) t1), (Str.ofString "hi", .int (hi1 : Nat) t2)] u) (nw = []) (lo ≤ lo1) (lo1 ≤ hi1) (hi1 ≤ xs.length) (∀ i, lo ≤ i → i < lo1 → xs.getD i [] < x) (∀ i, hi1 ≤ i → i < xs.length → ¬ xs.getD i [] < x) (n = hi1 - lo1)) F1 N1
      ⟨_, lo, xs.length, t1, t2, funext (mq_self (by wtm_at "look")), rfl, Nat.le_refl _, hlo, Nat.le_refl _, fun i a b => absurd b (Nat.not_lt.mpr a), fun i a b => absurd b (Nat.not_lt.mpr a), rfl⟩ ?_
    rintro n m₁ nw h₁ tk₁ F₁ N₁ ⟨u, lo1, hi1, t1, t2, rfl, rfl, hb1, hb2, hb3, hb4, hb5, rfl⟩
    (try k_fold)
    k_steps
    · simp only [fdiv2] at *
      (try k_fold)
      k_steps
      · have hm : (lo1 + hi1) / 2 < xs.length := md3 (by assumption) hb3
        rename (_ < (sl x).cps.toList) => hlt
        rw [getD_sl _ _ hm, sl_cps] at hlt
        refine' ⟨_, _, _, _, hi1 - ((lo1 + hi1) / 2 + 1), rfl, ?F, by assumption, md2 (by assumption), _, (lo1 + hi1) / 2 + 1, hi1, _, _, rfl, rfl, md6 (by assumption) hb1, md4 (by assumption), hb3, fun i a b => srt_lt hs (Nat.le_of_lt_succ b) hm hlt, hb5, rfl⟩
        (case F => wtm_at "frq")
      · have hm : (lo1 + hi1) / 2 < xs.length := md3 (by assumption) hb3
        rename (¬ _ < (sl x).cps.toList) => hlt
        rw [getD_sl _ _ hm, sl_cps] at hlt
        refine' ⟨_, _, _, _, (lo1 + hi1) / 2 - lo1, rfl, ?F, by assumption, md1 (by assumption), _, lo1, (lo1 + hi1) / 2, _, _, rfl, rfl, hb1, md5 (by assumption), Nat.le_of_lt hm, hb4, fun i a b c => hlt (srt_lt hs a b c), rfl⟩
        (case F => wtm_at "frq")
    · refine hP' _ ?_
      obtain rfl : lo1 = hi1 := by omega
      refine' ⟨_, lo1, _, _, _, rfl, ?F, by assumption, hb1, hb3, fun i a b => decide_eq_true (hb4 i a b), fun i a b => decide_eq_false (hb5 i a b)⟩
      (case F => wtm_at "frq")
  rintro _ ⟨u, r, t1, h1, tk1, rfl, F1, N1, hA⟩
  dsimp only [List.drop]
  (try k_fold)
  k_steps
  dsimp only
  exact hret _ _ _ (by (refine' stays_of ?h1 ?h2; (case h1 => assumption); (case h2 => assumption))) ⟨r, _, rfl, hA⟩

theorem bl_pure2 (l : Addr) (vs : List Value) (xs : List (List Nat)) (x : List Nat) (tx : Tok) (hn : xs.length ≤ 100) (hS : StrsAre vs (xs.map sl)) (hs : xs.Pairwise fun a b => ¬ b < a) :
    Pure Mine.hd1.heap_1 PySem.Challenge.rw_pe0272_01.row.prog 65 2 ⟨[.ref l, .str (sl x) tx], []⟩ (fun _ h => h.IsList l vs.toArray) (fun r _ => E2 fun k t => r = .int (k : Nat) t ∧ At xs.length (fun i => decide (xs.getD i [] < x)) 0 k) :=
  bl_core _ l vs xs x tx 318 0 (by (unfold BindsF; intro P oc od osl fd ho s X; (have e := Eq.trans (Eq.symm ho) (by k_is)); (injection e with e; injection e with e1 e2 e3 e4; injection e3 with e3; subst e3); first | exact BindsTo.of_eq rfl | (refine' kp_binds ?kx ?ke; (case kx => assumption); (case ke => exact fun _ => rfl)))) (Nat.zero_le _) hn hS hs
theorem bl_pure3 (l : Addr) (vs : List Value) (xs : List (List Nat)) (x : List Nat) (tx tl : Tok) (lo : Nat) (hlo : lo ≤ xs.length) (hn : xs.length ≤ 100) (hS : StrsAre vs (xs.map sl)) (hs : xs.Pairwise fun a b => ¬ b < a) :
    Pure Mine.hd1.heap_1 PySem.Challenge.rw_pe0272_01.row.prog 65 2 ⟨[.ref l, .str (sl x) tx, .int (lo : Nat) tl], []⟩ (fun _ h => h.IsList l vs.toArray) (fun r _ => E2 fun k t => r = .int (k : Nat) t ∧ At xs.length (fun i => decide (xs.getD i [] < x)) lo k) :=
  bl_core _ l vs xs x tx tl lo (by (unfold BindsF; intro P oc od osl fd ho s X; (have e := Eq.trans (Eq.symm ho) (by k_is)); (injection e with e; injection e with e1 e2 e3 e4; injection e3 with e3; subst e3); first | exact BindsTo.of_eq rfl | (refine' kp_binds ?kx ?ke; (case kx => assumption); (case ke => exact fun _ => rfl)))) hlo hn hS hs

end
noncomputable section
/-- x < v, for each v of a list -/
noncomputable def CmpLt (prog : Program) (w : World) (h : Heap) (xv : Value) (vs : List Value) (gt : Nat → Bool) : Prop :=
  ∀ (i : Nat) (v : Value) (A : Around) (s' : Shared) (Q : Value → Shared → Prop), vs[i]? = some v → A.handled = none → A.units + 8 < cLine → h.StaysIn s'.heap →
    (∀ h' tk', s'.heap.StaysIn h' → Q (.bool (gt i)) { s' with heap := h', toks := tk' }) → wpAny (model prog w) A (compareOp .Lt xv v) Q (fun _ _ => False) s'

theorem br_core (args : List Value) (l : Addr) (vs : List Value) (xv : Value) (gt : Nat → Bool) (tl : Tok) (lo : Nat)
    (ha : BindsF Mine.hd1.heap_1 56 ⟨args, []⟩ [(Str.ofString "a", .ref l), (Str.ofString "x", xv), (Str.ofString "lo", .int (lo : Nat) tl), (Str.ofString "hi", .none), (Str.ofString "key", .none)])
    (hlo : lo ≤ vs.length) (hn : vs.length ≤ 100) (hm : ∀ i j, i ≤ j → j < vs.length → gt i = true → gt j = true) :
    Pure Mine.hd1.heap_1 PySem.Challenge.rw_pe0272_01.row.prog 56 2 ⟨args, []⟩ (fun w h => h.IsList l vs.toArray ∧ CmpLt PySem.Challenge.rw_pe0272_01.row.prog w h xv vs gt) (fun r _ => E2 fun k t => r = .int (k : Nat) t ∧ At vs.length (fun i => !(gt i)) lo k) := by
  unfold Pure
  intro w p loose mean mg mb dp un fr gd s Q E X T ⟨hl, hcmp⟩ hdp hun hret
  dsimp only at hret
  w_top off; revert X; k_fill; intro X
  (k_dflt (refine' enterS (args := ⟨_, _⟩) [] ?hS ?kX ?kT ?k6 ?k7 ?k8 ?k9 ?kB ?_ ?c2 ?c3 ?c4 ?c5; (case hS => exact List.forall_mem_nil _); (case kX => assumption); (case kT => assumption); (case k6 => k_is); (case k7 => k_is); (case k8 => (dsimp only [Ar]; omega)); (case k9 => exact ‹BindsF _ _ _ _› _ _ _ _ _ (by k_is) _ (by assumption)); (case c5 => decide); (case kB => exact locs rfl); (case c2 => exact rfl); (case c3 => exact rfl); (case c4 => exact rfl); k_whole))
  intro g L' h' hg F' N' X' T' _
  (try dsimp only)
  have hlg := stays_list' hg hl
  refine cutO (fun s' => E7 fun u v v2 t1 t2 h1 tk1 => A5 (s' = { s with heap := h1, toks := tk1 }) (Fr g L' h1 (mq [(Str.ofString "a", .ref l), (Str.ofString "x", xv), (Str.ofString "lo", .int v t1), (Str.ofString "hi", .int v2 t2), (Str.ofString "key", .none)] u)) (News g L' h1 []) (v = (lo : Nat)) (v2 = (vs.length : Nat))) 2 ?_ ?_
  · intro P' hP'; dsimp only [List.take]
    (try k_fold)
    k_steps
    refine hP' _ ?_
    refine' ⟨_, _, _, _, _, _, _, rfl, ?F, by assumption, ?v, ?v2⟩
    (case F => wtm_at "frq")
    (case v => omega)
    (case v2 => omega)
  rintro _ ⟨u, v, v2, t1, t2, h1, tk1, rfl, F1, N1, rfl, rfl⟩
  clear F' N'
  dsimp only [List.drop]
  refine cutO (fun s' => E5 fun u r t1 h1 tk1 => A4 (s' = { s with heap := h1, toks := tk1 }) (Fr g L' h1 (mq [(Str.ofString "lo", .int (r : Nat) t1)] u)) (News g L' h1 []) (At vs.length (fun i => !(gt i)) lo r)) 1 ?_ ?_
  · intro P' hP'; dsimp only [List.take]
    refine wpAny_execs_cons (wpAny_If ?_)
    (try k_fold)
    k_steps
    unfold Stop
    refine While_inv3 (fun n m nw => E5 fun (u : Str → Option Value) (lo1 hi1 : Nat) (t1 t2 : Tok) => A8 (m = mq [(Str.ofString "a", .ref l), (Str.ofString "x", xv), (Str.ofString "lo", .int (lo1 : Nat) t1), (Str.ofString "hi", .int (hi1 : Nat) t2)] u) (nw = []) (lo ≤ lo1) (lo1 ≤ hi1) (hi1 ≤ vs.length) (∀ i, lo ≤ i → i < lo1 → gt i = false) (∀ i, hi1 ≤ i → i < vs.length → gt i = true) (n = hi1 - lo1)) F1 N1
      ⟨_, lo, vs.length, t1, t2, funext (mq_self (by wtm_at "look")), rfl, Nat.le_refl _, hlo, Nat.le_refl _, fun i a b => absurd b (Nat.not_lt.mpr a), fun i a b => absurd b (Nat.not_lt.mpr a), rfl⟩ ?_
    rintro n m₁ nw h₁ tk₁ F₁ N₁ ⟨u, lo1, hi1, t1, t2, rfl, rfl, hb1, hb2, hb3, hb4, hb5, rfl⟩
    (try k_fold)
    k_steps
    · simp only [fdiv2] at *
      have hm1 : (lo1 + hi1) / 2 < vs.length := md3 (by assumption) hb3
      have hx : vs.toArray[(((lo1 + hi1) / 2 : Nat) : Int).toNat]? = some vs[(lo1 + hi1) / 2] := by rw [Int.toNat_natCast, List.getElem?_toArray]; exact List.getElem?_eq_getElem hm1
      refine' PyProof.Rows.item_list ?l ?a ?b hx ?_
      (case l => is_list)
      (case a => omega)
      (case b => omega)
      rename Fr g L' _ _ => F8
      rename News g L' _ _ => N8
      refine hcmp _ _ _ _ _ (List.getElem?_eq_getElem hm1) rfl (by (first | exact room3 (by assumption) (by decide) | exact room2 (by assumption) (by decide) | omega | (dsimp only [Ar, Around.deeper]; omega) | (simp only [depth_deeper, units_deeper]; dsimp only [Ar]; omega))) (fun b o e => F8.keep b o (hg b o e List.not_mem_nil)) (fun h9 tk9 hk9 => ?_)
      have F9 := F8.keeps hk9
      have N9 : News g L' h9 [] := fun p hp => nomatch hp
      clear F8 N8
      (try k_fold)
      k_steps
      · rename (gt _ = true) => hg1
        refine' ⟨_, _, _, _, (lo1 + hi1) / 2 - lo1, rfl, ?F, by assumption, md1 (by assumption), _, lo1, (lo1 + hi1) / 2, _, _, rfl, rfl, hb1, md5 (by assumption), Nat.le_of_lt hm1, hb4, fun i a b => hm _ _ a b hg1, rfl⟩
        (case F => wtm_at "frq")
      · rename (gt _ = false) => hg1
        refine' ⟨_, _, _, _, hi1 - ((lo1 + hi1) / 2 + 1), rfl, ?F, by assumption, md2 (by assumption), _, (lo1 + hi1) / 2 + 1, hi1, _, _, rfl, rfl, md6 (by assumption) hb1, md4 (by assumption), hb3, fun i a b => ?e, hb5, rfl⟩
        (case F => wtm_at "frq")
        (case e =>
          cases e : gt i with
          | false => rfl
          | true => exact absurd (hm i _ (Nat.le_of_lt_succ b) hm1 e) (by rw [hg1]; exact Bool.false_ne_true))
    · refine hP' _ ?_
      obtain rfl : lo1 = hi1 := by omega
      refine' ⟨_, lo1, _, _, _, rfl, ?F, by assumption, hb1, hb3, fun i a b => by show (!gt i) = true; rw [hb4 i a b]; rfl, fun i a b => by show (!gt i) = false; rw [hb5 i a b]; rfl⟩
      (case F => wtm_at "frq")
  rintro _ ⟨u, r, t1, h1, tk1, rfl, F1, N1, hA⟩
  dsimp only [List.drop]
  (try k_fold)
  k_steps
  dsimp only
  exact hret _ _ _ (by (refine' stays_of ?h1 ?h2; (case h1 => assumption); (case h2 => assumption))) ⟨r, _, rfl, hA⟩


theorem cmp_text (prog : Program) (w : World) (h : Heap) (x : List Nat) (tx : Tok) {vs : List Value} {xs : List (List Nat)} (hS : StrsAre vs (xs.map sl)) : CmpLt prog w h (.str (sl x) tx) vs (fun i => decide (x < xs.getD i [])) := by
  intro i v A s' Q hv hh hu hk hQ
  have hlen : vs.length = xs.length := by simpa using hS.length
  have hi : i < xs.length := by rw [← hlen]; exact (List.getElem?_eq_some_iff.mp hv).1
  obtain ⟨t', e⟩ := hS.get i (sl xs[i]) (by rw [List.getElem?_map, List.getElem?_eq_getElem hi]; rfl)
  rw [hv] at e
  cases e
  refine PyProof.Rows.lt_str ?_
  have := hQ s'.heap s'.toks fun b o e => e
  rw [sl_cps, sl_cps]
  dsimp only at this
  rw [List.getD_eq_getElem?_getD, List.getElem?_eq_getElem hi] at this
  exact this
theorem br_mono {xs : List (List Nat)} (hs : xs.Pairwise fun a b => ¬ b < a) {vs : List Value} (hlen : vs.length = xs.length) (x : List Nat) : ∀ i j, i ≤ j → j < vs.length → decide (x < xs.getD i []) = true → decide (x < xs.getD j []) = true :=
  fun i j a b c => decide_eq_true (srt_gt hs a (by omega) (of_decide_eq_true c))
theorem br_text4 (l : Addr) (vs : List Value) (xs : List (List Nat)) (x : List Nat) (tx tl : Tok) (hn : xs.length ≤ 100) (hS : StrsAre vs (xs.map sl)) (hs : xs.Pairwise fun a b => ¬ b < a) :
    Pure Mine.hd1.heap_1 PySem.Challenge.rw_pe0272_01.row.prog 56 2 ⟨[.ref l, .str (sl x) tx, .int 0 tl, .none], []⟩ (fun w h => h.IsList l vs.toArray ∧ CmpLt PySem.Challenge.rw_pe0272_01.row.prog w h (.str (sl x) tx) vs (fun i => decide (x < xs.getD i []))) (fun r _ => E2 fun k t => r = .int (k : Nat) t ∧ At vs.length (fun i => !(decide (x < xs.getD i []))) 0 k) :=
  br_core _ l vs _ _ tl 0 (by (unfold BindsF; intro P oc od osl fd ho s X; (have e := Eq.trans (Eq.symm ho) (by k_is)); (injection e with e; injection e with e1 e2 e3 e4; injection e3 with e3; subst e3); first | exact BindsTo.of_eq rfl | (refine' kp_binds ?kx ?ke; (case kx => assumption); (case ke => exact fun _ => rfl)))) (Nat.zero_le _) (by rw [hS.length]; simpa using hn) (br_mono hs (by simpa using hS.length) x)
end
noncomputable section
theorem CmpLt.mono {prog : Program} {w : World} {h h' : Heap} {xv : Value} {vs : List Value} {gt : Nat → Bool} (C : CmpLt prog w h xv vs gt) (k : h.StaysIn h') : CmpLt prog w h' xv vs gt :=
  fun i v A s' Q hv hh hu hk hQ => C i v A s' Q hv hh hu (fun b o e => hk b o (k b o e)) hQ

theorem ins_core (l : Addr) (vs : List Value) (n : Nat) (xv : Value) (gt : Nat → Bool)
    (hbr : ∀ tl, Pure Mine.hd1.heap_1 PySem.Challenge.rw_pe0272_01.row.prog 56 2 ⟨[.ref l, xv, .int 0 tl, .none], []⟩ (fun w h => h.IsList l vs.toArray ∧ CmpLt PySem.Challenge.rw_pe0272_01.row.prog w h xv vs gt) (fun r _ => E2 fun k t => r = .int (k : Nat) t ∧ At vs.length (fun i => !(gt i)) 0 k)) (hn : vs.length ≤ 100) :
    Mut Mine.hd1.heap_1 PySem.Challenge.rw_pe0272_01.row.prog 47 4 ⟨[.ref l, xv], []⟩ [(l, listOf vs.toArray n)] (fun w h => CmpLt PySem.Challenge.rw_pe0272_01.row.prog w h xv vs gt) (fun r S' => E2 fun k n' => A3 (r = .none) (At vs.length (fun i => !(gt i)) 0 k) (S' = [(l, listOf (vs.take k ++ xv :: vs.drop k).toArray n')])) := by
  unfold Mut
  intro w p loose mean mg mb dp un fr gd s Q E hS X T hcmp hdp hun hret
  dsimp only at hret
  have hl0 : s.heap.get? l = some (listOf vs.toArray n) := hS _ (.head _)
  w_top off; revert X; k_fill; intro X
  have X0 : (Mine.hd1.heap_1 w.params).In s.heap := X.keeps fun b o e => of_hideAll _ e
  (k_dflt (refine' enterS (args := ⟨_, _⟩) _ ?hS ?kX ?kT ?k6 ?k7 ?k8 ?k9 ?kB ?_ ?c2 ?c3 ?c4 ?c5; (case hS => assumption); (case kX => assumption); (case kT => assumption); (case k6 => k_is); (case k7 => k_is); (case k8 => (dsimp only [Ar]; omega)); (case k9 => first | exact BindsTo.of_eq rfl | exact binds_K (by k_in) rfl (by k_is) rfl rfl rfl | (refine' kp_binds ?kx ?ke; (case kx => k_in); (case ke => exact fun _ => rfl))); (case c5 => decide); (case kB => exact locs rfl); (case c2 => exact rfl); (case c3 => exact rfl); (case c4 => exact rfl); k_whole))
  intro g L' h' hg F' N' X' T' _
  (try dsimp only)
  k_steps
  have hst : s.heap.StaysIn h' := fun b o e => by
    by_cases hb : b = l
    · subst hb; rw [hl0] at e; cases e; exact (N' _ (.head _)).1
    · exact F'.keep b o (hg b o e (by simpa using hb))
  refine' (hbr _).use ?F X' N' T' ?hp ?rm ?un ?_
  (case F => assumption)
  (case hp => exact ⟨N'.isList (.head _), hcmp.mono hst⟩)
  (case rm => (first | exact room3 (by assumption) (by decide) | exact room2 (by assumption) (by decide) | omega | (dsimp only [Ar, Around.deeper]; omega) | (simp only [depth_deeper, units_deeper]; dsimp only [Ar]; omega)))
  (case un => (first | exact room3 (by assumption) (by decide) | exact room2 (by assumption) (by decide) | omega | (dsimp only [Ar, Around.deeper]; omega) | (simp only [depth_deeper, units_deeper]; dsimp only [Ar]; omega)))
  rintro _ h8 tk8 F8 N8 hk8 ⟨k, t8, rfl, hA⟩
  dsimp only
  (try k_fold)
  k_steps
  have hk2 : k ≤ vs.length := hA.2.1
  refine' kl_insert (l := vs.take k ++ xv :: vs.drop k) ?F ?N ?f ?e ?U ?z ?_
  (case F => assumption)
  (case N => assumption)
  (case f => unfold Builtin.List.listFitsIndex; simp; omega)
  (case e => (unfold kl_ins; (have e1 : (if (k : Int) < 0 then ((k : Int) + (vs.toArray.toList.length : Int)).toNat else min (k : Int).toNat vs.toArray.toList.length) = k := by (rw [if_neg (by omega)]; simp; omega)); rw [e1]))
  (case U => k_upd)
  (case z => rw [sizeLine_eq]; simp; omega)
  intro h9 F9 N9
  (try k_fold)
  k_steps
  (try dsimp only)
  exact ret_mut hret hg F9 N9 ⟨k, _, rfl, hA, rfl⟩
theorem ins_text (l : Addr) (vs : List Value) (n : Nat) (xs : List (List Nat)) (x : List Nat) (tx : Tok) (hn : xs.length ≤ 100) (hS : StrsAre vs (xs.map sl)) (hs : xs.Pairwise fun a b => ¬ b < a) :
    Mut Mine.hd1.heap_1 PySem.Challenge.rw_pe0272_01.row.prog 47 4 ⟨[.ref l, .str (sl x) tx], []⟩ [(l, listOf vs.toArray n)] (fun _ _ => True) (fun r S' => E2 fun k n' => A3 (r = .none) (At vs.length (fun i => !(decide (x < xs.getD i []))) 0 k) (S' = [(l, listOf (vs.take k ++ (.str (sl x) tx) :: vs.drop k).toArray n')])) :=
  fun w p loose mean mg mb dp un fr gd s Q E hS' X T _ hd hu hret => ins_core l vs n _ _ (fun tl => br_text4 l vs xs x tx tl hn hS hs) (by rw [hS.length]; simpa using hn) w p loose mean mg mb dp un fr gd s Q E hS' X T (cmp_text _ w _ x tx hS) hd hu hret

end
section
local macro_rules | `(tactic| walk_at "getMethod ref") => `(tactic| (k_here; (with_reducible show wpAny _ _ (getMethod (Value.ref _) (Str.ofString "search") _) _ _ _); (refine' Re.method_K ?X ?k ?_; (case X => k_in); (case k => k_is))))
local macro_rules | `(tactic| walk_at "call builtin:re.Pattern.search") => `(tactic| (k_here; (refine' Re.search_K ?X ?kP ?kT ?kc ?kx ?kl ?_; (case X => k_in); (case kP => k_is); (case kT => k_is); (case kx => assumption); (case kl => omega); (case kc => first | exact .inl rfl | exact .inr rfl))))
theorem conv_pure (I : Addr) (x : List Nat) (t : Tok) (b : Bool) (hx : x.length ≤ 200) (hc : ∀ c ∈ x, 32 ≤ c ∧ c < 127) :
    Pure Mine.hd1.heap_1 PySem.Challenge.rw_pe0272_01.row.prog 111 3 ⟨[.ref I, .str (sl x) t], [(Str.ofString "name", .bool b)]⟩ (fun _ _ => True) (fun r _ => r = .str (sl x) t) := by
  unfold Pure
  intro w p loose mean mg mb dp un fr gd s Q E X T _ hdp hun hret
  dsimp only at hret
  w_top off; revert X; k_fill; intro X
  (k_dflt (refine' enterS (args := ⟨_, _⟩) [] ?hS ?kX ?kT ?k6 ?k7 ?k8 ?k9 ?kB ?_ ?c2 ?c3 ?c4 ?c5; (case hS => exact List.forall_mem_nil _); (case kX => assumption); (case kT => assumption); (case k6 => k_is); (case k7 => k_is); (case k8 => (dsimp only [Ar]; omega)); (case k9 => first | exact BindsTo.of_eq rfl | exact binds_K (by k_in) rfl (by k_is) rfl rfl rfl | (refine' kp_binds ?kx ?ke; (case kx => k_in); (case ke => exact fun _ => rfl))); (case c5 => decide); (case kB => exact locs rfl); (case c2 => exact rfl); (case c3 => exact rfl); (case c4 => exact rfl); k_whole))
  intro g L' h' hg F' N' X' T' _
  (try dsimp only)
  cases b
  all_goals k_steps
  all_goals exact hret _ _ _ (by (refine' stays_of ?h1 ?h2; (case h1 => assumption); (case h2 => assumption))) rfl

end
noncomputable section
noncomputable def hit (x : List Nat) (p : List Nat × List Nat) : Bool := p.1.map lowc == x.map lowc
/-- what a table tells of a name -/
noncomputable def Tells (prs : List (List Nat × List Nat)) (x : List Nat) (r : Value) : Prop := (∀ p, prs.find? (hit x) = some p → ∃ t, r = .str (sl p.2) t) ∧ (prs.find? (hit x) = none → r = .none)
theorem find_take {α : Type} {f : α → Bool} {l : List α} {i : Nat} (hi : i < l.length) (h : (l.take i).find? f = none) (e : f l[i] = true) : l.find? f = some l[i] := by
  have e1 : l = l.take i ++ l[i] :: l.drop (i + 1) := by rw [← List.drop_eq_getElem_cons hi, List.take_append_drop]
  have e2 : (l.take i ++ l[i] :: l.drop (i + 1)).find? f = some l[i] := by rw [List.find?_append, h, List.find?_cons, e]; rfl
  rw [← e1] at e2
  exact e2
theorem find_step {α : Type} {f : α → Bool} {l : List α} {i : Nat} (hi : i < l.length) (h : (l.take i).find? f = none) (e : f l[i] = false) : (l.take (i + 1)).find? f = none := by
  rw [List.take_add_one, List.getElem?_eq_getElem hi, List.find?_append, h]
  simp [e]
theorem get_pure (I dI l : Addr) (vs : List Value) (prs : List (List Nat × List Nat)) (x : List Nat) (t : Tok) (hx : x.length ≤ 200) (hc : ∀ c ∈ x, 32 ≤ c ∧ c < 127) (hn : prs.length ≤ 100) (hp : ∀ p ∈ prs, (∀ c ∈ p.1, c < 128) ∧ p.1.length ≤ 200) :
    Pure Mine.hd1.heap_1 PySem.Challenge.rw_pe0272_01.row.prog 159 10 ⟨[.ref I, .str (sl x) t], []⟩ (fun _ h => TabG 212 h I dI l vs prs) (fun r _ => Tells prs x r) := by
  unfold Pure
  intro w p loose mean mg mb dp un fr gd s Q E X T ⟨hsh, t₁, n₁, hI, hdI, hl, hP⟩ hdp hun hret
  dsimp only at hret
  w_top off; revert X; k_fill; intro X
  (k_dflt (refine' enterS (args := ⟨_, _⟩) [] ?hS ?kX ?kT ?k6 ?k7 ?k8 ?k9 ?kB ?_ ?c2 ?c3 ?c4 ?c5; (case hS => exact List.forall_mem_nil _); (case kX => assumption); (case kT => assumption); (case k6 => k_is); (case k7 => k_is); (case k8 => (dsimp only [Ar]; omega)); (case k9 => first | exact BindsTo.of_eq rfl | exact binds_K (by k_in) rfl (by k_is) rfl rfl rfl | (refine' kp_binds ?kx ?ke; (case kx => k_in); (case ke => exact fun _ => rfl))); (case c5 => decide); (case kB => exact locs rfl); (case c2 => exact rfl); (case c3 => exact rfl); (case c4 => exact rfl); k_whole))
  intro g L' h' hg F' N' X' T' _
  (try dsimp only)
  have hI' : g.get? I = some (instObj 212 dI) := hg _ _ hI List.not_mem_nil
  have hdI' := hg _ _ hdI List.not_mem_nil
  have hx1 : ∀ c ∈ x, c < 128 := fun c h => by have := hc c h; omega
  have hkg : s.heap.StaysIn g := fun b o e => hg b o e List.not_mem_nil
  have hlg := stays_list hkg hl
  have hPg := hP.keeps hkg
  have hvl := hP.length
  refine cut (fun s' => E4 fun u t h1 tk1 => A3 (s' = { s with heap := h1, toks := tk1 }) (Fr g L' h1 (mq [(Str.ofString "self", .ref I), (Str.ofString "name", .str (sl (x.map lowc)) t), (Str.ofString "default", .none)] u)) (News g L' h1 [])) 1 ?_ ?_
  · dsimp only [List.take]
    (try k_fold)
    k_steps
    refine' (conv_pure I (x.map lowc) _ true (by simpa using hx) (lowc_ok hc)).use ?F X' N' T' trivial ?rm ?un ?_
    (case F => assumption)
    (case rm => (first | exact room3 (by assumption) (by decide) | exact room2 (by assumption) (by decide) | omega | (dsimp only [Ar, Around.deeper]; omega) | (simp only [depth_deeper, units_deeper]; dsimp only [Ar]; omega)))
    (case un => (first | exact room3 (by assumption) (by decide) | exact room2 (by assumption) (by decide) | omega | (dsimp only [Ar, Around.deeper]; omega) | (simp only [depth_deeper, units_deeper]; dsimp only [Ar]; omega)))
    rintro _ h8 tk8 F8 N8 hk8 rfl
    dsimp only
    (try k_fold)
    k_steps
    unfold Hit
    refine' ⟨_, _, _, _, rfl, ?F, ‹News g L' _ []›⟩
    (case F => wtm_at "frq")
  rintro _ ⟨u1, t1, h1, tk1, rfl, F1, N1⟩
  dsimp only [List.drop]
  refine wpAny_execs_cons ?_
  refine for_list (h₀ := g) (L := L') (l := l) (items := vs.toArray) (fun i m nw => ∃ u, A3 (m = mq [(Str.ofString "self", .ref I), (Str.ofString "name", .str (sl (x.map lowc)) t1), (Str.ofString "default", .none)] u) (nw = []) ((prs.take i).find? (hit x) = none)) rfl rfl ?hl ?h ?turn ?done
  case hl =>
    rintro i m nw h ⟨u, rfl, rfl, _⟩ F N
    obtain ⟨o, e, r⟩ := hlg
    exact ⟨o, F.keep _ _ e, r⟩
  case h =>
    (try k_fold)
    k_steps
    unfold Hit2
    exact ⟨rfl, _, _, _, _, rfl, ‹Fr g L' _ _›, ‹News g L' _ []›, _, rfl, rfl, rfl⟩
  case done =>
    rintro m nw h tk ⟨u, rfl, rfl, hf⟩ Fd Nd
    dsimp only
    rw [List.size_toArray, hvl, List.take_length] at hf
    (try k_fold)
    k_steps
    exact hret _ _ _ (by (refine' stays_of ?h1 ?h2; (case h1 => assumption); (case h2 => assumption))) ⟨fun p e => absurd (hf.symm.trans e) (by simp), fun _ => rfl⟩
  case turn =>
    rintro i v m nw It o h tk hv ⟨u, rfl, rfl, hf⟩ hfr Ft Nt
    obtain ⟨hi, T, tk1, tv1, rfl, hT⟩ := (hPg.keeps fun b o e => Ft.keep b o e).get (by simpa using hv)
    have hq := hp _ (List.getElem_mem hi)
    have hq1 := hq.1
    have hq2 := hq.2
    (try k_fold)
    k_steps
    · have e := ‹(sl _ == sl _) = true›
      rw [sl_beq] at e
      have e2 := find_take hi hf (show hit x prs[i] = true by unfold hit; simpa using e)
      exact hret _ _ _ (by (refine' stays_of ?h1 ?h2; (case h1 => assumption); (case h2 => assumption))) ⟨fun p e3 => by rw [e2] at e3; cases e3; exact ⟨_, rfl⟩, fun e3 => absurd (e2.symm.trans e3) (by simp)⟩
    · have e := ‹(sl _ == sl _) = false›
      rw [sl_beq] at e
      refine' ⟨_, _, _, _, rfl, ?F, (news_sub ‹News g L' _ _› (fun q hq => hq)), (by exact fun q hq => nomatch hq), _, rfl, rfl, find_step hi hf (show hit x prs[i] = false by unfold hit; simpa using e)⟩
      (case F => wtm_at "frq")
theorem getitem_pure (I dI l : Addr) (vs : List Value) (prs : List (List Nat × List Nat)) (x : List Nat) (t : Tok) (hx : x.length ≤ 200) (hc : ∀ c ∈ x, 32 ≤ c ∧ c < 127) (hn : prs.length ≤ 100) (hp : ∀ p ∈ prs, (∀ c ∈ p.1, c < 128) ∧ p.1.length ≤ 200) :
    Pure Mine.hd1.heap_1 PySem.Challenge.rw_pe0272_01.row.prog 137 14 ⟨[.ref I, .str (sl x) t], []⟩ (fun _ h => TabG 212 h I dI l vs prs) (fun r _ => Tells prs x r) := by
  unfold Pure
  intro w p loose mean mg mb dp un fr gd s Q E X T ⟨hsh, t₁, n₁, hI, hdI, hl, hP⟩ hdp hun hret
  dsimp only at hret
  revert X; k_fill; intro X
  (k_dflt (refine' enterS (args := ⟨_, _⟩) [] ?hS ?kX ?kT ?k6 ?k7 ?k8 ?k9 ?kB ?_ ?c2 ?c3 ?c4 ?c5; (case hS => exact List.forall_mem_nil _); (case kX => assumption); (case kT => assumption); (case k6 => k_is); (case k7 => k_is); (case k8 => (dsimp only [Ar]; omega)); (case k9 => first | exact BindsTo.of_eq rfl | exact binds_K (by k_in) rfl (by k_is) rfl rfl rfl | (refine' kp_binds ?kx ?ke; (case kx => k_in); (case ke => exact fun _ => rfl))); (case c5 => decide); (case kB => exact locs rfl); (case c2 => exact rfl); (case c3 => exact rfl); (case c4 => exact rfl); k_whole))
  intro g L' h' hg F' N' X' T' _
  (try dsimp only)
  have hI' := hg _ _ hI List.not_mem_nil
  have hdI' := hg _ _ hdI List.not_mem_nil
  have hkg : s.heap.StaysIn g := fun b o e => hg b o e List.not_mem_nil
  have hk1 : s.heap.StaysIn h' := fun b o e => F'.keep _ _ (hkg _ _ e)
  k_steps
  refine' (get_pure I dI l vs prs x t hx hc hn hp).use F' X' N' T' ⟨hsh, t₁, n₁, hk1 _ _ hI, hk1 _ _ hdI, stays_list hk1 hl, hP.keeps hk1⟩ ?rm ?un ?_
  (case rm => (first | exact room3 (by assumption) (by decide) | exact room2 (by assumption) (by decide) | omega | (dsimp only [Ar, Around.deeper]; omega) | (simp only [depth_deeper, units_deeper]; dsimp only [Ar]; omega)))
  (case un => (first | exact room3 (by assumption) (by decide) | exact room2 (by assumption) (by decide) | omega | (dsimp only [Ar, Around.deeper]; omega) | (simp only [depth_deeper, units_deeper]; dsimp only [Ar]; omega)))
  rintro r h8 tk8 F8 N8 hk8 hr
  dsimp only
  (try k_fold)
  k_steps
  exact hret _ _ _ (by (refine' stays_of ?h1 ?h2; (case h1 => assumption); (case h2 => assumption))) hr

end
noncomputable section
theorem add_eq1 {l T : Addr} {vs : List Value} {n : Nat} {o : Obj} : [(l, listOf (vs.toArray.push (Value.ref T)) n), (T, o)] = [(l, listOf (vs ++ [Value.ref T]).toArray n), (T, o)] := by rw [List.push_toArray]
theorem setdefault_mut (I dI l : Addr) (vs : List Value) (prs : List (List Nat × List Nat)) (n : Nat) (x y : List Nat) (t u : Tok) (hx : x.length ≤ 200) (hc : ∀ c ∈ x, 32 ≤ c ∧ c < 127) (hy : y.length ≤ 200) (hd : ∀ c ∈ y, 32 ≤ c ∧ c < 127) (hn : prs.length ≤ 100) (hp : ∀ p ∈ prs, (∀ c ∈ p.1, c < 128) ∧ p.1.length ≤ 200) :
    Mut Mine.hd1.heap_1 PySem.Challenge.rw_pe0272_01.row.prog 202 14 ⟨[.ref I, .str (sl x) t, .str (sl y) u], []⟩ [(l, listOf vs.toArray n)] (fun _ h => TabG 212 h I dI l vs prs)
      (fun r S' => (∃ p, A3 (prs.find? (hit x) = some p) (∃ t, r = .str (sl p.2) t) (S' = [(l, listOf vs.toArray n)])) ∨
        (prs.find? (hit x) = none ∧ (∃ t, r = .str (sl y) t) ∧ E5 fun T tk tv n' n₂ => S' = [(l, listOf (vs ++ [Value.ref T]).toArray n'), (T, { cls := .type "tuple", data := .seq #[.str (sl x) tk, .str (sl y) tv] n₂ })])) := by
  unfold Mut
  intro w p loose mean mg mb dp un fr gd s Q E hS X T ⟨hsh, t₁, n₁, hI, hdI, hl, hP⟩ hdp hun hret
  dsimp only at hret
  w_top off; revert X; k_fill; intro X
  have X0 : (Mine.hd1.heap_1 w.params).In s.heap := X.keeps fun b o e => of_hideAll _ e
  have hl0 : s.heap.get? l = some (listOf vs.toArray n) := hS _ (.head _)
  have hIl : I ≠ l := fun e => by rw [e, hl0] at hI; injection hI with hI; injection hI with h1; cases h1
  have hdl : dI ≠ l := fun e => by rw [e, hl0] at hdI; injection hdI with hI; injection hI with h1; exact absurd h1 (by decide)
  have hvl := hP.length
  (k_dflt (refine' enterS (args := ⟨_, _⟩) _ ?hS ?kX ?kT ?k6 ?k7 ?k8 ?k9 ?kB ?_ ?c2 ?c3 ?c4 ?c5; (case hS => assumption); (case kX => assumption); (case kT => assumption); (case k6 => k_is); (case k7 => k_is); (case k8 => (dsimp only [Ar]; omega)); (case k9 => first | exact BindsTo.of_eq rfl | exact binds_K (by k_in) rfl (by k_is) rfl rfl rfl | (refine' kp_binds ?kx ?ke; (case kx => k_in); (case ke => exact fun _ => rfl))); (case c5 => decide); (case kB => exact locs rfl); (case c2 => exact rfl); (case c3 => exact rfl); (case c4 => exact rfl); k_whole))
  intro g L' h' hg F' N' X' T' hlt
  (try dsimp only)
  have hI' : g.get? I = some (instObj 212 dI) := hg _ _ hI (by simpa using hIl)
  have hdI' := hg _ _ hdI (by simpa using hdl)
  have hlg : h'.IsList l vs.toArray := N'.isList (.head _)
  have hP1 := hP.keepsL hl0 (fun b o hb e => F'.keep b o (hg b o e (by simpa using hb)))
  k_steps
  refine' (get_pure I dI l vs prs x t hx hc hn hp).use ?F X' ?N T' ⟨hsh, t₁, n₁, F'.keep _ _ hI', F'.keep _ _ hdI', hlg, hP1⟩ ?rm ?un ?_
  (case F => assumption)
  (case N => assumption)
  (case rm => (first | exact room3 (by assumption) (by decide) | exact room2 (by assumption) (by decide) | omega | (dsimp only [Ar, Around.deeper]; omega) | (simp only [depth_deeper, units_deeper]; dsimp only [Ar]; omega)))
  (case un => (first | exact room3 (by assumption) (by decide) | exact room2 (by assumption) (by decide) | omega | (dsimp only [Ar, Around.deeper]; omega) | (simp only [depth_deeper, units_deeper]; dsimp only [Ar]; omega)))
  rintro r h8 tk8 F8 N8 hk8 hr
  dsimp only
  cases hf : prs.find? (hit x) with
  | some p =>
    obtain ⟨t2, rfl⟩ := hr.1 p hf
    (try k_fold)
    k_steps
    have e1 := Mut.end (S' := [_]) hg ‹Fr g L' _ _› ‹News g L' _ _› (fun q hq => hq)
    exact hret _ _ _ _ e1.1 e1.2 (.inl ⟨_, hf, ⟨_, rfl⟩, rfl⟩)
  | none =>
    obtain rfl := hr.2 hf
    (try k_fold)
    k_steps
    refine' (conv_pure I x _ true hx hc).use ?F X' ?N T' trivial ?rm2 ?un2 ?_
    (case F => assumption)
    (case N => assumption)
    (case rm2 => (first | exact room3 (by assumption) (by decide) | exact room2 (by assumption) (by decide) | omega | (dsimp only [Ar, Around.deeper]; omega) | (simp only [depth_deeper, units_deeper]; dsimp only [Ar]; omega)))
    (case un2 => (first | exact room3 (by assumption) (by decide) | exact room2 (by assumption) (by decide) | omega | (dsimp only [Ar, Around.deeper]; omega) | (simp only [depth_deeper, units_deeper]; dsimp only [Ar]; omega)))
    rintro _ h5 tk5 F5 N5 hk5 rfl
    dsimp only
    (try k_fold)
    k_steps
    refine' (conv_pure I y _ false hy hd).use ?F3 X' ?N3 T' trivial ?rm3 ?un3 ?_
    (case F3 => assumption)
    (case N3 => assumption)
    (case rm3 => (first | exact room3 (by assumption) (by decide) | exact room2 (by assumption) (by decide) | omega | (dsimp only [Ar, Around.deeper]; omega) | (simp only [depth_deeper, units_deeper]; dsimp only [Ar]; omega)))
    (case un3 => (first | exact room3 (by assumption) (by decide) | exact room2 (by assumption) (by decide) | omega | (dsimp only [Ar, Around.deeper]; omega) | (simp only [depth_deeper, units_deeper]; dsimp only [Ar]; omega)))
    rintro _ h4 tk4 F4 N4 hk4 rfl
    dsimp only
    (try k_fold)
    k_steps
    have e1 := Mut.end (S' := [_, _]) hg ‹Fr g L' _ _› ‹News g L' _ _› (fun q hq => by
      rcases List.mem_cons.mp hq with rfl | hq
      · exact .tail _ (.head _)
      · rw [List.mem_singleton.mp hq]; exact .head _)
    exact hret _ _ _ _ e1.1 e1.2 (.inr ⟨hf, ⟨_, rfl⟩, _, _, _, _, _, add_eq1⟩)

end
noncomputable section
theorem news_rot3 {h₀ h : Heap} {L : Addr} {a b c : Addr × Obj} {rest : List (Addr × Obj)} (N : News h₀ L h ([a, b, c] ++ rest)) : News h₀ L h (b :: c :: a :: rest) := fun q hq => by
  rcases List.mem_cons.mp hq with rfl | hq
  · exact N _ (.tail _ (.head _))
  · rcases List.mem_cons.mp hq with rfl | hq
    · exact N _ (.tail _ (.tail _ (.head _)))
    · rcases List.mem_cons.mp hq with rfl | hq
      · exact N _ (.head _)
      · exact N _ (.tail _ (.tail _ (.tail _ hq)))
theorem headers_new {w : World} {p : Program} {loose : List Str} {mean : ExcName → Option Value} {mg mb : Str → Option Value} {dp un : Nat} {fr : Option (List Env)} {gd : Option (List Code)} {s : Shared} {Q E : Value → Shared → Prop} {h₀ : Heap} {L : Addr} {m : Str → Option Value} {news : List (Addr × Obj)}
    (F : Fr h₀ L s.heap m) (X : (Mine.hd1.heap_1 w.params).In h₀) (N : News h₀ L s.heap news) (T : Top p loose mean mg mb h₀) (hdp : dp + 10 < recursionLimit) (hun : un + 100 < cLine)
    (hQ : ∀ I dI l h' tk' n₁ n₂ hsh t, Fr h₀ L h' m → News h₀ L h' ((I, instObj 212 dI) :: (dI, PySem.W.dictOf [⟨hsh, .str (Str.ofString "_headers") t, .ref l⟩] n₁) :: (l, listOf #[] n₂) :: news) → (∀ p ∈ news, p.1 < dI) → dI < I → I < l → Q (.ref I) { s with heap := h', toks := tk' }) :
    wpAny (model PySem.Challenge.rw_pe0272_01.row.prog w) (Ar dp un fr gd) (call (.ref 212) [] []) Q E s := by
  w_top off; revert X; k_fill; intro X
  refine' call_cls ?k1 ?k2 ?k3 ?k4 ?k5 ?k6 ?_
  (case k1 => exact F)
  (case k2 => exact X)
  (case k3 => exact N)
  (case k4 => k_is)
  (case k5 => k_is)
  (case k6 => k_is)
  intro I dI h1 F1 N1 l1 l2
  have hnw := l1
  have hdI := l2
  have st := mut_fore (S := [(I, instObj 212 dI), (dI, PySem.W.dictOf [] 0)]) F1 N1 (by intro q hq; simp at hq; rcases hq with rfl | rfl <;> simp)
  have X1 := X.keeps st
  have T1 := T.keeps st
  have hS : ∀ q ∈ [(I, instObj 212 dI), (dI, PySem.W.dictOf [] 0)], h1.get? q.1 = some q.2 := by
    intro q hq; simp at hq; rcases hq with rfl | rfl
    · exact (N1 _ (.head _)).1
    · exact (N1 _ (.tail _ (.head _))).1
  k_lt2 l2
  have X0 := X.keeps F1.keep
  have hroom : ((Ar dp un fr gd).under (Code.builtin "type.__call__" { pos := [Value.ref 212] })).depth < recursionLimit := by
    show dp + 1 < recursionLimit
    omega
  (k_dflt (refine' enterK (args := ⟨_, _⟩) _ ?hS ?kX ?kT ?k6 ?k7 ?k8 ?k9 ?kB ?_ ?c2 ?c3 ?c4 ?c5; (case hS => assumption); (case kX => assumption); (case kT => assumption); (case k6 => k_is); (case k7 => k_is); (case k8 => assumption); (case k9 => first | exact BindsTo.of_eq rfl | exact binds_K (by k_in) rfl (by k_is) rfl rfl rfl | (refine' kp_binds ?kx ?ke; (case kx => k_in); (case ke => exact fun _ => rfl))); (case c5 => decide); (case kB => exact locs rfl); (case c2 => exact rfl); (case c3 => exact rfl); (case c4 => exact rfl); k_whole))
  intro g L' h' hg F' N' X' T' _
  dsimp only
  k_steps
  refine ⟨rfl, ?_⟩
  have e1 := Mut.end (s := { s with heap := h1 }) hg (by assumption) (by assumption) (fun q hq => hq)
  have e2 := mut_back (rest := news) F1 N1 (S := [(I, instObj 212 dI), (dI, PySem.W.dictOf [] 0)]) (by intro q hq; simp at hq; rcases hq with rfl | rfl <;> simp) (fun q hq => ⟨.tail _ (.tail _ hq), ?o⟩) e1.1 e1.2
  (case o => have := l1 q hq; simp only [List.map_cons, List.map_nil, List.mem_cons, List.not_mem_nil, or_false, not_or]; exact ⟨Nat.ne_of_lt (Nat.lt_trans this l2), Nat.ne_of_lt this⟩)
  exact hQ I dI _ _ _ _ _ _ _ e2.1 (news_rot3 e2.2) hnw hdI (‹I < _ ∧ dI < _›).1

end
noncomputable section
theorem items_mut (I dI l : Addr) (vs : List Value) (prs : List (List Nat × List Nat)) (hn : prs.length ≤ 100) :
    Mut Mine.hd1.heap_1 PySem.Challenge.rw_pe0272_01.row.prog 176 6 ⟨[.ref I], []⟩ [] (fun _ h => TabG 212 h I dI l vs prs)
      (fun r S' => ∃ D n, r = .ref D ∧ S' = [(D, listOf vs.toArray n)]) := by
  unfold Mut
  intro w p loose mean mg mb dp un fr gd s Q E hS X T ⟨hsh, t₁, n₁, hI, hdI, hl, hP⟩ hdp hun hret
  dsimp only at hret
  w_top off; revert X; k_fill; intro X
  have X0 : (Mine.hd1.heap_1 w.params).In s.heap := X.keeps fun b o e => of_hideAll _ e
  (k_dflt (refine' enterS (args := ⟨_, _⟩) [] ?hS ?kX ?kT ?k6 ?k7 ?k8 ?k9 ?kB ?_ ?c2 ?c3 ?c4 ?c5; (case hS => exact List.forall_mem_nil _); (case kX => assumption); (case kT => assumption); (case k6 => k_is); (case k7 => k_is); (case k8 => (dsimp only [Ar]; omega)); (case k9 => first | exact BindsTo.of_eq rfl | exact binds_K (by k_in) rfl (by k_is) rfl rfl rfl | (refine' kp_binds ?kx ?ke; (case kx => k_in); (case ke => exact fun _ => rfl))); (case c5 => decide); (case kB => exact locs rfl); (case c2 => exact rfl); (case c3 => exact rfl); (case c4 => exact rfl); k_whole))
  intro g L' h' hg F' N' X' T' _
  (try dsimp only)
  have hI' : g.get? I = some (instObj 212 dI) := hg _ _ hI List.not_mem_nil
  have hdI' := hg _ _ hdI List.not_mem_nil
  have hlg : g.IsList l vs.toArray := by obtain ⟨o, e, r⟩ := hl; exact ⟨o, hg _ _ e List.not_mem_nil, r⟩
  have hlg' : h'.IsList l vs.toArray := by obtain ⟨o, e, r⟩ := hlg; exact ⟨o, F'.keep _ _ e, r⟩
  have hvl := hP.length
  k_steps
  dsimp only
  refine ret_mut hret hg ‹Fr g L' _ _› ‹News g L' _ _› ⟨_, 0, rfl, ?_⟩
  rw [slicePick_all]

end
noncomputable section
noncomputable def sg4 : List Nat := [97, 65, 98, 66]
noncomputable def wordOf (m : Nat) : List Nat := (List.range (m % 4)).map fun k => sg4.getD (m / 4 ^ (k + 1) % 4) 0
theorem word_eq (m i : Nat) : ((((m : Nat) : Int).fdiv (4 ^ (1 + (i : Int)).toNat)).fmod 4) = ((m / 4 ^ (i + 1) % 4 : Nat) : Int) := by
  rw [show (1 + (i : Int)).toNat = i + 1 by omega]
  have e : ((4 : Int) ^ (i + 1)) = ((4 ^ (i + 1) : Nat) : Int) := by simp
  have e2 : ((m / 4 ^ (i + 1) : Nat) : Int) = (m : Int) / ((4 ^ (i + 1) : Nat) : Int) := Int.natCast_ediv _ _
  rw [e, Int.fdiv_eq_ediv_of_nonneg _ (Int.natCast_nonneg _), ← e2, Int.fmod_eq_emod_of_nonneg _ (by decide)]
  omega
theorem word_len (m : Nat) : (wordOf m).length = m % 4 := by simp [wordOf]
theorem word_get (m i : Nat) (h : i < (wordOf m).length) : (wordOf m)[i] = sg4.getD (m / 4 ^ (i + 1) % 4) 0 := by simp [wordOf]
theorem word_ok (m : Nat) : (∀ c ∈ wordOf m, 32 ≤ c ∧ c < 127) ∧ (wordOf m).length ≤ 3 := by
  refine ⟨fun c hc => ?_, by rw [word_len]; omega⟩
  obtain ⟨k, _, rfl⟩ := List.mem_map.mp hc
  have h8 : m / 4 ^ (k + 1) % 4 < 4 := Nat.mod_lt _ (by decide)
  generalize m / 4 ^ (k + 1) % 4 = n at h8
  have : ∀ n, n < 4 → 32 ≤ sg4.getD n 0 ∧ sg4.getD n 0 < 127 := by decide
  exact this n h8
theorem word_pure (x : Int) (t : Tok) : Pure Mine.hd1.heap_1 PySem.Challenge.rw_pe0272_01.row.prog 221 3 ⟨[.int x t], []⟩ (fun _ _ => True) (fun r _ => ∃ t, r = .str (sl (wordOf (x % 256).toNat)) t) := by
  unfold Pure
  intro w p loose mean mg mb dp un fr gd s Q E X T _ hdp hun hret
  dsimp only at hret
  w_top off; revert X; k_fill; intro X
  (k_dflt (refine' enterC (args := ⟨_, _⟩) [] ?hS ?kX ?kT ?k6 ?k7 ?k8 ?k9 ?kB ?kn ?_ ?c2 ?c3 ?c4; (case hS => exact List.forall_mem_nil _); (case kX => assumption); (case kT => assumption); (case k6 => k_is); (case k7 => k_is); (case k8 => (dsimp only [Ar]; omega)); (case k9 => first | exact BindsTo.of_eq rfl | exact binds_K (by k_in) rfl (by k_is) rfl rfl rfl | (refine' kp_binds ?kx ?ke; (case kx => k_in); (case ke => exact fun _ => rfl))); (case kB => exact rfl); (case kn => decide); (case c2 => exact rfl); (case c3 => exact rfl); (case c4 => exact rfl); k_whole))
  intro g L' h' tk cells hg F' N' Y X' T' _
  obtain ⟨oc, rfl, hoc⟩ := Y.one
  (try dsimp only)
  k_steps
  have Fz := ‹Fr g L' _ _›
  have Nz := ‹News g L' _ _›
  have hr := ‹IsRange _ _ _ _ _ _ _ _›
  have X2 := X'.keeps Fz.keep
  have T2 := T'.keeps Fz.keep
  have hc1 := (Nz _ (.head _)).1
  dsimp only at hc1
  have hoc1 := ‹Obj.data _ = Data.cell (some (Value.int (x.fmod 256) _))›
  obtain ⟨m, hm⟩ : ∃ m : Nat, m = (x % 256).toNat := ⟨_, rfl⟩
  have e0 : x.fmod 256 = ((m : Nat) : Int) := by rw [hm, Int.fmod_eq_emod_of_nonneg _ (by decide)]; omega
  rw [e0] at hr hoc1
  rw [← hm] at hret
  have e4 : ((m : Nat) : Int).fmod 4 + 1 = ((m % 4 + 1 : Nat) : Int) := by rw [Int.fmod_eq_emod_of_nonneg _ (by decide)]; omega
  rw [e4] at hr
  refine' CompX.range (n := m % 4) hr ?sm ?rs (by rw [sizeLine_eq]; omega) (fun _ i ys _ nw => nw = [] ∧ StrsAre ys (((wordOf m).take i).map fun c => sl [c])) ?h0 ?st (doneL Fz Nz ?fin)
  (case sm => exact small_any (by omega) (by omega) (.inl rfl))
  (case rs => (unfold Builtin.Range.rangeSize; rw [if_pos (by decide)]; split <;> omega))
  (case h0 => intro C cells hC hcl; cases hcl; exact ⟨rfl, .nil⟩)
  (case st =>
    intro C i v ys m2 nw rest h tk hi hJ hv F N hoff
    dsimp only at F N hi
    obtain ⟨rfl, hI⟩ := hJ
    obtain ⟨tv, rfl⟩ := hv
    refine cmp_store F (fun h9 F9 hk9 => ?_) rfl rfl
    have N9 := news_but N hk9
    refine wpAny_tests_nil ?_
    simp only [if_true]
    have elen : (Str.ofString "aAbB").length = 4 := by rfl
    have hse := word_eq m i
    have h8 : m / 4 ^ (i + 1) % 4 < 4 := Nat.mod_lt _ (by decide)
    have hsl : i < (wordOf m).length := by rw [word_len]; exact hi
    have hb8 : (0 : Int) < 4 ^ (1 + (i : Int)).toNat ∧ (4 : Int) ^ (1 + (i : Int)).toNat < 10000 := by
      have h4 : i = 0 ∨ i = 1 ∨ i = 2 := by omega
      rcases h4 with rfl | rfl | rfl <;> decide
    have hit : Txt.item (Str.ofString "aAbB") ((m / 4 ^ (i + 1) % 4 : Nat) : Int) = sl [sg4[m / 4 ^ (i + 1) % 4]] := item_sl sg4 _ h8
    k_steps
    rw [hse] at *
    refine ⟨_, _, _, [], rfl, F9, N9, fun _ h => (nomatch h), rfl, ?_⟩
    rw [hit, map_step _ _ hsl, word_get _ _ hsl, show sg4.getD (m / 4 ^ (i + 1) % 4) 0 = sg4[m / 4 ^ (i + 1) % 4]'h8 from by rw [List.getD_eq_getElem?_getD, List.getElem?_eq_getElem h8]; rfl]
    exact StrsAre.snoc hI _ _)
  intro D C ys m2 nw h tk hJ F9 N9 hk9
  obtain ⟨rfl, hI⟩ := hJ
  dsimp only
  (try k_fold)
  k_steps
  rw [List.take_of_length_le (by rw [word_len]; omega)] at hI
  refine' join_listW (ys := (wordOf m).map fun c => sl [c]) ?l ?i ?s ?w ?_
  (case l => exact N9.isList (.head _))
  (case i => exact hI)
  (case s => decide)
  (case w => rw [len_ones, List.length_map, word_len]; omega)
  intro t4 k4
  rw [show Txt.join (Str.ofString "") ((wordOf m).map fun c => sl [c]) = sl (wordOf m) from tjoin_ones _]
  (try k_fold)
  k_steps
  exact ret_str (s := s) hret rfl (by (refine' stays_of ?h1 ?h2; (case h1 => assumption); (case h2 => assumption)))

end
section
section
variable {prog : Program} {w : World} {A : Around} {E : Value → Shared → Prop} {s : Shared} {h₀ : Heap} {L : Addr} {m : Str → Option Value} {news : List (Addr × Obj)}
theorem min_three_N {a b c : Int} {t u x : Tok} {Q : Value → Shared → Prop} (hh : A.handled = none) (F : Fr h₀ L s.heap m) (N : News h₀ L s.heap news)
    (h : ∀ h' tk t', Fr h₀ L h' m → News h₀ L h' news → Q (.int (min a (min b c)) t') { s with heap := h', toks := tk }) :
    wpAny (model prog w) A (call (.builtin "min") [.int a t, .int b u, .int c x]) Q E s := by
  refine min_three_ints hh fun h' tk hk => ?_
  have key := fun t' => h h' tk t' (F.grownK hk) (N.grown hk)
  by_cases hba : b < a <;> by_cases hc1 : c < b <;> by_cases hc2 : c < a <;> simp only [hba, hc1, hc2, if_true, if_false] at key ⊢
  · rw [show min a (min b c) = c by omega] at key; exact key _
  · rw [show min a (min b c) = c by omega] at key; exact key _
  · rw [show min a (min b c) = b by omega] at key; exact key _
  · rw [show min a (min b c) = b by omega] at key; exact key _
  · rw [show min a (min b c) = c by omega] at key; exact key _
  · rw [show min a (min b c) = a by omega] at key; exact key _
  · rw [show min a (min b c) = c by omega] at key; exact key _
  · rw [show min a (min b c) = a by omega] at key; exact key _
end
local macro_rules | `(tactic| walk_at "call builtin:min") => `(tactic| (k_here; (with_reducible show wpAny _ _ (call (Value.builtin _) [Value.int _ _, Value.int _ _, Value.int _ _]) _ _ _); k_dflt (refine' min_three_N rfl ?F ?N ?_; (case F => k_asm); (case N => k_asm)); intro h' tk' t' F' N'; (try k_sweep)))
noncomputable def rowC (x b : List Nat) : List Int := (List.range (b.length + 1)).map fun j => ((cost x (b.drop j) : Nat) : Int)
/-- the row of a sign and what is behind it, as far as it is laid (from the right) -/
noncomputable def linC (x b : List Nat) (i : Nat) : List Int := (List.range (i + 1)).map fun k => ((cost x (b.drop (b.length - i + k)) : Nat) : Int)
theorem rowC_nil (b : List Nat) : rowC [] b = (List.range (b.length + 1)).map fun j : Nat => (2 : Int) * ((b.length : Int) - (j : Int)) := by
  unfold rowC
  refine List.map_congr_left fun j hj => ?_
  have := List.mem_range.mp hj
  rw [cost_nil, List.length_drop]; omega
theorem rowC_len (x b : List Nat) : (rowC x b).length = b.length + 1 := by simp [rowC]
theorem linC_len (x b : List Nat) (i : Nat) : (linC x b i).length = i + 1 := by simp [linC]
theorem rowC_at (x b : List Nat) (j : Nat) (h : j < b.length + 1) : (rowC x b).getD j 0 = ((cost x (b.drop j) : Nat) : Int) := by
  simp [rowC, List.getD_eq_getElem?_getD, h]
theorem linC_all (x b : List Nat) : linC x b b.length = rowC x b := by
  unfold linC rowC
  refine List.map_congr_left fun k _ => ?_
  rw [Nat.sub_self, Nat.zero_add]
theorem linC_zero (x b : List Nat) : linC x b 0 = [((2 * x.length : Nat) : Int)] := by
  simp [linC, cost_nil_r]
theorem linC_head (x b : List Nat) (i : Nat) : (linC x b i).getD 0 0 = ((cost x (b.drop (b.length - i)) : Nat) : Int) := by
  simp [linC, List.getD_eq_getElem?_getD]
theorem linC_step (x b : List Nat) (i : Nat) (h : i < b.length) : linC x b (i + 1) = ((cost x (b.drop (b.length - i - 1)) : Nat) : Int) :: linC x b i := by
  unfold linC
  rw [List.range_succ_eq_map, List.map_cons, List.map_map]
  congr 1
  refine List.map_congr_left fun k _ => ?_
  show ((cost x (b.drop (b.length - (i + 1) + (k + 1))) : Nat) : Int) = _
  rw [show b.length - (i + 1) + (k + 1) = b.length - i + k by omega]
theorem cell_min (c : Nat) (x b : List Nat) (j : Nat) (h : j < b.length) : ((cost (c :: x) (b.drop j) : Nat) : Int) =
    min ((subc c b[j] : Nat) + ((cost x (b.drop (j + 1)) : Nat) : Int)) (min (2 + ((cost x (b.drop j) : Nat) : Int)) (2 + ((cost (c :: x) (b.drop (j + 1)) : Nat) : Int))) := by
  rw [List.drop_eq_getElem_cons h, cost_cons]
  omega
section
variable {prog : Program} {w : World} {A : Around} {E : Value → Shared → Prop} {s : Shared} {h₀ : Heap} {L D : Addr} {m : Str → Option Value} {news news' : List (Addr × Obj)} {vs : List Value} {n : Nat}
/-- a value laid ahead of a list -/
theorem kl_ins0 {u : Tok} {y : Value} {Q : Value → Shared → Prop} (F : Fr h₀ L s.heap m) (N : News h₀ L s.heap news)
    (U : Upd D (listOf vs.toArray n) (listOf (y :: vs).toArray (n + 1)) news news') (hz : vs.length ≤ sizeLine) (h : ∀ h', Fr h₀ L h' m → News h₀ L h' news' → Q .none { s with heap := h' }) :
    wpAny (model prog w) A (call (.builtin "list.insert") [.ref D, .int 0 u, y]) Q E s :=
  kl_insert (its := vs.toArray) F N (by decide) (by unfold kl_ins; simp) U hz h
end
theorem krv_all' {α : Type} (xs : Array α) : (List.range xs.size).filterMap (xs[·]?) = xs.toList := krv_all xs
theorem slice_back (a : List Nat) (t : Tok) : Txt.sliceBy (sl a) none none (-1, t) = sl a.reverse := by
  unfold Txt.sliceBy
  rw [if_neg (by simp)]
  have e : slicePicked (sl a) none none (some (-1, t)) = (List.range (sl a).cps.size).reverse := by
    show sliceRange (((sl a).length : Int) - 1) (-1) (-1) = _
    rw [krv_sliceRange, krv_range]; rfl
  rw [e, List.filterMap_reverse]
  have := krv_all' (sl a).cps
  rw [this]
  simp [sl]
theorem lcost_pure (a b : List Nat) (t u : Tok) (ha : ∀ c ∈ a, c < 128) (hb : ∀ c ∈ b, c < 128) (hal : a.length ≤ 20) (hbl : b.length ≤ 20) :
    Pure Mine.hd1.heap_1 PySem.Challenge.rw_pe0272_01.row.prog 226 3 ⟨[.str (sl a) t, .str (sl b) u], []⟩ (fun _ _ => True) (fun r _ => ∃ t, r = .int ((cost a b : Nat) : Int) t) := by
  unfold Pure
  intro w p loose mean mg mb dp un fr gd s Q E X T _ hdp hun hret
  dsimp only at hret
  w_top off; revert X; k_fill; intro X
  (k_dflt (refine' enterC (args := ⟨_, _⟩) [] ?hS ?kX ?kT ?k6 ?k7 ?k8 ?k9 ?kB ?kn ?_ ?c2 ?c3 ?c4; (case hS => exact List.forall_mem_nil _); (case kX => assumption); (case kT => assumption); (case k6 => k_is); (case k7 => k_is); (case k8 => (dsimp only [Ar]; omega)); (case k9 => first | exact BindsTo.of_eq rfl | exact binds_K (by k_in) rfl (by k_is) rfl rfl rfl | (refine' kp_binds ?kx ?ke; (case kx => k_in); (case ke => exact fun _ => rfl))); (case kB => exact rfl); (case kn => decide); (case c2 => exact rfl); (case c3 => exact rfl); (case c4 => exact rfl); k_whole))
  intro g L' h' tk cells hg F' N' Y X' T' _
  obtain ⟨oc, rfl, hoc⟩ := Y.one
  have hbl' : (sl b).length = b.length := sl_length _
  have hal' : (sl a).length = a.length := sl_length _
  (try dsimp only)
  refine cut (fun s' => E6 fun u' D us n h1 tk1 => A5 (s' = { s with heap := h1, toks := tk1 }) (Fr g L' h1 (mq [(Str.ofString "one", .str (sl a) t), (Str.ofString "below", .ref D)] u')) (IntsAre us ((List.range (b.length + 1)).map fun j : Nat => (2 : Int) * ((b.length : Int) - (j : Int)))) (News g L' h1 [(D, listOf us.toArray n), (L' + 1, oc)]) (L' + 1 < D)) 1 ?_ ?_
  · dsimp only [List.take]
    (try k_fold)
    k_steps
    have Fz := ‹Fr g L' _ _›
    have Nz := ‹News g L' _ _›
    have hr := ‹IsRange _ _ _ _ _ _ _ _›
    have X2 := X'.keeps Fz.keep
    have T2 := T'.keeps Fz.keep
    have hc1 := (Nz _ (.head _)).1
    dsimp only at hc1
    have hoc1 : oc.data = .cell (some (.str (sl b) u)) := hoc
    have e4 : (((sl b).length : Nat) : Int) + 1 = ((b.length + 1 : Nat) : Int) := by omega
    rw [e4] at hr
    refine' CompX.range (n := b.length + 1) hr ?sm ?rs (by rw [sizeLine_eq]; omega) (fun _ i ys _ nw => nw = [] ∧ IntsAre ys ((List.range i).map fun j : Nat => (2 : Int) * ((b.length : Int) - (j : Int)))) ?h0 ?st (doneS2 Fz Nz rfl rfl ?finA)
    (case sm => exact small_any (by omega) (by omega) (.inl rfl))
    (case rs => (unfold Builtin.Range.rangeSize; rw [if_pos (by decide)]; split <;> omega))
    (case h0 => intro C cells hC hcl; cases hcl; exact ⟨rfl, .nil⟩)
    (case st =>
      intro C i v ys m nw rest h tk hi hJ hv F N hoff
      dsimp only at F N hi
      obtain ⟨rfl, hY⟩ := hJ
      obtain ⟨tv, rfl⟩ := hv
      refine cmp_store F (fun h9 F9 hk9 => ?_) rfl rfl
      have N9 := news_but N hk9
      refine wpAny_tests_nil ?_
      simp only [if_true]
      k_steps
      refine ⟨_, _, _, [], rfl, F9, N9, fun _ h => (nomatch h), rfl, ?_⟩
      rw [List.range_succ, List.map_append, hbl', show (0 + (i : Int)) = (i : Int) from Int.zero_add _]
      exact IntsAre.snoc hY _ _)
    intro D C ys m nw h tk hJ F9 N9 hk9 hD0 _ hlt
    obtain ⟨rfl, hY⟩ := hJ
    rw [List.nil_append] at N9
    (try dsimp only)
    (try k_fold)
    k_steps
    unfold Hit
    refine' ⟨_, D, ys, _, _, _, rfl, ?F, hY, N9, hlt _ (.head _)⟩
    (case F => wtm_at "frq")
  rintro _ ⟨u1, D, us, n1, h1, tk1, rfl, F1, hI1, N1, lD⟩
  dsimp only [List.drop]
  (try k_fold)
  rw [← rowC_nil] at hI1
  k_lt2 lD
  refine cut (fun s' => E6 fun u' D us n h1 tk1 => A4 (s' = { s with heap := h1, toks := tk1 }) (Fr g L' h1 (mq [(Str.ofString "below", .ref D)] u')) (IntsAre us (rowC a b)) (News g L' h1 [(D, listOf us.toArray n), (L' + 1, oc)])) 1 ?_ ?_
  · dsimp only [List.take]
    refine wpAny_execs_cons ?_
    refine for_text (h₀ := g) (L := L') (l := a.reverse) (fun i m nw => E4 fun u' D us n => A4 (m = mq [(Str.ofString "one", .str (sl a) t), (Str.ofString "below", .ref D)] u') (nw = [(D, listOf us.toArray n), (L' + 1, oc)]) (IntsAre us (rowC (a.reverse.take i).reverse b)) (@LT.lt Nat _ (L' + 1) D)) rfl rfl rfl rfl ?h ?turn ?done
    case h =>
      (try k_fold)
      k_steps
      unfold Hit2
      rw [slice_back]
      refine' ⟨_, _, _, _, _, rfl, rfl, ‹Fr g L' _ _›, ‹News g L' _ _›, _, D, us, n1, rfl, rfl, hI1, lD⟩
    case done =>
      rintro m nw h tk ⟨u2, D2, us2, n2, rfl, rfl, hI2, _⟩ F N
      dsimp only
      rw [List.take_length, List.reverse_reverse] at hI2
      (try k_fold)
      k_steps
      unfold Hit
      refine' ⟨_, D2, us2, n2, _, _, rfl, ?F, hI2, N⟩
      (case F => wtm_at "frq")
    case turn =>
      rintro i c t3 m nw It o h tk hc ⟨u2, D2, us2, n2, rfl, rfl, hI2, lD2⟩ hfr Ft Nt
      k_lt2 lD2
      have hl2 := hI2.length
      rw [rowC_len] at hl2
      refine cut (fun s' => E6 fun u' K vs n h1 tk1 => A6 (s' = { s with heap := h1, toks := tk1 }) (Fr g L' h1 (mq [(Str.ofString "sign", .str (sl [c]) t3), (Str.ofString "line", .ref K), (Str.ofString "one", .str (sl a) t), (Str.ofString "below", .ref D2)] u')) (IntsAre vs (linC (c :: (a.reverse.take i).reverse) b 0)) (News g L' h1 [(K, listOf vs.toArray n), (It, o), (D2, listOf us2.toArray n2), (L' + 1, oc)]) (D2 < K) (It < K)) 1 ?_ ?_
      · dsimp only [List.take]
        (try k_fold)
        k_steps
        have lK := (‹It < _ ∧ D2 < _ ∧ L' + 1 < _›)
        unfold Hit
        refine' ⟨_, _, _, _, _, _, rfl, ?F, ?I, ‹News g L' _ _›, lK.2.1, lK.1⟩
        (case F => wtm_at "frq")
        (case I =>
          have e5 : (rowC (List.take i a.reverse).reverse b).getD (-1 + ((rowC (List.take i a.reverse).reverse b).length : Nat) : Int).toNat 0 + 2 = ((2 * (c :: (a.reverse.take i).reverse).length : Nat) : Int) := by
            rw [rowC_len, show (-1 + ((b.length + 1 : Nat) : Int)).toNat = b.length by omega, rowC_at _ _ _ (by omega), List.drop_length, cost_nil_r]
            simp only [List.length_cons]; omega
          rw [linC_zero, e5]
          exact .cons _ _ .nil)
      rintro _ ⟨u4, K, vs4, n4, h4, tk4, rfl, F4, hI4, N4, lK, lIK⟩
      dsimp only [List.drop]
      k_lt2 lK
      k_lt2 lIK
      generalize hx : (a.reverse.take i).reverse = x at hI2 hI4
      refine cut (fun s' => E5 fun u' vs n h1 tk1 => A4 (s' = { s with heap := h1, toks := tk1 }) (Fr g L' h1 (mq [(Str.ofString "line", .ref K), (Str.ofString "one", .str (sl a) t)] u')) (IntsAre vs (linC (c :: x) b b.length)) (News g L' h1 [(K, listOf vs.toArray n), (It, o), (D2, listOf us2.toArray n2), (L' + 1, oc)])) 1 ?_ ?_
      · dsimp only [List.take]
        refine wpAny_execs_cons ?_
        refine for_range (h₀ := g) (L := L') (a := (b.length : Int) - 1) (b := -1) (c := -1) (n := b.length) (fun i2 m nw => E3 fun u' vs n => A3 (m = mq [(Str.ofString "sign", .str (sl [c]) t3), (Str.ofString "line", .ref K), (Str.ofString "one", .str (sl a) t), (Str.ofString "below", .ref D2)] u') (nw = [(K, listOf vs.toArray n), (It, o), (D2, listOf us2.toArray n2), (L' + 1, oc)]) (IntsAre vs (linC (c :: x) b i2))) rfl rfl ?sm ?rs rfl rfl ?h ?turn ?done
        case sm => exact small_any (by omega) (by omega) (.inr (.inr rfl))
        case rs => (unfold Builtin.Range.rangeSize; rw [if_neg (by decide), show -(-1 : Int) = 1 from rfl, Int.ediv_one]; split <;> omega)
        case h =>
          have hoc1 : oc.data = .cell (some (.str (sl b) u)) := hoc
          (try k_fold)
          k_steps
          have hr := ‹IsRange _ _ _ _ _ _ _ _›
          rw [hbl'] at hr
          unfold Hit2
          exact ⟨_, _, _, _, _, _, _, _, rfl, rfl, hr, ‹Fr g L' _ _›, ‹News g L' _ _›, _, _, _, rfl, rfl, hI4⟩
        case done =>
          rintro m nw h tk ⟨u5, vs5, n5, rfl, rfl, hI5⟩ F N
          dsimp only
          (try k_fold)
          k_steps
          unfold Hit
          refine' ⟨_, vs5, n5, _, _, rfl, ?F, hI5, N⟩
          (case F => wtm_at "frq")
        case turn =>
          rintro i2 v t5 m nw It2 o2 h tk hi2 hv ⟨u5, vs5, n5, rfl, rfl, hI5⟩ hfr2 Ft2 Nt2
          have hoc1 : oc.data = .cell (some (.str (sl b) u)) := hoc
          have hl5 := hI5.length
          rw [linC_len] at hl5
          obtain rfl : v = ((b.length - 1 - i2 : Nat) : Int) := by omega
          have hj : b.length - 1 - i2 < b.length := by omega
          have hit := item_sl b _ hj
          have hrl := rowC_len x b
          have hll := linC_len (c :: x) b i2
          have iK := neN (show K ≠ It2 from hfr2 (K, _) (.head _))
          have hcm : c ∈ a := List.mem_reverse.mp (List.mem_of_getElem? hc)
          have hc128 : ∀ d ∈ [c], d < 128 := fun d hd => by rw [List.mem_singleton.mp hd]; exact ha _ hcm
          have hb1 : ∀ d ∈ [b[b.length - 1 - i2]], d < 128 := fun d hd => by rw [List.mem_singleton.mp hd]; exact hb _ (List.getElem_mem _)
          have hc200 : ([c] : List Nat).length ≤ 200 := by simp
          have hcell := cell_min c x b _ hj
          have hr1 : (rowC x b).getD (((b.length - 1 - i2 : Nat) : Int) + 1).toNat 0 = ((cost x (b.drop (b.length - 1 - i2 + 1)) : Nat) : Int) := by
            rw [show (((b.length - 1 - i2 : Nat) : Int) + 1).toNat = b.length - 1 - i2 + 1 by omega]; exact rowC_at _ _ _ (by omega)
          have hr2 : (rowC x b).getD ((b.length - 1 - i2 : Nat) : Int).toNat 0 = ((cost x (b.drop (b.length - 1 - i2)) : Nat) : Int) := by
            rw [Int.toNat_natCast]; exact rowC_at _ _ _ (by omega)
          have hr3 : (linC (c :: x) b i2).getD (Int.toNat 0) 0 = ((cost (c :: x) (b.drop (b.length - 1 - i2 + 1)) : Nat) : Int) := by
            show (linC (c :: x) b i2).getD 0 0 = _
            rw [linC_head, show b.length - i2 = b.length - 1 - i2 + 1 by omega]
          have hstep := linC_step (c :: x) b i2 hi2
          rw [show b.length - i2 - 1 = b.length - 1 - i2 by omega] at hstep
          have hi20 : i2 < 20 := by omega
          (try k_fold)
          k_steps
          all_goals rw [hr1, hr2, hr3]
          · have e := ‹(sl [c] == Txt.item (sl b) _) = true›
            rw [hit, sl_beq] at e
            have e' : c = b[b.length - 1 - i2] := by simpa using e
            have hs : subc c b[b.length - 1 - i2] = 0 := by rw [← e']; exact subc_self c
            rw [hs] at hcell
            refine' kl_ins0 ?F1 ?N1 ?U1 ?z1 ?_
            (case F1 => assumption)
            (case N1 => assumption)
            (case U1 => k_upd)
            (case z1 => rw [sizeLine_eq]; omega)
            intro h9 F9 N9
            (try k_fold)
            k_steps
            refine' ⟨_, _, _, _, rfl, ?G1, N9, ?fr1, _, _, _, rfl, rfl, ?I1⟩
            (case G1 => wtm_at "frq")
            (case fr1 => exact List.forall_mem_cons.mpr ⟨show K ≠ It2 from hfr2 (K, _) (.head _), fun q hq => hfr2 q (.tail _ hq)⟩)
            (case I1 =>
              rw [hstep, hcell]
              exact .cons _ _ hI5)
          · have e := ‹(sl [c] == Txt.item (sl b) _) = false›
            rw [hit, sl_beq] at e
            have e' : ¬ c = b[b.length - 1 - i2] := by simpa using e
            have e2 := ‹(sl ([c].map lowc) == _) = true›
            rw [hit, lower_sl hb1, sl_beq] at e2
            have e3 : lowc c = lowc b[b.length - 1 - i2] := by simpa using e2
            have hs : subc c b[b.length - 1 - i2] = 1 := by unfold subc; rw [if_neg e', if_pos e3]
            rw [hs] at hcell
            refine' kl_ins0 ?F2 ?N2 ?U2 ?z2 ?_
            (case F2 => assumption)
            (case N2 => assumption)
            (case U2 => k_upd)
            (case z2 => rw [sizeLine_eq]; omega)
            intro h9 F9 N9
            (try k_fold)
            k_steps
            refine' ⟨_, _, _, _, rfl, ?G2, N9, ?fr2, _, _, _, rfl, rfl, ?I2⟩
            (case G2 => wtm_at "frq")
            (case fr2 => exact List.forall_mem_cons.mpr ⟨show K ≠ It2 from hfr2 (K, _) (.head _), fun q hq => hfr2 q (.tail _ hq)⟩)
            (case I2 =>
              rw [hstep, hcell]
              exact .cons _ _ hI5)
          · have e := ‹(sl [c] == Txt.item (sl b) _) = false›
            rw [hit, sl_beq] at e
            have e' : ¬ c = b[b.length - 1 - i2] := by simpa using e
            have e2 := ‹(sl ([c].map lowc) == _) = false›
            rw [hit, lower_sl hb1, sl_beq] at e2
            have e3 : ¬ lowc c = lowc b[b.length - 1 - i2] := by simpa using e2
            have hs : subc c b[b.length - 1 - i2] = 2 := by unfold subc; rw [if_neg e', if_neg e3]
            rw [hs] at hcell
            refine' kl_ins0 ?F3 ?N3 ?U3 ?z3 ?_
            (case F3 => assumption)
            (case N3 => assumption)
            (case U3 => k_upd)
            (case z3 => rw [sizeLine_eq]; omega)
            intro h9 F9 N9
            (try k_fold)
            k_steps
            refine' ⟨_, _, _, _, rfl, ?G3, N9, ?fr3, _, _, _, rfl, rfl, ?I3⟩
            (case G3 => wtm_at "frq")
            (case fr3 => exact List.forall_mem_cons.mpr ⟨show K ≠ It2 from hfr2 (K, _) (.head _), fun q hq => hfr2 q (.tail _ hq)⟩)
            (case I3 =>
              rw [hstep, hcell]
              exact .cons _ _ hI5)
      rintro _ ⟨u6, vs6, n6, h6, tk6, rfl, F6, hI6, N6⟩
      dsimp only [List.drop]
      (try k_fold)
      k_steps
      have e6 : (a.reverse.take (i + 1)).reverse = c :: x := by rw [List.take_add_one, hc, ← hx]; simp
      rw [linC_all] at hI6
      refine' ⟨_, _, _, _, rfl, ?Fz, news_sub ‹News g L' _ _› ?sb, ?frz, _, K, vs6, n6, rfl, rfl, by rw [e6]; exact hI6, Nat.lt_trans lD2 lK⟩
      (case Fz => wtm_at "frq")
      (case sb =>
        intro q hq
        rcases List.mem_cons.mp hq with rfl | hq
        · exact .tail _ (.head _)
        · rcases List.mem_cons.mp hq with rfl | hq
          · exact .head _
          · exact .tail _ (.tail _ (.tail _ hq)))
      (case frz =>
        intro q hq
        rcases List.mem_cons.mp hq with rfl | hq
        · exact Nat.ne_of_gt lIK
        · exact hfr q (.tail _ hq))
  rintro _ ⟨u3, D3, us3, n3, h3, tk3, rfl, F3, hI3, N3⟩
  dsimp only [List.drop]
  have hl3 := hI3.length
  rw [rowC_len] at hl3
  (try k_fold)
  k_steps
  refine ret_int (s := s) hret ?_ (by (refine' stays_of ?h1 ?h2; (case h1 => assumption); (case h2 => assumption)))
  rw [show (rowC a b).getD (Int.toNat 0) 0 = (rowC a b).getD 0 0 from rfl, rowC_at _ _ _ (by omega), List.drop_zero]

end
noncomputable section
-- rows in rising order: where a path stands, and where it goes
theorem rise_srt {xs : List (List Nat)} (h : xs.Pairwise (· < ·)) : xs.Pairwise fun a b => ¬ b < a := h.imp fun {a b} h => fun k => List.lt_irrefl _ (List.lt_trans h k)
theorem rise_slice {xs : List (List Nat)} (h : xs.Pairwise (· < ·)) {q : List Nat} {k : Nat} (ha : At xs.length (fun i => decide (xs.getD i [] < q)) 0 k) : (xs.drop k).take 1 = [q] ↔ q ∈ xs := by
  obtain ⟨_, hk, h1, h2⟩ := ha
  constructor
  · intro e
    have : q ∈ (xs.drop k).take 1 := by rw [e]; exact .head _
    exact List.mem_of_mem_drop (List.mem_of_mem_take this)
  · intro hq
    obtain ⟨i, hi, e⟩ := List.getElem_of_mem hq
    have gd : ∀ j (hj : j < xs.length), xs.getD j [] = xs[j] := fun j hj => by rw [List.getD_eq_getElem?_getD, List.getElem?_eq_getElem hj]; rfl
    have hki : k ≤ i := Decidable.byContradiction fun c => by
      have := h1 i (Nat.zero_le _) (by omega)
      rw [decide_eq_true_eq, gd i hi, e] at this
      exact List.lt_irrefl _ this
    have hik : i ≤ k := Decidable.byContradiction fun c => by
      have h3 := h2 k (Nat.le_refl _) (by omega)
      rw [decide_eq_false_iff_not, gd k (by omega)] at h3
      have h4 := (List.pairwise_iff_getElem.mp h) k i (by omega) hi (by omega)
      rw [e] at h4
      exact h3 h4
    have : i = k := by omega
    subst this
    rw [List.drop_eq_getElem_cons hi, e]; rfl
theorem rise_ins {xs : List (List Nat)} (h : xs.Pairwise (· < ·)) {q : List Nat} (hq : q ∉ xs) {k : Nat} (ha : At xs.length (fun i => !(decide (q < xs.getD i []))) 0 k) : (xs.take k ++ q :: xs.drop k).Pairwise (· < ·) := by
  obtain ⟨_, hk, h1, h2⟩ := ha
  have gd : ∀ j (hj : j < xs.length), xs.getD j [] = xs[j] := fun j hj => by rw [List.getD_eq_getElem?_getD, List.getElem?_eq_getElem hj]; rfl
  have a1 : ∀ a ∈ xs.take k, a < q := fun a ha => by
    obtain ⟨i, hi, e⟩ := List.getElem_of_mem ha
    rw [List.length_take] at hi
    have h3 := h1 i (Nat.zero_le _) (by omega)
    dsimp only at h3
    rw [gd i (by omega)] at h3
    have e1 : xs[i] = a := by rw [← e, List.getElem_take]
    rw [e1] at h3
    have h4 : ¬ q < a := by simpa using h3
    rcases Decidable.em (a < q) with h5 | h5
    · exact h5
    · have : a = q := List.le_antisymm (List.not_lt.mp h4) (List.not_lt.mp h5)
      exact absurd (List.mem_of_mem_take ha) (this ▸ hq)
  have a2 : ∀ b ∈ xs.drop k, q < b := fun b hb => by
    obtain ⟨i, hi, e⟩ := List.getElem_of_mem hb
    rw [List.length_drop] at hi
    have h3 := h2 (k + i) (by omega) (by omega)
    dsimp only at h3
    rw [gd (k + i) (by omega)] at h3
    have e1 : xs[k + i] = b := by rw [← e, List.getElem_drop]
    rw [e1] at h3
    simpa using h3
  rw [List.pairwise_append]
  refine ⟨h.sublist (List.take_sublist _ _), List.pairwise_cons.mpr ⟨a2, h.sublist (List.drop_sublist _ _)⟩, fun a ha b hb => ?_⟩
  rcases List.mem_cons.mp hb with rfl | hb
  · exact a1 a ha
  · exact List.lt_trans (a1 a ha) (a2 b hb)
theorem row_snoc {ws : List (List Nat)} {w : List Nat} (hn : ws.Nodup) (hw : w ∉ ws) (hs : Small (ws ++ [w])) {k : Nat}
    (ha : At (rowOf ws).length (fun i => !(decide (pathIn (ws ++ [w]).length (ws ++ [w]) [114] w < (rowOf ws).getD i []))) 0 k) (hq : pathIn (ws ++ [w]).length (ws ++ [w]) [114] w ∉ rowOf ws) :
    (rowOf ws).take k ++ pathIn (ws ++ [w]).length (ws ++ [w]) [114] w :: (rowOf ws).drop k = rowOf (ws ++ [w]) := by
  have hs1 : Small ws := fun a ha b hb => hs a (List.mem_append_left _ ha) b (List.mem_append_left _ hb)
  have hn2 : (ws ++ [w]).Nodup := by
    rw [List.nodup_append]
    exact ⟨hn, by simp, fun a ha b hb e => hw (by rw [List.mem_singleton.mp hb] at e; exact e ▸ ha)⟩
  refine rising_ext (rise_ins (row_rising hn hs1) hq ha) (row_rising hn2 hs) fun x => ?_
  rw [row_mem hn2 hs]
  have e : x ∈ (rowOf ws).take k ++ pathIn (ws ++ [w]).length (ws ++ [w]) [114] w :: (rowOf ws).drop k ↔ x = pathIn (ws ++ [w]).length (ws ++ [w]) [114] w ∨ x ∈ rowOf ws := by
    conv => rhs; rw [← List.take_append_drop k (rowOf ws)]
    simp only [List.mem_append, List.mem_cons]
    constructor
    · rintro (h | h | h)
      · exact .inr (.inl h)
      · exact .inl h
      · exact .inr (.inr h)
    · rintro (h | h | h)
      · exact .inr (.inl h)
      · exact .inl h
      · exact .inr (.inr h)
  rw [e, row_mem hn hs1]
  constructor
  · rintro (h | ⟨v, hv, h⟩)
    · exact ⟨w, List.mem_append_right _ (.head _), h⟩
    · exact ⟨v, List.mem_append_left _ hv, by rw [path_snoc hv]; exact h⟩
  · rintro ⟨v, hv, h⟩
    rcases List.mem_append.mp hv with hv | hv
    · exact .inr ⟨v, hv, by rw [path_snoc hv] at h; exact h⟩
    · rw [List.mem_singleton.mp hv] at h; exact .inl h

end
section
theorem dig_str : ∀ n : Nat, n < 10 → Str.ofString (toString (n : Int)) = sl [48 + n] := by decide +kernel
local macro_rules | `(tactic| walk_at "zz") => `(tactic| skip)
local macro_rules | `(tactic| walk_at "compareOp NotEq ref ref") => `(tactic| (k_here; refine Stop.out ?_))
theorem slice_two (vs : List Value) (k : Nat) (h : k ≤ vs.length) : slicePick vs.toArray (some (k : Int)) (some ((k : Int) + 1)) none = ((vs.drop k).take 1).toArray := by
  rw [slicePick_plain]
  have e : ((k : Int) + 1) = ((k + 1 : Nat) : Int) := by omega
  simp only [Option.elim, e, clipAt_nat, List.size_toArray]
  congr 1
  rw [Nat.min_eq_left h]
  rcases Nat.lt_or_ge k vs.length with h1 | h1
  · rw [Nat.min_eq_left (by omega : k + 1 ≤ vs.length), Nat.add_sub_cancel_left]
  · rw [List.drop_of_length_le (by simpa using h1)]; simp
theorem row_len {ws : List (List Nat)} (hn : ws.Nodup) (hs : Small ws) : (rowOf ws).length ≤ ws.length := by
  have h1 : (rowOf ws).Nodup := (row_rising hn hs).imp fun {a b} h (e : a = b) => by rw [e] at h; exact List.lt_irrefl _ h
  have h2 : rowOf ws ⊆ ws.map (pathIn ws.length ws [114]) := fun q hq => by
    obtain ⟨v, hv, e⟩ := (row_mem hn hs q).mp hq
    exact List.mem_map.mpr ⟨v, hv, e.symm⟩
  have := h1.length_le_of_subset h2
  rwa [List.length_map] at this
theorem PrsAre.off2 {h h' : Heap} {l r : Addr} {i1 i2 : Array Value} {n1 n2 : Nat} {vs : List Value} {ps : List (List Nat × List Nat)} (x : PrsAre h vs ps) (hl : h.get? l = some (listOf i1 n1)) (hr : h.get? r = some (listOf i2 n2)) (k : ∀ b o, b ≠ l → b ≠ r → h.get? b = some o → h'.get? b = some o) : PrsAre h' vs ps := by
  induction x with
  | nil => exact .nil
  | cons hT _ ih =>
    obtain ⟨o, ho, hc, nn, hd⟩ := hT
    refine .cons ⟨o, k _ o (fun e => ?_) (fun e => ?_) ho, hc, nn, hd⟩ ih
    · rw [e, hl] at ho; injection ho with ho; rw [← ho] at hc; exact absurd (show Value.type "list" = Value.type "tuple" from hc) (by decide)
    · rw [e, hr] at ho; injection ho with ho; rw [← ho] at hc; exact absurd (show Value.type "list" = Value.type "tuple" from hc) (by decide)
/-- what stands when the table has been asked for a word at a path -/
noncomputable def LayAt (w : List Nat) (ws : List (List Nat)) (l r : Addr) (tps : List (Addr × Obj)) (n : Nat) (rv : List Value) (k : Nat) (q v : List Nat) (nw : List (Addr × Obj)) : Prop :=
  (∃ cur, Reach w ws [114] (v :: cur) q ∧ nw = [(l, listOf (tps.map fun q => Value.ref q.1).toArray n), (r, listOf rv.toArray k)]) ∨
    (v = w ∧ Reach w ws [114] [] q ∧ E3 fun T o n' => TupsAre [(T, o)] [(q, w)] ∧ nw = [(l, listOf ((tps ++ [(T, o)]).map fun q => Value.ref q.1).toArray n'), (T, o), (r, listOf rv.toArray k)])
theorem lay_step (I dI l r : Addr) (tps : List (Addr × Obj)) (n : Nat) (rv : List Value) (k : Nat) (ws : List (List Nat)) (cur' : List (List Nat)) (wd q : List Nat) (t u : Tok)
    (hn : ws.Nodup) (hs : Small (wd :: ws)) (hlen : ws.length ≤ 12) (hok : ∀ v ∈ wd :: ws, (∀ c ∈ v, 32 ≤ c ∧ c < 127) ∧ v.length ≤ 3) (hT : TupsAre tps (tabOf ws)) (hlr : r ≠ l) (hre : Reach wd ws [114] cur' q)
    {hsh : Int} {th : Tok} {n₁ : Nat} {wo : World} {p : Program} {loose : List Str} {mean : ExcName → Option Value} {mg mb : Str → Option Value} {dp un : Nat} {fr : Option (List Env)} {gd : Option (List Code)} {s : Shared} {Q E : Value → Shared → Prop} {g : Heap} {L : Addr} {m : Str → Option Value}
    (F : Fr g L s.heap m) (X : (Mine.hd1.heap_1 wo.params).In g) (N : News g L s.heap [(l, listOf (tps.map fun q => Value.ref q.1).toArray n), (r, listOf rv.toArray k)]) (T : Top p loose mean mg mb g)
    (hI : g.get? I = some (instObj 212 dI)) (hdI : g.get? dI = some (PySem.W.dictOf [⟨hsh, .str (Str.ofString "_headers") th, .ref l⟩] n₁)) (hP : PrsAre g (tps.map fun q => Value.ref q.1) (tabOf ws)) (hd : dp + 14 < recursionLimit) (hu : un + 8 * 14 < cLine)
    (hret : ∀ v t' h' tk' nw, LayAt wd ws l r tps n rv k q v nw → Fr g L h' m → News g L h' nw → Q (.str (sl v) t') { s with heap := h', toks := tk' }) :
    wpAny (model PySem.Challenge.rw_pe0272_01.row.prog wo) (Ar dp un fr gd) (call (.ref 202) [.ref I, .str (sl q) t, .str (sl wd) u] []) Q E s := by
  have hsw : ∀ v ∈ ws, cost v wd < 10 := fun v hv => hs v (.tail _ hv) wd (.head _)
  have hs1 : Small ws := fun a ha b hb => hs a (.tail _ ha) b (.tail _ hb)
  have hql := hre.like hsw
  have hqn : q.length ≤ 200 := by
    obtain ⟨⟨t, e, _, hl⟩, _⟩ := hre.pre
    rw [e, List.length_append]; simp only [List.length_cons, List.length_nil]; omega
  have hwd := hok wd (.head _)
  have htl : (tabOf ws).length ≤ 100 := by unfold tabOf; rw [List.length_map]; omega
  have htp : ∀ p ∈ tabOf ws, (∀ c ∈ p.1, c < 128) ∧ p.1.length ≤ 200 := fun p hp => by
    obtain ⟨v, hv, rfl⟩ := List.mem_map.mp hp
    have h1 := (path_like hs1 hv).ok
    have h2 := path_len ws v
    exact ⟨fun c hc => by have := h1 c hc; omega, by show (pathIn ws.length ws [114] v).length ≤ 200; omega⟩
  have hf : ∀ p, hit q p = (p.1.map lowc == q.map lowc) := fun _ => rfl
  refine (setdefault_mut I dI l (tps.map fun q => Value.ref q.1) (tabOf ws) n q wd t u hqn hql.ok (by omega) hwd.1 htl htp).use2 [(r, listOf rv.toArray k)] F X N T
    (fun x hx => by rw [List.mem_singleton.mp hx]; exact .head _) (fun x hx => by rw [List.mem_singleton.mp hx]; exact ⟨.tail _ (.head _), by simpa using hlr⟩)
    ⟨hsh, th, n₁, F.keep _ _ hI, F.keep _ _ hdI, N.isList (.head _), hP.keeps F.keep⟩ hd hu ?_
  rintro rr h8 tk8 S8 F8 N8 _ _ (⟨p, hp, ⟨t2, rfl⟩, rfl⟩ | ⟨hp, ⟨t2, rfl⟩, T2, tk2, tv2, n', n₂, rfl⟩)
  · cases cur' with
    | nil => rw [hre.find_none hn hs1 hsw hf] at hp; cases hp
    | cons v cur =>
      rw [hre.find_head hn hs1 hsw hf] at hp
      injection hp with hp
      subst hp
      exact hret _ _ _ _ _ (.inl ⟨cur, hre, rfl⟩) F8 N8
  · cases cur' with
    | cons v cur => rw [hre.find_head hn hs1 hsw hf] at hp; cases hp
    | nil =>
      refine hret _ _ _ _ _ (.inr ⟨rfl, hre, T2, { cls := .type "tuple", data := .seq #[.str (sl q) tk2, .str (sl wd) tv2] n₂ }, n', .cons (p := (q, wd)) .nil, rfl⟩) F8 ?_
      rw [List.map_append]
      exact N8
theorem lay_mut (I dI l r : Addr) (tps : List (Addr × Obj)) (n : Nat) (rv : List Value) (k : Nat) (ws : List (List Nat)) (w : List Nat) (t : Tok)
    (hn : ws.Nodup) (hs : Small (w :: ws)) (hlen : ws.length ≤ 12) (hok : ∀ v ∈ w :: ws, (∀ c ∈ v, 32 ≤ c ∧ c < 127) ∧ v.length ≤ 3) (hT : TupsAre tps (tabOf ws)) (hR : StrsAre rv ((rowOf ws).map sl)) (hlr : l ≠ r) :
    Mut Mine.hd1.heap_1 PySem.Challenge.rw_pe0272_01.row.prog 238 40 ⟨[.ref I, .ref r, .str (sl w) t], []⟩ [(l, listOf (tps.map fun q => Value.ref q.1).toArray n), (r, listOf rv.toArray k)] (fun _ h => TabG 212 h I dI l (tps.map fun q => Value.ref q.1) (tabOf ws))
      (fun r' S' => r' = .none ∧ ((w ∈ ws ∧ S' = [(l, listOf (tps.map fun q => Value.ref q.1).toArray n), (r, listOf rv.toArray k)]) ∨
        (w ∉ ws ∧ E5 fun T o n' rv' k' => A3 (TupsAre (tps ++ [(T, o)]) (tabOf (ws ++ [w]))) (StrsAre rv' ((rowOf (ws ++ [w])).map sl)) (S' = [(l, listOf ((tps ++ [(T, o)]).map fun q => Value.ref q.1).toArray n'), (r, listOf rv'.toArray k'), (T, o)])))) := by
  unfold Mut
  intro w' p loose mean mg mb dp un fr gd s Q E hS X T ⟨hsh, t₁, n₁, hI, hdI, hl, hP⟩ hdp hun hret
  dsimp only at hret
  w_top off; revert X; k_fill; intro X
  have X0 : (Mine.hd1.heap_1 w'.params).In s.heap := X.keeps fun b o e => of_hideAll _ e
  have hl0 : s.heap.get? l = some (listOf (tps.map fun q => Value.ref q.1).toArray n) := hS _ (.head _)
  have hr0 : s.heap.get? r = some (listOf rv.toArray k) := hS _ (.tail _ (.head _))
  have hIl : I ≠ l := fun e => by rw [e, hl0] at hI; injection hI with hI; injection hI with h1; cases h1
  have hdl : dI ≠ l := fun e => by rw [e, hl0] at hdI; injection hdI with hI; injection hI with h1; exact absurd h1 (by decide)
  have hIr : I ≠ r := fun e => by rw [e, hr0] at hI; injection hI with hI; injection hI with h1; cases h1
  have hdr : dI ≠ r := fun e => by rw [e, hr0] at hdI; injection hdI with hI; injection hI with h1; exact absurd h1 (by decide)
  (k_dflt (refine' enterS (args := ⟨_, _⟩) _ ?hS ?kX ?kT ?k6 ?k7 ?k8 ?k9 ?kB ?_ ?c2 ?c3 ?c4 ?c5; (case hS => assumption); (case kX => assumption); (case kT => assumption); (case k6 => k_is); (case k7 => k_is); (case k8 => (dsimp only [Ar]; omega)); (case k9 => first | exact BindsTo.of_eq rfl | exact binds_K (by k_in) rfl (by k_is) rfl rfl rfl | (refine' kp_binds ?kx ?ke; (case kx => k_in); (case ke => exact fun _ => rfl))); (case c5 => decide); (case kB => exact locs rfl); (case c2 => exact rfl); (case c3 => exact rfl); (case c4 => exact rfl); k_whole))
  intro g L' h' hg F' N' X' T' hlt
  (try dsimp only)
  have hI' : g.get? I = some (instObj 212 dI) := hg _ _ hI (by simp [hIl, hIr])
  have hdI' := hg _ _ hdI (by simp [hdl, hdr])
  have hPg : PrsAre g (tps.map fun q => Value.ref q.1) (tabOf ws) := hP.off2 hl0 hr0 (fun b o h1 h2 e => hg b o e (by simp [h1, h2]))
  have hrl : r ≠ l := fun e => hlr e.symm
  have hsw : ∀ v ∈ ws, cost v w < 10 := fun v hv => hs v (.tail _ hv) w (.head _)
  have er : Str.ofString "r" = sl [114] := by decide +kernel
  refine cut (fun s' => E7 fun u v tq tv nw h1 tk1 => A4 (s' = { s with heap := h1, toks := tk1 }) (Fr g L' h1 (mq [(Str.ofString "table", .ref I), (Str.ofString "row", .ref r), (Str.ofString "word", .str (sl w) t), (Str.ofString "path", .str (sl [114]) tq), (Str.ofString "held", .str (sl v) tv)] u)) (News g L' h1 nw) (LayAt w ws l r tps n rv k [114] v nw)) 2 ?_ ?_
  · dsimp only [List.take]
    (try k_fold)
    k_steps
    rw [er] at *
    refine' lay_step I dI l r tps n rv k ws ws w [114] _ t hn hs hlen hok hT hrl .refl ?F X' ?N T' hI' hdI' hPg ?rm ?un ?_
    (case F => assumption)
    (case N => assumption)
    (case rm => (first | exact room3 (by assumption) (by decide) | exact room2 (by assumption) (by decide) | omega | (dsimp only [Ar, Around.deeper]; omega) | (simp only [depth_deeper, units_deeper]; dsimp only [Ar]; omega)))
    (case un => (first | exact room3 (by assumption) (by decide) | exact room2 (by assumption) (by decide) | omega | (dsimp only [Ar, Around.deeper]; omega) | (simp only [depth_deeper, units_deeper]; dsimp only [Ar]; omega)))
    intro v t' h1 tk1 nw hL F1 N1
    (try k_fold)
    k_steps
    unfold Hit
    refine' ⟨_, v, _, _, nw, _, _, rfl, ?F1, ‹News g L' _ nw›, hL⟩
    (case F1 => wtm_at "frq")
  rintro _ ⟨u1, v1, tq1, tv1, nw1, h1, tk1, rfl, F1, N1, hL1⟩
  clear F' N'
  dsimp only [List.drop]
  refine cut (fun s' => E6 fun u q tq nw h1 tk1 => A4 (s' = { s with heap := h1, toks := tk1 }) (Fr g L' h1 (mq [(Str.ofString "table", .ref I), (Str.ofString "row", .ref r), (Str.ofString "word", .str (sl w) t), (Str.ofString "path", .str (sl q) tq)] u)) (News g L' h1 nw) (LayAt w ws l r tps n rv k q w nw)) 1 ?_ ?_
  · dsimp only [List.take]
    refine wpAny_execs_cons ?_
    refine While_inv3 (fun n' m nw => E5 fun u q v tq tv => A3 (m = mq [(Str.ofString "table", .ref I), (Str.ofString "row", .ref r), (Str.ofString "word", .str (sl w) t), (Str.ofString "path", .str (sl q) tq), (Str.ofString "held", .str (sl v) tv)] u) (LayAt w ws l r tps n rv k q v nw) (n' = ws.length + 2 - q.length)) F1 N1 ⟨u1, [114], v1, tq1, tv1, rfl, hL1, rfl⟩ ?_
    rintro n' m₁ nw h₁ tk₁ F₁ N₁ ⟨u2, q, v, tq, tv, rfl, hL, rfl⟩
    clear F1 N1
    rcases hL with ⟨cur, hre, rfl⟩ | ⟨rfl, hre, T2, o2, n2, hT2, rfl⟩
    · have hv := hre.at_head hn
      have hv1 := hok v (.tail _ hv.1)
      have hw1 := hok w (.head _)
      have hql : q.length ≤ ws.length := by
        obtain ⟨⟨t, e, _, hl⟩, _⟩ := hre.pre
        rw [e, List.length_append]; simp only [List.length_cons, List.length_nil] at hl ⊢; omega
      have hqlen : (sl q).length = q.length := sl_length _
      have hc10 := hsw v hv.1
      have hc11 : cost w v < 10 := by rw [cost_comm]; exact hc10
      have hdg : Str.ofString (toString ((cost w v : Nat) : Int)) = sl [48 + cost w v] := dig_str _ (by rw [cost_comm]; exact hc10)
      have hdl : (Str.ofString (toString ((cost w v : Nat) : Int))).length = 1 := by rw [hdg, sl_length]; rfl
      (try k_fold)
      k_steps
      · have e := ‹(sl v != sl w) = true›
        have hne : ¬ v = w := fun c => by rw [c] at e; simp at e
        refine' (lev_pure w v t tv tk₁ (fun c hc => by have := hw1.1 c hc; omega) (fun c hc => by have := hv1.1 c hc; omega) (by omega) (by omega)).use ?F X' ?N T' trivial ?rm ?un ?_
        (case F => assumption)
        (case N => assumption)
        (case rm => (first | exact room3 (by assumption) (by decide) | exact room2 (by assumption) (by decide) | omega | (dsimp only [Ar, Around.deeper]; omega) | (simp only [depth_deeper, units_deeper]; dsimp only [Ar]; omega)))
        (case un => (first | exact room3 (by assumption) (by decide) | exact room2 (by assumption) (by decide) | omega | (dsimp only [Ar, Around.deeper]; omega) | (simp only [depth_deeper, units_deeper]; dsimp only [Ar]; omega)))
        rintro _ h8 tk8 F8 N8 hk8 ⟨t8, rfl⟩
        dsimp only
        (try k_fold)
        k_steps
        have hq2 : sl q ++ Str.ofString (toString ((cost w v : Nat) : Int)) = sl (q ++ [48 + cost v w]) := by rw [hdg, sl_append, cost_comm]
        have F9 := ‹Fr g L' _ _›
        rw [hq2] at F9
        rw [hq2]
        refine' lay_step I dI l r tps n rv k ws _ w (q ++ [48 + cost v w]) _ t hn hs hlen hok hT hrl (hre.step (fun c => hne c.symm)) ?F2 X' ?N2 T' hI' hdI' hPg ?rm2 ?un2 ?_
        (case F2 => exact F9)
        (case N2 => assumption)
        (case rm2 => (first | exact room3 (by assumption) (by decide) | exact room2 (by assumption) (by decide) | omega | (dsimp only [Ar, Around.deeper]; omega) | (simp only [depth_deeper, units_deeper]; dsimp only [Ar]; omega)))
        (case un2 => (first | exact room3 (by assumption) (by decide) | exact room2 (by assumption) (by decide) | omega | (dsimp only [Ar, Around.deeper]; omega) | (simp only [depth_deeper, units_deeper]; dsimp only [Ar]; omega)))
        intro v2 t2 h2 tk2 nw2 hL2 F2 N2
        (try k_fold)
        k_steps
        refine' ⟨_, _, _, _, ws.length + 2 - (q ++ [48 + cost v w]).length, rfl, ?F3, ‹News g L' _ nw2›, by simp only [List.length_append, List.length_cons, List.length_nil]; omega, _, _, v2, _, _, rfl, hL2, rfl⟩
        (case F3 => wtm_at "frq")
      · have e := ‹(sl v != sl w) = false›
        have hne : v = w := by
          have : (sl v == sl w) = true := by simpa [bne] using e
          rw [sl_beq] at this
          simpa using this
        subst hne
        unfold Hit
        refine' ⟨_, q, tq, _, _, _, rfl, ?F4, ‹News g L' _ _›, .inl ⟨cur, hre, rfl⟩⟩
        (case F4 => wtm_at "frq")
    · (try k_fold)
      k_steps
      · have e := ‹(sl v != sl v) = true›
        simp at e
      · unfold Hit
        refine' ⟨_, q, tq, _, _, _, rfl, ?F5, ‹News g L' _ _›, .inr ⟨rfl, hre, T2, o2, n2, hT2, rfl⟩⟩
        (case F5 => wtm_at "frq")
  rintro _ ⟨u3, q, tq, nw, h3, tk3, rfl, F3, N3, hL3⟩
  clear F1 N1 hL1
  dsimp only [List.drop]
  have hs1 : Small ws := fun a ha b hb => hs a (.tail _ ha) b (.tail _ hb)
  have hrise := row_rising hn hs1
  have hsrt := rise_srt hrise
  have hrl2 : (rowOf ws).length ≤ 12 := Nat.le_trans (row_len hn hs1) hlen
  have hrow : ∀ y ∈ rowOf ws, ∀ c ∈ y, c < 128 := fun y hy c hc => by
    obtain ⟨v, hv, rfl⟩ := (row_mem hn hs1 y).mp hy
    have := (path_like hs1 hv).ok c hc
    omega
  have hrvl : rv.length = (rowOf ws).length := by rw [hR.length, List.length_map]
  rcases hL3 with ⟨cur, hre, rfl⟩ | ⟨-, hre, T2, o2, n2, hT2, rfl⟩
  · have hq := hre.at_head hn
    (try k_fold)
    k_steps
    refine' (bl_pure2 r rv (rowOf ws) q tq (by omega) hR hsrt).use ?F X' ?N T' (N3.isList (.tail _ (.head _))) ?rm ?un ?_
    (case F => assumption)
    (case N => assumption)
    (case rm => (first | exact room3 (by assumption) (by decide) | exact room2 (by assumption) (by decide) | omega | (dsimp only [Ar, Around.deeper]; omega) | (simp only [depth_deeper, units_deeper]; dsimp only [Ar]; omega)))
    (case un => (first | exact room3 (by assumption) (by decide) | exact room2 (by assumption) (by decide) | omega | (dsimp only [Ar, Around.deeper]; omega) | (simp only [depth_deeper, units_deeper]; dsimp only [Ar]; omega)))
    rintro _ h8 tk8 F8 N8 hk8 ⟨k1, t8, rfl, hA⟩
    dsimp only
    have hk1 := hA.2.1
    (try k_fold)
    k_steps
    rw [slice_two rv k1 (by omega)] at *
    unfold Stop
    have Nz := ‹News g L' _ (_ :: _ :: _)›
    refine ne_texts (vs := (rv.drop k1).take 1) (us := [.str (sl q) tq]) (xs := ((rowOf ws).drop k1).take 1) (ys := [q]) (Nz.isList (.tail _ (.head _))) (Nz.isList (.head _)) ?s1 (.cons _ _ .nil) ?s2 ?s3 (by (first | exact room3 (by assumption) (by decide) | exact room2 (by assumption) (by decide) | omega | (dsimp only [Ar, Around.deeper]; omega) | (simp only [depth_deeper, units_deeper]; dsimp only [Ar]; omega))) ?_
    (case s1 => rw [List.map_take, List.map_drop]; exact strs_take (strs_drop hR k1) 1)
    (case s2 => exact fun y hy => hrow y (List.mem_of_mem_drop (List.mem_of_mem_take hy)))
    (case s3 => exact fun y hy c hc => by rw [List.mem_singleton.mp hy] at hc; have := (hre.like hsw).ok c hc; omega)
    rw [decide_eq_true ((rise_slice hrise hA).mpr ((row_mem hn hs1 q).mpr ⟨w, hq.1, hq.2.symm⟩))]
    simp only [Bool.not_true]
    (try k_fold)
    k_steps
    have e1 := Mut.end (S' := [_, _]) hg ‹Fr g L' _ _› Nz (fun x hx => .tail _ (.tail _ hx))
    exact hret _ _ _ _ e1.1 e1.2 ⟨rfl, .inl ⟨hq.1, rfl⟩⟩
  · have hw2 : w ∉ ws := fun c => nomatch hre.keeps c
    have hs2 : Small (ws ++ [w]) := fun a ha b hb => by
      have e : ∀ x ∈ ws ++ [w], x ∈ w :: ws := fun x hx => by
        rcases List.mem_append.mp hx with hx | hx
        · exact .tail _ hx
        · rw [List.mem_singleton.mp hx]; exact .head _
      exact hs a (e a ha) b (e b hb)
    have hpq : pathIn (ws ++ [w]).length (ws ++ [w]) [114] w = q := hre.new hn hw2
    have hqr : q ∉ rowOf ws := fun c => by
      obtain ⟨v, hv, e⟩ := (row_mem hn hs1 q).mp c
      obtain ⟨_, e2⟩ := hre.head hn hv e.symm
      cases e2
    (try k_fold)
    k_steps
    refine' (bl_pure2 r rv (rowOf ws) q tq (by omega) hR hsrt).use ?F X' ?N T' (N3.isList (.tail _ (.tail _ (.head _)))) ?rm ?un ?_
    (case F => assumption)
    (case N => assumption)
    (case rm => (first | exact room3 (by assumption) (by decide) | exact room2 (by assumption) (by decide) | omega | (dsimp only [Ar, Around.deeper]; omega) | (simp only [depth_deeper, units_deeper]; dsimp only [Ar]; omega)))
    (case un => (first | exact room3 (by assumption) (by decide) | exact room2 (by assumption) (by decide) | omega | (dsimp only [Ar, Around.deeper]; omega) | (simp only [depth_deeper, units_deeper]; dsimp only [Ar]; omega)))
    rintro _ h8 tk8 F8 N8 hk8 ⟨k1, t8, rfl, hA⟩
    dsimp only
    have hk1 := hA.2.1
    (try k_fold)
    k_steps
    rw [slice_two rv k1 (by omega)] at *
    unfold Stop
    have Nz := ‹News g L' _ (_ :: _ :: _ :: _)›
    refine ne_texts (vs := (rv.drop k1).take 1) (us := [.str (sl q) tq]) (xs := ((rowOf ws).drop k1).take 1) (ys := [q]) (Nz.isList (.tail _ (.head _))) (Nz.isList (.head _)) ?s1 (.cons _ _ .nil) ?s2 ?s3 (by (first | exact room3 (by assumption) (by decide) | exact room2 (by assumption) (by decide) | omega | (dsimp only [Ar, Around.deeper]; omega) | (simp only [depth_deeper, units_deeper]; dsimp only [Ar]; omega))) ?_
    (case s1 => rw [List.map_take, List.map_drop]; exact strs_take (strs_drop hR k1) 1)
    (case s2 => exact fun y hy => hrow y (List.mem_of_mem_drop (List.mem_of_mem_take hy)))
    (case s3 => exact fun y hy c hc => by rw [List.mem_singleton.mp hy] at hc; have := (hre.like hsw).ok c hc; omega)
    rw [decide_eq_false (fun c => hqr ((rise_slice hrise hA).mp c))]
    simp only [Bool.not_false]
    (try k_fold)
    k_steps
    have hTr : T2 ≠ r := fun e => by
      have e1 := (Nz (T2, o2) (.tail _ (.tail _ (.tail _ (.head _))))).1
      have e2 := (Nz (r, _) (.tail _ (.tail _ (.tail _ (.tail _ (.head _)))))).1
      dsimp only at e1 e2
      rw [e, e2] at e1
      injection e1 with e1
      have e3 := (hT2.isTup (T2, o2) (.head _)).1
      rw [← e1] at e3
      exact absurd (show Value.type "list" = Value.type "tuple" from e3) (by decide)
    refine' (ins_text r rv k (rowOf ws) q tq (by omega) hR hsrt).use [(l, listOf ((tps ++ [(T2, o2)]).map fun q => Value.ref q.1).toArray n2), (T2, o2)] ?F5 X' Nz T' ?hS5 ?hr5 trivial ?rm5 ?un5 ?_
    (case F5 => assumption)
    (case hS5 => exact fun x hx => by rw [List.mem_singleton.mp hx]; exact .tail _ (.tail _ (.tail _ (.tail _ (.head _)))))
    (case hr5 =>
      intro x hx
      rcases List.mem_cons.mp hx with rfl | hx
      · exact ⟨.tail _ (.tail _ (.head _)), by simpa using hlr⟩
      · rw [List.mem_singleton.mp hx]; exact ⟨.tail _ (.tail _ (.tail _ (.head _))), by simpa using hTr⟩)
    (case rm5 => (first | exact room3 (by assumption) (by decide) | exact room2 (by assumption) (by decide) | omega | (dsimp only [Ar, Around.deeper]; omega) | (simp only [depth_deeper, units_deeper]; dsimp only [Ar]; omega)))
    (case un5 => (first | exact room3 (by assumption) (by decide) | exact room2 (by assumption) (by decide) | omega | (dsimp only [Ar, Around.deeper]; omega) | (simp only [depth_deeper, units_deeper]; dsimp only [Ar]; omega)))
    rintro _ h5 tk5 S5 F5 N5 hk5 ⟨k2, n5, rfl, hA2, rfl⟩
    dsimp only
    (try k_fold)
    k_steps
    have e1 := Mut.end (S' := [(l, listOf ((tps ++ [(T2, o2)]).map fun q => Value.ref q.1).toArray n2), (r, _), (T2, o2)]) hg ‹Fr g L' _ _› N5 (fun x hx => by
      rcases List.mem_cons.mp hx with rfl | hx
      · exact .tail _ (.head _)
      · rcases List.mem_cons.mp hx with rfl | hx
        · exact .head _
        · rw [List.mem_singleton.mp hx]; exact .tail _ (.tail _ (.head _)))
    refine hret _ _ _ _ e1.1 e1.2 ⟨rfl, .inr ⟨hw2, T2, o2, n2, _, n5, ?_, ?_, rfl⟩⟩
    · rw [tab_snoc, hpq]; exact hT.append hT2
    · rw [hrvl] at hA2
      rw [← row_snoc hn hw2 hs2 (by rw [hpq]; exact hA2) (by rw [hpq]; exact hqr), hpq, List.map_append, List.map_cons, List.map_take, List.map_drop]
      exact strs_append (strs_take hR k2) (.cons _ _ (strs_drop hR k2))

end
noncomputable section
-- the search's turn: the word at a place, and the places below it
theorem Grp.at_head {W : List (List Nat)} {p : List Nat} {v : List Nat} {cur : List (List Nat)} {q : List Nat} (h : Grp W p (v :: cur) q) (hn : W.Nodup) : v ∈ W ∧ pathIn W.length W p v = q :=
  ⟨h.mem v (.head _), by rw [(h.path hn).2 v (.head _)]; simp [pathIn]⟩
theorem Grp.only {W : List (List Nat)} {p : List Nat} {v : List Nat} {cur : List (List Nat)} {q : List Nat} (h : Grp W p (v :: cur) q) (hn : W.Nodup) {x : List Nat} (hx : x ∈ W) (e : pathIn W.length W p x = q) : x = v := by
  have hm : x ∈ v :: cur := Decidable.byContradiction fun c => h.off hn x hx c [] (by rw [e, List.append_nil])
  rw [(h.path hn).2 x hm] at e
  simp only [List.length_cons, pathIn] at e
  by_cases h2 : x = v
  · exact h2
  · rw [if_neg h2] at e
    obtain ⟨t2, e2, _⟩ := path_pre cur.length (cur.filter fun y => cost v y == cost v x) (q ++ [48 + cost v x]) x
    rw [e2, List.append_assoc] at e
    have := congrArg List.length e
    simp at this
theorem Grp.like {W : List (List Nat)} {v : List Nat} {cur : List (List Nat)} {q : List Nat} (h : Grp W [114] (v :: cur) q) (hn : W.Nodup) (hs : Small W) : PathLike q := by
  obtain ⟨h1, h2⟩ := h.at_head hn
  rw [← h2]; exact path_like hs h1
theorem low_up {q : List Nat} (h : PathLike q) : (q.map upc).map lowc = q.map lowc := by
  rw [List.map_map]
  refine List.map_congr_left fun c hc => ?_
  show lowc (upc c) = lowc c
  rcases h c hc with rfl | ⟨h1, h2⟩
  · decide
  · have : upc c = c := by unfold upc; rw [if_neg (by omega)]
    rw [this]
theorem up_like {q : List Nat} (h : PathLike q) : ∀ c ∈ q.map upc, 32 ≤ c ∧ c < 127 := fun c hc => by
  obtain ⟨d, hd, rfl⟩ := List.mem_map.mp hc
  rcases h d hd with rfl | ⟨h1, h2⟩
  · decide
  · have : upc d = d := by unfold upc; rw [if_neg (by omega)]
    omega
theorem Grp.find {W : List (List Nat)} {v : List Nat} {cur : List (List Nat)} {q : List Nat} (h : Grp W [114] (v :: cur) q) (hn : W.Nodup) (hs : Small W) : (tabOf W).find? (hit (q.map upc)) = some (q, v) := by
  obtain ⟨hv, e⟩ := h.at_head hn
  have hl := h.like hn hs
  refine find_some' (List.mem_map.mpr ⟨v, hv, by rw [e]⟩) (by unfold hit; rw [low_up hl]; simp) fun b hb hq => ?_
  obtain ⟨x, hx, rfl⟩ := List.mem_map.mp hb
  unfold hit at hq
  rw [low_up hl] at hq
  have e1 : pathIn W.length W [114] x = q := by
    have := eq_of_beq hq
    rwa [(path_like hs hx).low, hl.low] at this
  rw [e1, h.only hn hx e1]
theorem lex_mid : ∀ (q x : List Nat) (c1 c2 : Nat), ¬ x < q ++ [c1] → x < (q ++ [c2]) ++ [126] → x.length = q.length + 1 → ∃ c, x = q ++ [c] ∧ c1 ≤ c ∧ c ≤ c2
  | [], [c], c1, c2, h1, h2, _ => by
    refine ⟨c, rfl, ?_, ?_⟩
    · exact Nat.le_of_not_lt fun k => h1 (List.cons_lt_cons_iff.mpr (.inl k))
    · rcases List.cons_lt_cons_iff.mp h2 with k | ⟨k, _⟩
      · exact Nat.le_of_lt k
      · exact Nat.le_of_eq k
  | [], [], _, _, _, _, h => by simp at h
  | [], _ :: _ :: _, _, _, _, _, h => by simp at h
  | d :: q, [], _, _, _, _, h => by simp at h
  | d :: q, e :: x, c1, c2, h1, h2, h3 => by
    rcases List.cons_lt_cons_iff.mp h2 with k | ⟨rfl, k⟩
    · exact absurd (List.cons_lt_cons_iff.mpr (.inl k)) h1
    · obtain ⟨c, rfl, h4⟩ := lex_mid q x c1 c2 (fun k' => h1 (List.cons_lt_cons_iff.mpr (.inr ⟨rfl, k'⟩))) k (by simpa using h3)
      exact ⟨c, rfl, h4⟩
theorem dig_lt (q : List Nat) {c d : Nat} (h : c < d) : q ++ [c] < q ++ [d] := by
  have := lt_digit q [] [] h
  rwa [List.append_nil, List.append_nil] at this
/-- what a slice between two bisections holds -/
theorem slice_mem {xs : List (List Nat)} {a b x : List Nat} {lo hi : Nat} (hr : xs.Pairwise (· < ·)) (a1 : At xs.length (fun i => decide (xs.getD i [] < a)) 0 lo) (a2 : At xs.length (fun i => decide (xs.getD i [] < b)) lo hi) :
    x ∈ (xs.drop lo).take (hi - lo) ↔ x ∈ xs ∧ ¬ x < a ∧ (x < b ∧ ¬ x < a) := by
  obtain ⟨_, b1, b2, b3⟩ := a1
  obtain ⟨c0, c1, c2, c3⟩ := a2
  have gd : ∀ j (hj : j < xs.length), xs.getD j [] = xs[j] := fun j hj => by rw [List.getD_eq_getElem?_getD, List.getElem?_eq_getElem hj]; rfl
  constructor
  · intro hx
    obtain ⟨i, hi', e⟩ := List.getElem_of_mem hx
    rw [List.length_take, List.length_drop] at hi'
    rw [List.getElem_take, List.getElem_drop] at e
    have h1 := b3 (lo + i) (by omega) (by omega)
    have h2 := c2 (lo + i) (by omega) (by omega)
    dsimp only at h1 h2
    rw [gd (lo + i) (by omega), e] at h1 h2
    have h1 := of_decide_eq_false h1
    exact ⟨e ▸ List.getElem_mem _, h1, of_decide_eq_true h2, h1⟩
  · rintro ⟨hx, h1, h2, _⟩
    obtain ⟨i, hi', e⟩ := List.getElem_of_mem hx
    have k1 : lo ≤ i := Nat.le_of_not_lt fun k => by
      have := b2 i (Nat.zero_le _) k
      dsimp only at this
      rw [gd i hi', e] at this
      exact h1 (of_decide_eq_true this)
    have k2 : i < hi := Nat.lt_of_not_le fun k => by
      have := c3 i k hi'
      dsimp only at this
      rw [gd i hi', e] at this
      exact of_decide_eq_false this h2
    rw [← e]
    have e2 : xs[i] = (xs.drop lo)[i - lo]'(by rw [List.length_drop]; omega) := by
      rw [List.getElem_drop]
      congr 1; omega
    rw [e2]
    refine List.mem_take_iff_getElem.mpr ⟨i - lo, by rw [List.length_drop]; omega, rfl⟩
theorem slice_kids {W : List (List Nat)} {v : List Nat} {cur : List (List Nat)} {q : List Nat} (h : Grp W [114] (v :: cur) q) (hn : W.Nodup) (hs : Small W) (wd : List Nat) (rad : Nat) {lo hi : Nat}
    (a1 : At (rowOf W).length (fun i => decide ((rowOf W).getD i [] < q ++ [48 + (cost wd v - rad)])) 0 lo) (a2 : At (rowOf W).length (fun i => decide ((rowOf W).getD i [] < (q ++ [48 + (cost wd v + rad)]) ++ [126])) lo hi) :
    (((rowOf W).drop lo).take (hi - lo)).filter (fun y => y.length == q.length + 1) = (kidsOf wd rad (v :: cur, q)).map (·.2) := by
  have hr := row_rising hn hs
  refine rising_ext ((hr.sublist ((List.take_sublist _ _).trans (List.drop_sublist _ _))).filter _) ?_ fun x => ?_
  · show (((((figsOf v cur).filter (near1 wd rad v)).map fun f => (cur.filter fun w => cost v w == f, q ++ [48 + f])).map (·.2))).Pairwise (· < ·)
    rw [List.map_map]
    exact List.pairwise_map.mpr (((figs_sorted v cur).filter _).imp fun {a b} hab => dig_lt q (by omega))
  · rw [List.mem_filter, slice_mem hr a1 a2]
    have e1 : x ∈ (kidsOf wd rad (v :: cur, q)).map (·.2) ↔ ∃ f ∈ figsOf v cur, near1 wd rad v f = true ∧ x = q ++ [48 + f] := by
      show x ∈ ((((figsOf v cur).filter (near1 wd rad v)).map fun f => (cur.filter fun w => cost v w == f, q ++ [48 + f])).map (·.2)) ↔ _
      rw [List.map_map, List.mem_map]
      constructor
      · rintro ⟨f, hf, rfl⟩
        exact ⟨f, (List.mem_filter.mp hf).1, (List.mem_filter.mp hf).2, rfl⟩
      · rintro ⟨f, hf, k, rfl⟩
        exact ⟨f, List.mem_filter.mpr ⟨hf, k⟩, rfl⟩
    rw [e1]
    constructor
    · rintro ⟨⟨hx, h1, h2, _⟩, hl⟩
      obtain ⟨c, rfl, k1, k2⟩ := lex_mid q x _ _ h1 h2 (by simpa using hl)
      obtain ⟨f, hf, rfl⟩ := (h.under hn hs c).mp hx
      exact ⟨f, hf, decide_eq_true ⟨by omega, by omega⟩, rfl⟩
    · rintro ⟨f, hf, k, rfl⟩
      have k := of_decide_eq_true k
      refine ⟨⟨(h.under hn hs _).mpr ⟨f, hf, rfl⟩, ?_, ?_, ?_⟩, by simp⟩
      · intro c
        rcases Nat.lt_or_ge (48 + (cost wd v - rad)) (48 + f) with k1 | k1
        · exact List.lt_irrefl _ (List.lt_trans c (dig_lt q k1))
        · have : 48 + f = 48 + (cost wd v - rad) := by omega
          rw [this] at c
          exact List.lt_irrefl _ c
      · rcases Nat.lt_or_ge (48 + f) (48 + (cost wd v + rad)) with k1 | k1
        · have := lt_digit q [] [126] k1
          rwa [List.append_nil] at this
        · have e : 48 + f = 48 + (cost wd v + rad) := by omega
          rw [e]
          have := lt_ext (q ++ [48 + (cost wd v + rad)]) [] 126
          rwa [List.append_nil] at this
      · intro c
        rcases Nat.lt_or_ge (48 + (cost wd v - rad)) (48 + f) with k1 | k1
        · exact List.lt_irrefl _ (List.lt_trans c (dig_lt q k1))
        · have : 48 + f = 48 + (cost wd v - rad) := by omega
          rw [this] at c
          exact List.lt_irrefl _ c

end
noncomputable section
-- the queue's groups: where they stand
theorem lvG_path (wd : List Nat) (rad : Nat) : ∀ (j : Nat) (ws : List (List Nat)) (p : List Nat), ∀ g ∈ lvG wd rad j ws p, ∃ t, g.2 = p ++ t ∧ t.length = j
  | j, [], p, g, h => by cases j <;> cases h
  | 0, v :: ws, p, g, h => by
    obtain rfl := List.mem_singleton.mp h
    exact ⟨[], (List.append_nil _).symm, rfl⟩
  | j + 1, v :: ws, p, g, h => by
    obtain ⟨f, _, hg⟩ := List.mem_flatMap.mp h
    obtain ⟨t, e, hl⟩ := lvG_path wd rad j _ _ g hg
    exact ⟨[48 + f] ++ t, by rw [e, List.append_assoc], by simp only [List.length_append, List.length_cons, List.length_nil]; omega⟩
theorem lvG_rise (wd : List Nat) (rad : Nat) : ∀ (j : Nat) (ws : List (List Nat)) (p : List Nat), ((lvG wd rad j ws p).map (·.2)).Pairwise (· < ·)
  | j, [], p => by cases j <;> exact .nil
  | 0, v :: ws, p => List.pairwise_singleton _ _
  | j + 1, v :: ws, p => by
    show (((((figsOf v ws).filter (near1 wd rad v)).flatMap fun f => lvG wd rad j (ws.filter fun w => cost v w == f) (p ++ [48 + f])).map (·.2))).Pairwise (· < ·)
    rw [List.map_flatMap, List.pairwise_flatMap]
    refine ⟨fun f _ => lvG_rise wd rad j _ _, ((figs_sorted v ws).filter _).imp fun {f g} hfg a ha b hb => ?_⟩
    obtain ⟨x, hx, rfl⟩ := List.mem_map.mp ha
    obtain ⟨y, hy, rfl⟩ := List.mem_map.mp hb
    obtain ⟨s, e1, _⟩ := lvG_path wd rad j _ _ x hx
    obtain ⟨t, e2, _⟩ := lvG_path wd rad j _ _ y hy
    rw [e1, e2]; exact lt_digit p s t (by omega)
theorem levUp_len {wd : List Nat} {rad : Nat} {W : List (List Nat)} : ∀ {j : Nat}, ∀ g ∈ levUp wd rad W j, g.2.length < 1 + j
  | 0, _, h => nomatch h
  | j + 1, g, h => by
    rcases List.mem_append.mp h with h | h
    · have := levUp_len g h; omega
    · obtain ⟨t, e, hl⟩ := lvG_path wd rad j W [114] g h
      rw [e, List.length_append, hl]; simp only [List.length_cons, List.length_nil]; omega
theorem QAt.fresh {wd : List Nat} {rad : Nat} {W : List (List Nat)} (hs : Small W) {dn ah : List (List (List Nat) × List Nat)} {g : List (List Nat) × List Nat} (h : QAt wd rad W dn (g :: ah)) : ∀ x ∈ dn, x.2 ≠ g.2 := by
  obtain ⟨j, A, B, e, rfl, e2⟩ := h
  intro x hx k
  cases B with
  | cons b B =>
    injection e2 with e3 e4
    subst e3
    have hg : g ∈ lvG wd rad j W [114] := by rw [e]; simp
    obtain ⟨t, e5, hl⟩ := lvG_path wd rad j W [114] g hg
    rcases List.mem_append.mp hx with hx | hx
    · have := levUp_len x hx
      rw [k, e5, List.length_append, hl] at this
      simp only [List.length_cons, List.length_nil] at this; omega
    · have hr := lvG_rise wd rad j W [114]
      rw [e, List.map_append, List.pairwise_append] at hr
      have := hr.2.2 x.2 (List.mem_map_of_mem hx) g.2 (by simp)
      rw [k] at this
      exact List.lt_irrefl _ this
  | nil =>
    rw [List.append_nil] at e
    rw [List.nil_append, ← e, ← lvG_next wd rad j W [114] hs] at e2
    have hg : g ∈ lvG wd rad (j + 1) W [114] := by rw [← e2]; exact .head _
    obtain ⟨t, e5, hl⟩ := lvG_path wd rad (j + 1) W [114] g hg
    have : x ∈ levUp wd rad W (j + 1) := by
      show x ∈ levUp wd rad W j ++ lvG wd rad j W [114]
      rw [e]; exact hx
    have := levUp_len x this
    rw [k, e5, List.length_append, hl] at this
    simp only [List.length_cons, List.length_nil] at this; omega
/-- a group of the queue: it stands in the register and is not empty -/
noncomputable def GOk (W : List (List Nat)) (g : List (List Nat) × List Nat) : Prop := Grp W [114] g.1 g.2 ∧ g.1 ≠ []
theorem GOk.kids {W : List (List Nat)} {g : List (List Nat) × List Nat} (hs : Small W) (h : GOk W g) (wd : List Nat) (rad : Nat) : ∀ e ∈ kidsOf wd rad g, GOk W e := by
  obtain ⟨cur, q⟩ := g
  intro e he
  refine ⟨h.1.kids wd rad e he, ?_⟩
  cases cur with
  | nil => cases he
  | cons v cur =>
    obtain ⟨f, hf, rfl⟩ := List.mem_map.mp he
    obtain ⟨w, hw, e⟩ := (figs_mem (h.1.small hs)).mp (List.mem_filter.mp hf).1
    exact List.ne_nil_of_mem (List.mem_filter.mpr ⟨hw, by simpa using e⟩)
theorem size_ge {W : List (List Nat)} : ∀ {l : List (List (List Nat) × List Nat)}, (∀ g ∈ l, GOk W g) → l.length ≤ sizeG l
  | [], _ => Nat.zero_le _
  | g :: l, h => by
    have ih := size_ge (W := W) (l := l) fun x hx => h x (.tail _ hx)
    have h1 := List.length_pos_iff.mpr (h g (.head _)).2
    have : sizeG (g :: l) = g.1.length + sizeG l := by simp [sizeG]
    rw [List.length_cons, this]; omega
/-- what has been found: the words within the radius among those that were asked -/
noncomputable def FoundAt (wd : List Nat) (rad : Nat) (dn : List (List (List Nat) × List Nat)) (fs : List (Nat × List Nat)) : Prop :=
  ∀ e, e ∈ fs ↔ ∃ g ∈ dn, ∃ v cur, g.1 = v :: cur ∧ e = (cost wd v, g.2) ∧ cost wd v ≤ rad
theorem FoundAt.start (wd : List Nat) (rad : Nat) : FoundAt wd rad [] [] := fun e => by simp
theorem FoundAt.far {wd : List Nat} {rad : Nat} {dn : List (List (List Nat) × List Nat)} {fs : List (Nat × List Nat)} (h : FoundAt wd rad dn fs) {v : List Nat} {cur : List (List Nat)} {q : List Nat} (hf : ¬ cost wd v ≤ rad) : FoundAt wd rad (dn ++ [(v :: cur, q)]) fs := fun e => by
  rw [h e]
  constructor
  · rintro ⟨g, hg, r⟩; exact ⟨g, List.mem_append_left _ hg, r⟩
  · rintro ⟨g, hg, v', cur', e1, e2, e3⟩
    rcases List.mem_append.mp hg with hg | hg
    · exact ⟨g, hg, v', cur', e1, e2, e3⟩
    · rw [List.mem_singleton.mp hg] at e1
      injection e1 with e1
      exact absurd (e1 ▸ e3) hf
theorem FoundAt.near {wd : List Nat} {rad : Nat} {dn : List (List (List Nat) × List Nat)} {fs : List (Nat × List Nat)} (h : FoundAt wd rad dn fs) {v : List Nat} {cur : List (List Nat)} {q : List Nat} (hf : cost wd v ≤ rad) (k : Nat) : FoundAt wd rad (dn ++ [(v :: cur, q)]) (fs.take k ++ (cost wd v, q) :: fs.drop k) := fun e => by
  have e0 : e ∈ fs.take k ++ (cost wd v, q) :: fs.drop k ↔ e ∈ fs ∨ e = (cost wd v, q) := by
    conv => rhs; rw [← List.take_append_drop k fs]
    simp only [List.mem_append, List.mem_cons]
    constructor
    · rintro (h | h | h)
      · exact .inl (.inl h)
      · exact .inr h
      · exact .inl (.inr h)
    · rintro ((h | h) | h)
      · exact .inl h
      · exact .inr (.inr h)
      · exact .inr (.inl h)
  rw [e0, h e]
  constructor
  · rintro (⟨g, hg, r⟩ | rfl)
    · exact ⟨g, List.mem_append_left _ hg, r⟩
    · exact ⟨_, List.mem_append_right _ (List.mem_singleton.mpr rfl), v, cur, rfl, rfl, hf⟩
  · rintro ⟨g, hg, v', cur', e1, e2, e3⟩
    rcases List.mem_append.mp hg with hg | hg
    · exact .inl ⟨g, hg, v', cur', e1, e2, e3⟩
    · rw [List.mem_singleton.mp hg] at e1 e2
      injection e1 with e1
      subst e1
      exact .inr e2
theorem FoundAt.new {wd : List Nat} {rad : Nat} {W : List (List Nat)} (hs : Small W) {dn ah : List (List (List Nat) × List Nat)} {fs : List (Nat × List Nat)} (h : FoundAt wd rad dn fs) {g : List (List Nat) × List Nat} (hq : QAt wd rad W dn (g :: ah)) (n : Nat) : (n, g.2) ∉ fs := fun c => by
  obtain ⟨x, hx, _, _, _, e, _⟩ := (h _).mp c
  injection e with _ e
  exact hq.fresh hs x hx e.symm
theorem dig_i {n : Nat} (h : n < 10) {i : Int} (e : i = (n : Int)) : Str.ofString (toString i) = sl [48 + n] := by rw [e]; exact dig_sl n h
theorem GOk.like {W : List (List Nat)} {g : List (List Nat) × List Nat} (hn : W.Nodup) (hs : Small W) (h : GOk W g) : PathLike g.2 := by
  obtain ⟨cur, q⟩ := g
  obtain ⟨h1, h2⟩ := h
  cases cur with
  | nil => exact absurd rfl h2
  | cons v cur => exact h1.like hn hs

end
noncomputable section
-- the words that come, each once
noncomputable def dd (ws : List (List Nat)) : List (List Nat) := ws.foldl (fun a w => if w ∈ a then a else a ++ [w]) []
theorem dd_snoc (ws : List (List Nat)) (w : List Nat) : dd (ws ++ [w]) = if w ∈ dd ws then dd ws else dd ws ++ [w] := by
  unfold dd
  rw [List.foldl_append]; rfl
theorem dd_fold_mem : ∀ (ws a : List (List Nat)) (x : List Nat), x ∈ ws.foldl (fun a w => if w ∈ a then a else a ++ [w]) a ↔ x ∈ a ∨ x ∈ ws
  | [], a, x => by simp
  | w :: ws, a, x => by
    rw [List.foldl_cons, dd_fold_mem ws _ x, List.mem_cons]
    split
    · rename_i h
      exact ⟨fun q => q.elim .inl fun q => .inr (.inr q), fun q => q.elim .inl fun q => q.elim (fun e => .inl (e ▸ h)) .inr⟩
    · rw [List.mem_append, List.mem_singleton, or_assoc]
theorem dd_mem (ws : List (List Nat)) (x : List Nat) : x ∈ dd ws ↔ x ∈ ws := by
  unfold dd
  rw [dd_fold_mem]; simp
theorem dd_step (ws : List (List Nat)) {i : Nat} (hi : i < ws.length) : dd (ws.take (i + 1)) = if ws[i] ∈ ws.take i then dd (ws.take i) else dd (ws.take i) ++ [ws[i]] := by
  rw [List.take_add_one, List.getElem?_eq_getElem hi, Option.toList_some, dd_snoc]
  by_cases h : ws[i] ∈ ws.take i
  · rw [if_pos ((dd_mem _ _).mpr h), if_pos h]
  · rw [if_neg (fun c => h ((dd_mem _ _).mp c)), if_neg h]
theorem dd_good : ∀ (n : Nat) (ws : List (List Nat)), ws.length ≤ n → (dd ws).Nodup ∧ (dd ws).length ≤ ws.length
  | 0, ws, h => by
    obtain rfl : ws = [] := List.length_eq_zero_iff.mp (by omega)
    exact ⟨.nil, Nat.le_refl _⟩
  | n + 1, ws, h => by
    rcases List.eq_nil_or_concat ws with rfl | ⟨r, w, rfl⟩
    · exact ⟨.nil, Nat.le_refl _⟩
    · rw [List.concat_eq_append] at h ⊢
      rw [List.length_append, List.length_singleton] at h
      obtain ⟨h1, h2⟩ := dd_good n r (by omega)
      rw [dd_snoc]
      split
      · exact ⟨h1, by rw [List.length_append]; omega⟩
      · rename_i hw
        refine ⟨?_, by rw [List.length_append, List.length_append]; simp only [List.length_singleton]; omega⟩
        rw [List.nodup_append]
        exact ⟨h1, by simp, fun a ha b hb e => hw (by rw [List.mem_singleton.mp hb] at e; exact e ▸ ha)⟩
theorem dd_nodup (ws : List (List Nat)) : (dd ws).Nodup := (dd_good _ ws (Nat.le_refl _)).1
theorem dd_len (ws : List (List Nat)) : (dd ws).length ≤ ws.length := (dd_good _ ws (Nat.le_refl _)).2
-- which paths are seen
/-- how far the word at a path is from the sought one -/
noncomputable def costAt (wd : List Nat) (W : List (List Nat)) (q : List Nat) : Nat := match (part W.length W [114]).find? fun e => e.1 == q with
  | some e => cost wd e.2
  | none => 0
theorem costAt_of {wd : List Nat} {W : List (List Nat)} (hn : W.Nodup) (hs : Small W) {v : List Nat} (hv : v ∈ W) {q : List Nat} (e : pathIn W.length W [114] v = q) : costAt wd W q = cost wd v := by
  have hm : (q, v) ∈ part W.length W [114] := (part_mem _ W _ (Nat.le_refl _) hn hs q v).mpr ⟨hv, e.symm⟩
  unfold costAt
  rw [find_some' hm (by simp) fun b hb hq => ?_]
  have e1 := (part_mem _ W _ (Nat.le_refl _) hn hs b.1 b.2).mp hb
  have e2 : b.1 = q := by simpa using hq
  have e3 : b.2 = v := by
    have hr := part_sorted _ W [114] (Nat.le_refl _) hn hs
    obtain ⟨i, hi, ei⟩ := List.getElem_of_mem hb
    obtain ⟨j, hj, ej⟩ := List.getElem_of_mem hm
    have hlen : ((part W.length W [114]).map (·.1)).length = (part W.length W [114]).length := List.length_map _
    rcases Nat.lt_trichotomy i j with h | h | h
    · have := (List.pairwise_iff_getElem.mp hr) i j (by omega) (by omega) h
      rw [List.getElem_map, List.getElem_map, ei, ej, e2] at this
      exact absurd this (List.lt_irrefl _)
    · subst h
      rw [ei] at ej
      rw [ej]
    · have := (List.pairwise_iff_getElem.mp hr) j i (by omega) (by omega) h
      rw [List.getElem_map, List.getElem_map, ei, ej, e2] at this
      exact absurd this (List.lt_irrefl _)
  exact Prod.ext e2 e3
/-- the law's own question at a path, from the figure k0 on -/
noncomputable def okFrom (wd : List Nat) (rad : Nat) (W : List (List Nat)) (k0 : Nat) (q : List Nat) : Bool :=
  decide (∀ k, k < q.length → k0 ≤ k → q.getD k 0 - 48 ≤ costAt wd W (q.take k) + rad ∧ costAt wd W (q.take k) ≤ q.getD k 0 - 48 + rad)
theorem okFrom_step {wd : List Nat} {rad : Nat} {W : List (List Nat)} {v : List Nat} {cur : List (List Nat)} {q : List Nat} (h : Grp W [114] (v :: cur) q) (hn : W.Nodup) (hs : Small W) (f : Nat) (t : List Nat) :
    okFrom wd rad W q.length ((q ++ [48 + f]) ++ t) = (near1 wd rad v f && okFrom wd rad W (q ++ [48 + f]).length ((q ++ [48 + f]) ++ t)) := by
  obtain ⟨hv, hp⟩ := h.at_head hn
  have hc := costAt_of (wd := wd) hn hs hv hp
  have e1 : ((q ++ [48 + f]) ++ t).take q.length = q := by rw [List.append_assoc, List.take_left']; rfl
  have e2 : ((q ++ [48 + f]) ++ t).getD q.length 0 = 48 + f := by
    rw [List.getD_eq_getElem?_getD, List.append_assoc, List.getElem?_append_right (Nat.le_refl _)]; simp
  have hl : q.length < ((q ++ [48 + f]) ++ t).length := by simp only [List.length_append, List.length_cons, List.length_nil]; omega
  have hl2 : (q ++ [48 + f]).length = q.length + 1 := by simp
  unfold okFrom near1
  rw [hl2]
  rw [Bool.eq_iff_iff, Bool.and_eq_true, decide_eq_true_iff, decide_eq_true_iff, decide_eq_true_iff]
  constructor
  · intro H
    have h0 := H q.length hl (Nat.le_refl _)
    rw [e1, e2, hc] at h0
    exact ⟨⟨by omega, by omega⟩, fun k hk hk0 => H k hk (by omega)⟩
  · rintro ⟨⟨h1, h2⟩, H⟩ k hk hk0
    rcases Nat.lt_or_ge q.length k with h3 | h3
    · exact H k hk h3
    · have : k = q.length := by omega
      subst this
      rw [e1, e2, hc]
      exact ⟨by omega, by omega⟩
theorem part_pre_any : ∀ (n : Nat) (ws : List (List Nat)) (p : List Nat), ∀ x ∈ part n ws p, ∃ t, x.1 = p ++ t
  | 0, _, _, _, h => nomatch h
  | _ + 1, [], _, _, h => nomatch h
  | n + 1, v :: ws, p, x, h => by
    simp only [part, List.mem_cons, List.mem_flatMap] at h
    rcases h with rfl | ⟨f, _, h⟩
    · exact ⟨[], (List.append_nil _).symm⟩
    · obtain ⟨t, e⟩ := part_pre_any n _ _ x h
      exact ⟨[48 + f] ++ t, by rw [e, List.append_assoc]⟩
theorem seen_filter {wd : List Nat} {rad : Nat} {W : List (List Nat)} (hn : W.Nodup) (hs : Small W) : ∀ (n : Nat) (g : List (List Nat)) (q : List Nat), Grp W [114] g q → (part n g q).filter (fun e => okFrom wd rad W q.length e.1) = seenT wd rad n g q
  | 0, _, _, _ => rfl
  | _ + 1, [], _, _ => rfl
  | n + 1, v :: cur, q, h => by
    simp only [part, seenT]
    have h0 : okFrom wd rad W q.length q = true := by
      unfold okFrom
      rw [decide_eq_true_iff]
      intro k h1 h2
      omega
    rw [List.filter_cons, if_pos h0, filter_flatMap]
    congr 1
    have hg := fun f (hf : f ∈ figsOf v cur) => h.step hf
    have pre : ∀ f, ∀ x ∈ part n (cur.filter fun w => cost v w == f) (q ++ [48 + f]), ∃ t, x.1 = (q ++ [48 + f]) ++ t := fun f x hx => by
      exact part_pre_any n _ _ x hx
    have e : ∀ f ∈ figsOf v cur, (part n (cur.filter fun w => cost v w == f) (q ++ [48 + f])).filter (fun e => okFrom wd rad W q.length e.1) = if near1 wd rad v f = true then seenT wd rad n (cur.filter fun w => cost v w == f) (q ++ [48 + f]) else [] := fun f hf => by
      rw [← seen_filter hn hs n _ _ (hg f hf)]
      split
      · rename_i hnr
        refine List.filter_congr fun x hx => ?_
        obtain ⟨t, et⟩ := pre f x hx
        rw [et, okFrom_step h hn hs f t, hnr, Bool.true_and]
      · rename_i hnr
        rw [List.filter_eq_nil_iff]
        intro x hx
        obtain ⟨t, et⟩ := pre f x hx
        rw [et, okFrom_step h hn hs f t, Bool.eq_false_iff.mpr hnr, Bool.false_and]
        exact Bool.false_ne_true
    rw [fm_congr e]
    generalize figsOf v cur = fs
    clear e pre hg
    induction fs with
    | nil => rfl
    | cons f fs ih =>
      rw [List.flatMap_cons, ih, List.filter_cons]
      split
      · rw [List.flatMap_cons]
      · rfl

end
noncomputable section
/-- the order of tuples of a number and a text -/
noncomputable abbrev plt (a b : Nat × List Nat) : Prop := a.1 < b.1 ∨ (a.1 = b.1 ∧ a.2 < b.2)
theorem plt_irrefl (a : Nat × List Nat) : ¬ plt a a := by
  rintro (h | ⟨_, h⟩)
  · exact Nat.lt_irrefl _ h
  · exact List.lt_irrefl _ h
theorem plt_trans {a b c : Nat × List Nat} (h : plt a b) (k : plt b c) : plt a c := by
  rcases h with h | ⟨h1, h2⟩ <;> rcases k with k | ⟨k1, k2⟩
  · exact .inl (Nat.lt_trans h k)
  · exact .inl (k1 ▸ h)
  · exact .inl (h1 ▸ k)
  · exact .inr ⟨h1.trans k1, List.lt_trans h2 k2⟩
theorem plt_total (a b : Nat × List Nat) : plt a b ∨ a = b ∨ plt b a := by
  rcases Nat.lt_trichotomy a.1 b.1 with h | h | h
  · exact .inl (.inl h)
  · by_cases h1 : a.2 < b.2
    · exact .inl (.inr ⟨h, h1⟩)
    · by_cases h2 : b.2 < a.2
      · exact .inr (.inr (.inr ⟨h.symm, h2⟩))
      · exact .inr (.inl (Prod.ext h (List.le_antisymm (List.not_lt.mp h2) (List.not_lt.mp h1))))
  · exact .inr (.inr (.inl h))
/-- a place in a rising row of such tuples -/
theorem plt_mono {fs : List (Nat × List Nat)} (hs : fs.Pairwise plt) (x : Nat × List Nat) : ∀ i j, i ≤ j → j < fs.length → decide (plt x (fs.getD i (0, []))) = true → decide (plt x (fs.getD j (0, []))) = true := fun i j hij hj h => by
  have h := of_decide_eq_true h
  have gd : ∀ j (hj : j < fs.length), fs.getD j (0, []) = fs[j] := fun j hj => by rw [List.getD_eq_getElem?_getD, List.getElem?_eq_getElem hj]; rfl
  refine decide_eq_true ?_
  rcases Nat.lt_or_ge i j with k | k
  · rw [gd i (by omega)] at h
    rw [gd j hj]
    exact plt_trans h (List.pairwise_iff_getElem.mp hs i j (by omega) hj k)
  · have : i = j := by omega
    exact this ▸ h
theorem plt_ins {fs : List (Nat × List Nat)} (h : fs.Pairwise plt) {x : Nat × List Nat} (hx : x ∉ fs) {k : Nat} (ha : At fs.length (fun i => !(decide (plt x (fs.getD i (0, []))))) 0 k) : (fs.take k ++ x :: fs.drop k).Pairwise plt := by
  obtain ⟨_, hk, h1, h2⟩ := ha
  have gd : ∀ j (hj : j < fs.length), fs.getD j (0, []) = fs[j] := fun j hj => by rw [List.getD_eq_getElem?_getD, List.getElem?_eq_getElem hj]; rfl
  have a1 : ∀ a ∈ fs.take k, plt a x := fun a ha => by
    obtain ⟨i, hi, e⟩ := List.getElem_of_mem ha
    rw [List.length_take] at hi
    have h3 := h1 i (Nat.zero_le _) (by omega)
    dsimp only at h3
    rw [gd i (by omega)] at h3
    have e1 : fs[i] = a := by rw [← e, List.getElem_take]
    rw [e1] at h3
    have h4 : ¬ plt x a := fun c => by rw [decide_eq_true c] at h3; cases h3
    rcases plt_total a x with h5 | h5 | h5
    · exact h5
    · exact absurd (List.mem_of_mem_take ha) (h5 ▸ hx)
    · exact absurd h5 h4
  have a2 : ∀ b ∈ fs.drop k, plt x b := fun b hb => by
    obtain ⟨i, hi, e⟩ := List.getElem_of_mem hb
    rw [List.length_drop] at hi
    have h3 := h2 (k + i) (by omega) (by omega)
    dsimp only at h3
    rw [gd (k + i) (by omega)] at h3
    have e1 : fs[k + i] = b := by rw [← e, List.getElem_drop]
    rw [e1] at h3
    cases hh : decide (plt x b) with
    | true => exact of_decide_eq_true hh
    | false => rw [hh] at h3; cases h3
  rw [List.pairwise_append]
  refine ⟨h.sublist (List.take_sublist _ _), List.pairwise_cons.mpr ⟨a2, h.sublist (List.drop_sublist _ _)⟩, fun a ha b hb => ?_⟩
  rcases List.mem_cons.mp hb with rfl | hb
  · exact a1 a ha
  · exact plt_trans (a1 a ha) (a2 b hb)
theorem cmp_tup (prog : Program) (w : World) (h : Heap) (T : Addr) (x : Nat × List Nat) (t u : Tok) (n : Nat) {fts : List (Addr × Obj)} {fs : List (Nat × List Nat)} (hF : CtsAre fts fs)
    (hT : h.get? T = some { cls := .type "tuple", data := .seq #[.int (x.1 : Int) t, .str (sl x.2) u] n }) (hk : ∀ q ∈ fts, h.get? q.1 = some q.2) :
    CmpLt prog w h (.ref T) (fts.map fun q => Value.ref q.1) (fun i => decide (plt x (fs.getD i (0, [])))) := by
  intro i v A s' Q hv hh hu hst hQ
  obtain ⟨hi, T2, tk, tv, rfl, hT2⟩ := cts_get hF (fun q hq => hst _ _ (hk q hq)) hv
  refine lt_tup ⟨_, hst _ _ hT, rfl, n, rfl⟩ hT2 (by omega) ?_
  have := hQ s'.heap s'.toks (fun _ _ e => e)
  dsimp only at this
  rw [List.getD_eq_getElem?_getD, List.getElem?_eq_getElem hi] at this
  have e : decide (plt x fs[i]) = decide ((x.1 : Int) < (fs[i].1 : Int) ∨ ((x.1 : Int) = (fs[i].1 : Int) ∧ (sl x.2).cps.toList < (sl fs[i].2).cps.toList)) := by
    refine decide_eq_decide.mpr ?_
    rw [show (sl x.2).cps.toList = x.2 from by simp [sl], show (sl fs[i].2).cps.toList = fs[i].2 from by simp [sl]]
    constructor
    · rintro (h | ⟨h1, h2⟩)
      · exact .inl (by omega)
      · exact .inr ⟨by omega, h2⟩
    · rintro (h | ⟨h1, h2⟩)
      · exact .inl (by omega)
      · exact .inr ⟨by omega, h2⟩
  rw [← e]
  exact this
theorem br_tup (l : Addr) (vs : List Value) (fs : List (Nat × List Nat)) (T : Addr) (x : Nat × List Nat) (tl : Tok) (hn : fs.length ≤ 100) (hl : vs.length = fs.length) (hs : fs.Pairwise plt) :
    Pure Mine.hd1.heap_1 PySem.Challenge.rw_pe0272_01.row.prog 56 2 ⟨[.ref l, .ref T, .int 0 tl, .none], []⟩ (fun w h => h.IsList l vs.toArray ∧ CmpLt PySem.Challenge.rw_pe0272_01.row.prog w h (.ref T) vs (fun i => decide (plt x (fs.getD i (0, []))))) (fun r _ => E2 fun k t => r = .int (k : Nat) t ∧ At vs.length (fun i => !(decide (plt x (fs.getD i (0, []))))) 0 k) :=
  by
    k_fill
    exact br_core _ l vs _ _ tl 0 (by (unfold BindsF; intro P oc od osl fd ho s X; (have e := Eq.trans (Eq.symm ho) (by k_is)); (injection e with e; injection e with e1 e2 e3 e4; injection e3 with e3; subst e3); first | exact BindsTo.of_eq rfl | (refine' kp_binds ?kx ?ke; (case kx => assumption); (case ke => exact fun _ => rfl)))) (Nat.zero_le _) (by omega) (fun i j hij hj => plt_mono hs x i j hij (by omega))
theorem ins_tup (l : Addr) (fts : List (Addr × Obj)) (n : Nat) (fs : List (Nat × List Nat)) (T : Addr) (x : Nat × List Nat) (t u : Tok) (k' : Nat) (hn : fs.length ≤ 100) (hF : CtsAre fts fs) (hs : fs.Pairwise plt) :
    Mut Mine.hd1.heap_1 PySem.Challenge.rw_pe0272_01.row.prog 47 4 ⟨[.ref l, .ref T], []⟩ [(l, listOf (fts.map fun q => Value.ref q.1).toArray n)] (fun _ h => h.get? T = some { cls := .type "tuple", data := .seq #[.int (x.1 : Int) t, .str (sl x.2) u] k' } ∧ ∀ q ∈ fts, h.get? q.1 = some q.2)
      (fun r S' => E2 fun k n' => A3 (r = .none) (At (fts.map fun q => Value.ref q.1).length (fun i => !(decide (plt x (fs.getD i (0, []))))) 0 k) (S' = [(l, listOf ((fts.map fun q => Value.ref q.1).take k ++ .ref T :: (fts.map fun q => Value.ref q.1).drop k).toArray n')])) :=
  fun w p loose mean mg mb dp un fr gd s Q E hS' X Tp ⟨hT, hk⟩ hd hu hret =>
    ins_core l (fts.map fun q => Value.ref q.1) n (.ref T) (fun i => decide (plt x (fs.getD i (0, []))))
      (fun tl => br_tup l _ fs T x tl hn (by rw [List.length_map, hF.length]) hs)
      (by rw [List.length_map, hF.length]; exact hn) w p loose mean mg mb dp un fr gd s Q E hS' X Tp (cmp_tup _ w _ T x t u k' hF hT hk) hd hu hret

end
noncomputable section
-- what the search gives back, as the law says it
theorem ord_ext {α : Type} [DecidableEq α] {r : α → α → Prop} (irr : ∀ a, ¬ r a a) (tr : ∀ a b c, r a b → r b c → r a c) : ∀ {a b : List α}, a.Pairwise r → b.Pairwise r → (∀ x, x ∈ a ↔ x ∈ b) → a = b
  | [], [], _, _, _ => rfl
  | [], y :: b, _, _, h => absurd ((h y).mpr (.head _)) List.not_mem_nil
  | x :: a, [], _, _, h => absurd ((h x).mp (.head _)) List.not_mem_nil
  | x :: a, y :: b, ha, hb, h => by
    obtain ⟨a1, a2⟩ := List.pairwise_cons.mp ha
    obtain ⟨b1, b2⟩ := List.pairwise_cons.mp hb
    have e : x = y := by
      rcases List.mem_cons.mp ((h x).mp (.head _)) with e | m1
      · exact e
      · rcases List.mem_cons.mp ((h y).mpr (.head _)) with e | m2
        · exact e.symm
        · exact absurd (tr _ _ _ (a1 y m2) (b1 x m1)) (irr _)
    subst e
    congr 1
    refine ord_ext irr tr a2 b2 fun z => ⟨fun hz => ?_, fun hz => ?_⟩
    · rcases List.mem_cons.mp ((h z).mp (.tail _ hz)) with rfl | m
      · exact absurd (a1 z hz) (irr _)
      · exact m
    · rcases List.mem_cons.mp ((h z).mpr (.tail _ hz)) with rfl | m
      · exact absurd (b1 z hz) (irr _)
      · exact m
/-- shorter first, then by their signs -/
noncomputable def lenlt (a b : List Nat) : Prop := a.length < b.length ∨ (a.length = b.length ∧ a < b)
theorem lenlt_irrefl (a : List Nat) : ¬ lenlt a a := fun h => h.elim (Nat.lt_irrefl _) fun h => List.lt_irrefl _ h.2
theorem lenlt_trans (a b c : List Nat) (h : lenlt a b) (k : lenlt b c) : lenlt a c := by
  rcases h with h | ⟨h, h'⟩ <;> rcases k with k | ⟨k, k'⟩
  · exact .inl (Nat.lt_trans h k)
  · exact .inl (by omega)
  · exact .inl (by omega)
  · exact .inr ⟨by omega, List.lt_trans h' k'⟩
theorem levUp_sorted (wd : List Nat) (rad : Nat) (W : List (List Nat)) : ∀ j, ((levUp wd rad W j).map (·.2)).Pairwise lenlt
  | 0 => .nil
  | j + 1 => by
    show ((levUp wd rad W j ++ lvG wd rad j W [114]).map (·.2)).Pairwise lenlt
    rw [List.map_append, List.pairwise_append]
    have hl : ∀ b ∈ (lvG wd rad j W [114]).map (·.2), b.length = 1 + j := fun b hb => by
      obtain ⟨g, hg, rfl⟩ := List.mem_map.mp hb
      obtain ⟨t, e, ht⟩ := lvG_path wd rad j W [114] g hg
      rw [e, List.length_append, ht]; rfl
    refine ⟨levUp_sorted wd rad W j, (lvG_rise wd rad j W [114]).imp_of_mem fun {a b} ha hb h => .inr ⟨by rw [hl a ha, hl b hb], h⟩, fun a ha b hb => .inl ?_⟩
    obtain ⟨g, hg, rfl⟩ := List.mem_map.mp ha
    rw [hl b hb]; exact levUp_len g hg
theorem lvG_ne (wd : List Nat) (rad : Nat) : ∀ (j : Nat) (ws : List (List Nat)) (p : List Nat), ∀ g ∈ lvG wd rad j ws p, g.1 ≠ []
  | j, [], p, g, h => by cases j <;> cases h
  | 0, v :: ws, p, g, h => by
    obtain rfl := List.mem_singleton.mp h
    exact List.cons_ne_nil _ _
  | j + 1, v :: ws, p, g, h => by
    obtain ⟨f, _, hg⟩ := List.mem_flatMap.mp h
    exact lvG_ne wd rad j _ _ g hg
theorem levUp_mem {wd : List Nat} {rad : Nat} {W : List (List Nat)} : ∀ {J : Nat} {g : List (List Nat) × List Nat}, g ∈ levUp wd rad W J ↔ ∃ j, j < J ∧ g ∈ lvG wd rad j W [114]
  | 0, g => ⟨fun h => (nomatch h), fun ⟨_, h, _⟩ => absurd h (Nat.not_lt_zero _)⟩
  | J + 1, g => by
    show g ∈ levUp wd rad W J ++ lvG wd rad J W [114] ↔ _
    rw [List.mem_append, levUp_mem]
    constructor
    · rintro (⟨j, h, hg⟩ | hg)
      · exact ⟨j, Nat.lt_succ_of_lt h, hg⟩
      · exact ⟨J, Nat.lt_succ_self _, hg⟩
    · rintro ⟨j, h, hg⟩
      rcases Nat.lt_succ_iff_lt_or_eq.mp h with h | rfl
      · exact .inl ⟨j, h, hg⟩
      · exact .inr hg
/-- the groups that were asked are those whose heads are seen -/
theorem done_heads {wd : List Nat} {rad : Nat} {W : List (List Nat)} (hs : Small W) {dn : List (List (List Nat) × List Nat)} (h : QAt wd rad W dn []) (e : List Nat × List Nat) : (∃ g ∈ dn, headOf g = e) ↔ e ∈ seenT wd rad W.length W [114] := by
  obtain ⟨j, hj⟩ := h.done hs
  have lev : ∀ k x, x ∈ (lvG wd rad k W [114]).map headOf ↔ x ∈ seenT wd rad W.length W [114] ∧ x.1.length = 1 + k := fun k x => by
    rw [← lev_grp wd rad k W.length W [114] (Nat.le_refl _), ← lev_seen, List.mem_filter, decide_eq_true_iff]; rfl
  constructor
  · rintro ⟨g, hg, rfl⟩
    rw [hj 0] at hg
    obtain ⟨k, _, hg⟩ := levUp_mem.mp hg
    exact ((lev k _).mp (List.mem_map_of_mem hg)).1
  · intro he
    have h1 := part_len W.length W [114] e (seen_part wd rad _ _ _ e he)
    have h2 : e.1.length = 1 + (e.1.length - 1) := by simp only [List.length_cons, List.length_nil] at h1; omega
    obtain ⟨g, hg, rfl⟩ := List.mem_map.mp ((lev _ e).mpr ⟨he, h2⟩)
    exact ⟨g, by rw [hj ((headOf g).1.length)]; exact levUp_mem.mpr ⟨_, by omega, hg⟩, rfl⟩
theorem asked_eq {wd : List Nat} {rad : Nat} {W : List (List Nat)} (hs : Small W) {dn : List (List (List Nat) × List Nat)} (h : QAt wd rad W dn []) {ys : List (List Nat)} (hy : ys.Pairwise lenlt) (hm : ∀ x, x ∈ ys ↔ x ∈ (seenT wd rad W.length W [114]).map (·.1)) : dn.map (·.2) = ys := by
  refine ord_ext lenlt_irrefl lenlt_trans ?_ hy fun x => ?_
  · obtain ⟨j, hj⟩ := h.done hs
    rw [hj 0]; exact levUp_sorted wd rad W _
  · rw [hm, List.mem_map, List.mem_map]
    constructor
    · rintro ⟨g, hg, rfl⟩
      exact ⟨headOf g, (done_heads hs h _).mp ⟨g, hg, rfl⟩, rfl⟩
    · rintro ⟨e, he, rfl⟩
      obtain ⟨g, hg, rfl⟩ := (done_heads hs h _).mpr he
      exact ⟨g, hg, rfl⟩
theorem part_word : ∀ (n : Nat) (ws : List (List Nat)) (p : List Nat), ∀ e ∈ part n ws p, e.2 ∈ ws
  | 0, _, _, _, h => nomatch h
  | _ + 1, [], _, _, h => nomatch h
  | n + 1, v :: ws, p, e, h => by
    simp only [part, List.mem_cons, List.mem_flatMap] at h
    rcases h with rfl | ⟨f, _, h⟩
    · exact .head _
    · exact .tail _ (List.mem_filter.mp (part_word n _ _ e h)).1
/-- who is near is seen -/
theorem near_seen {wd : List Nat} {rad : Nat} {W : List (List Nat)} : ∀ (n : Nat) (g : List (List Nat)) (p : List Nat) (e : List Nat × List Nat), e ∈ part n g p → cost wd e.2 ≤ rad → e ∈ seenT wd rad n g p
  | 0, _, _, _, h, _ => nomatch h
  | _ + 1, [], _, _, h, _ => nomatch h
  | n + 1, v :: ws, p, e, h, hc => by
    simp only [part, List.mem_cons, List.mem_flatMap] at h
    simp only [seenT, List.mem_cons, List.mem_flatMap]
    rcases h with h | ⟨f, hf, h⟩
    · exact .inl h
    · refine .inr ⟨f, List.mem_filter.mpr ⟨hf, ?_⟩, near_seen (W := W) n _ _ e h hc⟩
      have hm := part_word n _ _ e h
      have e1 : cost v e.2 = f := by simpa using (List.mem_filter.mp hm).2
      have t1 := cost_tri v wd e.2
      have t2 := cost_tri wd e.2 v
      rw [cost_comm v wd] at t1
      rw [cost_comm e.2 v] at t2
      unfold near1
      rw [decide_eq_true_iff]
      omega
theorem found_eq {wd : List Nat} {rad : Nat} {W : List (List Nat)} (hs : Small W) {dn : List (List (List Nat) × List Nat)} (h : QAt wd rad W dn []) {fs : List (Nat × List Nat)} (hf : FoundAt wd rad dn fs) (hp : fs.Pairwise plt) {ys : List (Nat × List Nat)} (hy : ys.Pairwise plt)
    (hm : ∀ x, x ∈ ys ↔ x ∈ ((part W.length W [114]).filter fun e => decide (cost wd e.2 ≤ rad)).map fun e => (cost wd e.2, e.1)) : fs = ys := by
  refine ord_ext plt_irrefl (fun _ _ _ => plt_trans) hp hy fun x => ?_
  rw [hm, hf, List.mem_map]
  constructor
  · rintro ⟨g, hg, v, cur, e1, rfl, hc⟩
    have hh := (done_heads hs h (headOf g)).mp ⟨g, hg, rfl⟩
    have e2 : headOf g = (g.2, v) := by unfold headOf; rw [e1]; rfl
    rw [e2] at hh
    exact ⟨(g.2, v), List.mem_filter.mpr ⟨seen_part wd rad _ _ _ _ hh, decide_eq_true hc⟩, rfl⟩
  · rintro ⟨e, he, rfl⟩
    obtain ⟨he, hc⟩ := List.mem_filter.mp he
    have hc := of_decide_eq_true hc
    obtain ⟨g, hg, rfl⟩ := (done_heads hs h e).mpr (near_seen (W := W) _ _ _ e he hc)
    obtain ⟨j, hj⟩ := h.done hs
    have hg2 := hg
    rw [hj 0] at hg2
    obtain ⟨k, _, hg2⟩ := levUp_mem.mp hg2
    have hne := lvG_ne wd rad k W [114] g hg2
    obtain ⟨cur, q⟩ := g
    cases cur with
    | nil => exact absurd rfl hne
    | cons v cur => exact ⟨(v :: cur, q), hg, v, cur, rfl, rfl, hc⟩
/-- what goes ahead of a path is a path -/
theorem part_prefix : ∀ (n : Nat) (ws : List (List Nat)) (p : List Nat), ∀ e ∈ part n ws p, ∀ k, p.length ≤ k → k ≤ e.1.length → ∃ e' ∈ part n ws p, e'.1 = e.1.take k
  | 0, _, _, _, h, _, _, _ => nomatch h
  | _ + 1, [], _, _, h, _, _, _ => nomatch h
  | n + 1, v :: ws, p, e, h, k, h1, h2 => by
    simp only [part, List.mem_cons, List.mem_flatMap] at h
    rcases h with rfl | ⟨f, hf, h⟩
    · have : k = p.length := Nat.le_antisymm h2 h1
      subst this
      exact ⟨(p, v), .head _, (List.take_of_length_le (Nat.le_refl _)).symm⟩
    · by_cases hk : k = p.length
      · obtain ⟨t, et⟩ := part_pre_any n _ _ e h
        refine ⟨(p, v), .head _, ?_⟩
        rw [et, hk, List.append_assoc, List.take_left']; rfl
      · obtain ⟨e', he', e2⟩ := part_prefix n _ _ e h k (by simp only [List.length_append, List.length_cons, List.length_nil]; omega) h2
        exact ⟨e', .tail _ (List.mem_flatMap.mpr ⟨f, hf, he'⟩), e2⟩
theorem path_fig {W : List (List Nat)} (hs : Small W) {w : List Nat} (hw : w ∈ W) {k : Nat} (h1 : 1 ≤ k) (hk : k < (pathIn W.length W [114] w).length) : 48 ≤ (pathIn W.length W [114] w).getD k 0 ∧ (pathIn W.length W [114] w).getD k 0 < 58 := by
  obtain ⟨t, e, hc⟩ := path_dig W.length W [114] w (fun v hv => hs v hv w hw)
  rw [e] at hk ⊢
  obtain ⟨k, rfl⟩ : ∃ j, k = j + 1 := ⟨k - 1, by omega⟩
  rw [List.length_append] at hk
  have hk : k < t.length := by simp only [List.length_cons, List.length_nil] at hk; omega
  have e2 : ([114] ++ t).getD (k + 1) 0 = t[k] := by
    rw [List.getD_eq_getElem?_getD]
    show (t[k]?).getD 0 = _
    rw [List.getElem?_eq_getElem hk]; rfl
  rw [e2]
  exact hc _ (List.getElem_mem hk)
/-- a figure that is too far from the cost -/
noncomputable def bad (wd : List Nat) (rad : Nat) (W : List (List Nat)) (q : List Nat) (k : Nat) : Bool := !decide (q.getD k 0 - 48 ≤ costAt wd W (q.take k) + rad ∧ costAt wd W (q.take k) ≤ q.getD k 0 - 48 + rad)
theorem okFrom_bad (wd : List Nat) (rad : Nat) (W : List (List Nat)) (q : List Nat) (h : 1 ≤ q.length) : okFrom wd rad W 1 q = decide (((List.range (q.length - 1)).filter fun j => bad wd rad W q (j + 1)) = []) := by
  unfold okFrom
  rw [decide_eq_decide, List.filter_eq_nil_iff]
  constructor
  · intro H j hj
    have hj := List.mem_range.mp hj
    unfold bad
    rw [decide_eq_true (H (j + 1) (by omega) (by omega))]
    exact Bool.false_ne_true
  · intro H k hk h1
    have := H (k - 1) (List.mem_range.mpr (by omega))
    rw [show k - 1 + 1 = k by omega] at this
    unfold bad at this
    refine Decidable.byContradiction fun c => this ?_
    rw [decide_eq_false c]; rfl
theorem seen_first (wd : List Nat) (rad : Nat) {W : List (List Nat)} (hW : W ≠ []) : ∃ rest, ((part W.length W [114]).filter fun e => okFrom wd rad W 1 e.1).map (·.1) = [114] :: rest ∧ ∀ q ∈ rest, 2 ≤ q.length := by
  cases W with
  | nil => exact absurd rfl hW
  | cons v ws =>
    have h0 : okFrom wd rad (v :: ws) 1 [114] = true := by
      unfold okFrom
      rw [decide_eq_true_iff]
      intro k h1 h2
      simp only [List.length_cons, List.length_nil] at h1
      omega
    refine ⟨_, by simp only [List.length_cons, part]; rw [List.filter_cons, if_pos h0, List.map_cons], fun q hq => ?_⟩
    obtain ⟨e, he, rfl⟩ := List.mem_map.mp hq
    obtain ⟨f, _, he⟩ := List.mem_flatMap.mp (List.mem_filter.mp he).1
    exact part_len _ _ _ e he

end
noncomputable section
-- the sort of a row of less than two
section
variable {prog : Program} {w : World} {A : Around} {E : Value → Shared → Prop} {s : Shared} {h₀ : Heap} {L a : Addr} {m : Str → Option Value} {news : List (Addr × Obj)} {vs : List Value}
theorem short_list_sort {n : Nat} {P : PySem.Fin → Shared → Prop} (F : Fr h₀ L s.heap m) (N : News h₀ L s.heap news) (ho : s.heap.get? a = some (seqObj "list" vs.toArray n)) (haL : a ≠ L) (ha0 : h₀.get? a = none) (hna : ∀ p ∈ news, p.1 ≠ a)
    (h2 : vs.length < 2) (h : ∀ h' c, Fr h₀ L h' m → News h₀ L h' ((a, seqObj "list" vs.toArray c) :: news) → P (.done (.ret .none)) { s with heap := h' }) :
    wpAny (model prog w) A (Builtin.«list.sort» ⟨[.ref a], []⟩) P E s := by
  have ha : a < s.heap.objs.size := Heap.lt_size ho
  have s1 := Heap.SameBut.update s.heap a (Obj.mapSeq fun _ => (#[] : Array Value))
  obtain ⟨e1, ho1⟩ : ∃ e1, (s.heap.update a (Obj.mapSeq fun _ => (#[] : Array Value))).get? a = some (seqObj "list" #[] e1) := ⟨_, get?_update_seq ho fun _ => #[]⟩
  have F3 : Fr h₀ L (((s.heap.update a (Obj.mapSeq fun _ => (#[] : Array Value))).push (seqObj "tuple" vs.toArray 0)).push (seqObj "list" #[] 0)) m := ((kas_fr F s1 haL ha0).push _).push _
  have N2 : News h₀ L (((s.heap.update a (Obj.mapSeq fun _ => (#[] : Array Value))).push (seqObj "tuple" vs.toArray 0)).push (seqObj "list" #[] 0)) news :=
    (kas_news N s1 hna).grown fun b x e => Heap.get?_push_of_some _ (Heap.get?_push_of_some _ e)
  have na : (((s.heap.update a (Obj.mapSeq fun _ => (#[] : Array Value))).push (seqObj "tuple" vs.toArray 0)).push (seqObj "list" #[] 0)).get? a = some (seqObj "list" #[] e1) := Heap.get?_push_of_some _ (Heap.get?_push_of_some _ ho1)
  generalize hH : ((s.heap.update a (Obj.mapSeq fun _ => (#[] : Array Value))).push (seqObj "tuple" vs.toArray 0)).push (seqObj "list" #[] 0) = H at F3 N2 na
  rw [list_sort_plain]
  refine wpAny_bind (listItems_at ho rfl ?_)
  refine wpAny_bind (listUpdate_at ho rfl ?_ (by rw [List.size_toArray, sizeLine_eq]; omega) (Nat.zero_le _))
  refine wpAny_bind (seqEpoch_at ho1 rfl ?_)
  refine wpAny_bind (wpAny_newTuple ?_ (by show vs.length ≤ _; rw [sizeLine_eq]; omega))
  refine wpAny_bind (wpAny_newList ?_ (Nat.zero_le _))
  refine wpAny_holding ?_
  show wpAny (model prog w) A _ P E { s with heap := ((s.heap.update a (Obj.mapSeq fun _ => (#[] : Array Value))).push (seqObj "tuple" vs.toArray 0)).push (seqObj "list" #[] 0) }
  rw [hH]
  dsimp only
  have hn2 : vs.toArray.size < 2 := by rw [List.size_toArray]; omega
  rw [if_pos hn2, if_pos hn2]
  refine wpAny_bind (wpAny_pure ?_)
  refine wpAny_bind (wpAny_pure ?_)
  dsimp only
  have hout : (arrOf (SortSt.mk' general' (vs.toArray.zip vs.toArray) #[] 7 none)).map (·.2) = vs.toArray := by
    show (vs.toArray.zip vs.toArray).map (·.2) = vs.toArray
    apply Array.toList_inj.mp
    rw [Array.toList_map, ksk_zip]
    show (vs.zip vs).map (·.2) = vs
    rw [List.map_snd_zip (Nat.le_refl _)]
  rw [hout]
  have s2 := Heap.SameBut.update H a (Obj.mapSeq fun _ => vs.toArray)
  obtain ⟨c2, hc2⟩ : ∃ c2, (H.update a (Obj.mapSeq fun _ => vs.toArray)).get? a = some (seqObj "list" vs.toArray c2) := ⟨_, get?_update_seq na fun _ => vs.toArray⟩
  refine wpAny_bind (seqEpoch_at na rfl ?_)
  refine wpAny_bind (listUpdate_at na rfl ?_ (Nat.zero_le _) (by show vs.toArray.size ≤ _; rw [List.size_toArray, sizeLine_eq]; omega))
  simp only [bne_self_eq_false, Bool.false_eq_true, if_false]
  refine wpAny_pure (h _ c2 (kas_fr F3 s2 haL ha0) fun p hp => ?_)
  rcases List.mem_cons.mp hp with rfl | hp
  · exact ⟨hc2, haL, ha0⟩
  · exact kas_news N2 s2 hna p hp
theorem short_sorted {l : Addr} {Q : Value → Shared → Prop} (F : Fr h₀ L s.heap m) (N : News h₀ L s.heap news) (hl : s.heap.IsList l vs.toArray) (h2 : vs.length < 2)
    (h : ∀ D c h', Fr h₀ L h' m → News h₀ L h' ((D, seqObj "list" vs.toArray c) :: news) → (∀ q ∈ news, q.1 < D) → Q (.ref D) { s with heap := h' }) :
    wpAny (model prog w) A (call (.builtin "sorted") [.ref l]) Q E s := by
  refine Calls.call_function_entry kind_sorted plain_sorted entry_sorted (args_sorted1 _) ?_
  unfold Builtin.«sorted»
  refine wpAny_bind (m := checkCount "sorted" 1 1 _) (wpAny_pure ?_)
  refine wpAny_bind (collect_list hl ?_ (by rw [sizeLine_eq]; omega))
  refine wpAny_bind (wpAny_newList ?_ (by rw [sizeLine_eq]; omega))
  have hsz : ((s.heap.push (seqObj "list" #[] 0)).update s.heap.objs.size (Obj.mapSeq (· ++ vs.toArray))).objs.size = s.heap.objs.size + 1 := by
    rw [Heap.size_update, size_push']
  have hoL : (((s.heap.push (seqObj "list" #[] 0)).update s.heap.objs.size (Obj.mapSeq (· ++ vs.toArray))).push (seqObj "list" vs.toArray 0)).get? (s.heap.objs.size + 1) = some (seqObj "list" vs.toArray 0) := by
    rw [← hsz]; exact Heap.get?_push_size _ rfl
  have keep : ∀ b o, s.heap.get? b = some o → (((s.heap.push (seqObj "list" #[] 0)).update s.heap.objs.size (Obj.mapSeq (· ++ vs.toArray))).push (seqObj "list" vs.toArray 0)).get? b = some o := fun b o q => by
    have hlt : b < s.heap.objs.size := Heap.lt_size q
    rw [Heap.get?_push_ne _ _ _ (by rw [hsz]; exact Nat.ne_of_lt (Nat.lt_succ_of_lt hlt)), Heap.get?_update_ne _ _ _ _ (Nat.ne_of_lt hlt), Heap.get?_push_ne _ _ _ (Nat.ne_of_lt hlt)]
    exact q
  have hL : L < s.heap.objs.size := F.ns.lt
  show wpAny _ _ _ _ _ { s with heap := ((s.heap.push (seqObj "list" #[] 0)).update s.heap.objs.size (Obj.mapSeq (· ++ vs.toArray))).push (seqObj "list" vs.toArray 0) }
  rw [hsz]
  refine wpAny_bind (wpAny_holding (wpAny_call_entry slot_list_sort ⟨_, hoL, rfl⟩ entry_list_sort ?body (args_list_sort _)))
  case body =>
    refine short_list_sort (s := { s with heap := ((s.heap.push (seqObj "list" #[] 0)).update s.heap.objs.size (Obj.mapSeq (· ++ vs.toArray))).push (seqObj "list" vs.toArray 0) })
      (F.kept keep) (N.grown keep) hoL (Nat.ne_of_gt (Nat.lt_succ_of_lt hL)) (Heap.get?_none_of_le (Nat.le_trans F.above (Nat.le_succ_of_le (Nat.le_of_lt hL))))
      (fun p hp => Nat.ne_of_lt (Nat.lt_succ_of_lt (Heap.lt_size (N p hp).1))) h2 fun h' c F' N' => ?_
    exact ⟨_, rfl, wpAny_pure ⟨_, rfl, h _ c h' F' N' fun q hq => Nat.lt_succ_of_lt (Heap.lt_size (N q hq).1)⟩⟩
end
-- the sort of tuples of a number and a text
section
variable {prog : Program} {w : World} {A : Around} {E : Value → Shared → Prop} {s : Shared} {h₀ : Heap} {L : Addr} {m : Str → Option Value} {news : List (Addr × Obj)}
theorem kat_tups_of {h : Heap} : ∀ {ts : List (Addr × Obj)} {ps : List (Nat × List Nat)}, CtsAre ts ps → (∀ q ∈ ts, h.get? q.1 = some q.2) → ∃ fs, A3 (KatTups h (ts.map fun q => Value.ref q.1) fs) (fs.length = ts.length) (∀ v ∈ fs, E2 fun n t => v = .int n t)
  | _, _, .nil, _ => ⟨[], KatTups.nil, rfl, fun _ h => nomatch h⟩
  | _, _, .cons r, hk => by
    obtain ⟨fs, h1, h2, h3⟩ := kat_tups_of r fun q hq => hk q (.tail _ hq)
    refine ⟨_, KatTups.cons (hk _ (.head _)) rfl rfl rfl h1, by rw [List.length_cons, List.length_cons, h2], fun v hv => ?_⟩
    rcases List.mem_cons.mp hv with rfl | hv
    · exact ⟨_, _, rfl⟩
    · exact h3 v hv
theorem lt_cts {vs : List Value} {fs : List (Nat × List Nat)} {ts : List (Addr × Obj)} (hC : CtsAre ts fs) (hv : vs = ts.map fun q => Value.ref q.1) (hk : ∀ q ∈ ts, s.heap.get? q.1 = some q.2) {i j : Nat} (hi : i < fs.length) (hj : j < fs.length) {b : Bool} {C : Bool → Shared → Prop}
    (h : C (decide (plt (fs.getD i (0, [])) (fs.getD j (0, [])))) s) : wpAny (model prog w) A (keyLt' (tuples' b) (vs.getD i Value.none) (vs.getD j Value.none)) C (fun _ _ => False) s := by
  have hl := hC.length
  have get : ∀ {i : Nat} (hi : i < fs.length), E5 fun T o tk tv n => A3 (vs.getD i Value.none = .ref T) (s.heap.get? T = some o) (o.data = .seq #[.int ((fs[i].1 : Nat) : Int) tk, .str (sl fs[i].2) tv] n) := fun {i} hi => by
    have hi' : i < ts.length := by omega
    obtain ⟨_, tk, tv, n, e⟩ := hC.get (List.getElem?_eq_getElem hi')
    refine ⟨ts[i].1, ts[i].2, tk, tv, n, ?_, hk _ (List.getElem_mem hi'), by rw [e]⟩
    rw [hv, List.getD_eq_getElem?_getD, List.getElem?_map, List.getElem?_eq_getElem hi']; rfl
  obtain ⟨T1, o1, tk1, tv1, n1, e1, g1, d1⟩ := get hi
  obtain ⟨T2, o2, tk2, tv2, n2, e2, g2, d2⟩ := get hj
  rw [e1, e2]
  rw [List.getD_eq_getElem?_getD, List.getD_eq_getElem?_getD, List.getElem?_eq_getElem hi, List.getElem?_eq_getElem hj] at h
  refine kat_lt g1 d1 g2 d2 ?_
  refine kat_cons (wpAny_eqBool_int ?_)
  by_cases c : fs[i].1 = fs[j].1
  · rw [show ((((fs[i].1 : Nat) : Int)) == ((fs[j].1 : Nat) : Int)) = true from by rw [c]; exact beq_self_eq_true _]
    refine kat_yes (kat_cons (wpAny_eqBool_str ?_))
    by_cases c2 : fs[i].2 = fs[j].2
    · rw [show decide (sl fs[i].2 = sl fs[j].2) = true from decide_eq_true (by rw [c2])]
      refine kat_yes (kat_nil ?_)
      have e : decide (plt fs[i] fs[j]) = false := decide_eq_false fun k => k.elim (fun k => by omega) fun k => by rw [c2] at k; exact List.lt_irrefl _ k.2
      have e3 : decide (plt ((some fs[i]).getD (0, [])) ((some fs[j]).getD (0, []))) = false := e
      rw [e3] at h
      exact h
    · rw [show decide (sl fs[i].2 = sl fs[j].2) = false from decide_eq_false fun e => c2 (sl_inj.mp e)]
      refine kat_no ?_
      have e : decide (plt fs[i] fs[j]) = decide (fs[i].2 < fs[j].2) := by
        rw [decide_eq_decide]
        exact ⟨fun k => k.elim (fun k => by omega) fun k => k.2, fun k => .inr ⟨c, k⟩⟩
      have e3 : decide (plt ((some fs[i]).getD (0, [])) ((some fs[j]).getD (0, []))) = decide (fs[i].2 < fs[j].2) := e
      rw [e3] at h
      have e4 : decide ((sl fs[i].2).cps.toList < (sl fs[j].2).cps.toList) = decide (fs[i].2 < fs[j].2) := by rw [sl_cps, sl_cps]
      rw [← e4] at h
      rw [show (b && (0 + 1 == 0 : Bool)) = false from by simp]
      exact kat_one _ _ (PyProof.Rows.lt_str h)
  · rw [show ((((fs[i].1 : Nat) : Int)) == ((fs[j].1 : Nat) : Int)) = false from beq_eq_false_iff_ne.mpr fun e => c (Int.ofNat.inj e)]
    refine kat_no ?_
    have e : decide (plt fs[i] fs[j]) = decide (((fs[i].1 : Nat) : Int) < ((fs[j].1 : Nat) : Int)) := by
      rw [decide_eq_decide]
      exact ⟨fun k => k.elim (fun k => by omega) fun k => absurd k.1 c, fun k => .inl (by omega)⟩
    have e3 : decide (plt ((some fs[i]).getD (0, [])) ((some fs[j]).getD (0, []))) = decide (((fs[i].1 : Nat) : Int) < ((fs[j].1 : Nat) : Int)) := e
    rw [e3] at h
    cases b with
    | true => exact oneLt_int h
    | false => exact kat_one _ _ (lt_int h)
end
theorem CtsAre.pick {ts : List (Addr × Obj)} {ps : List (Nat × List Nat)} (hC : CtsAre ts ps) (d : Addr × Obj) (e : Nat × List Nat) : ∀ l : List Nat, (∀ i ∈ l, i < ps.length) → CtsAre (l.map fun i => ts.getD i d) (l.map fun i => ps.getD i e)
  | [], _ => .nil
  | i :: l, h => by
    have hi := h i (.head _)
    have hi' : i < ts.length := by rw [hC.length]; exact hi
    obtain ⟨_, tk, tv, n, eo⟩ := hC.get (List.getElem?_eq_getElem hi')
    have r := CtsAre.pick hC d e l fun j hj => h j (.tail _ hj)
    have e1 : ts.getD i d = (ts[i].1, { cls := .type "tuple", data := .seq #[.int ((ps[i].1 : Nat) : Int) tk, .str (sl ps[i].2) tv] n }) := by
      rw [List.getD_eq_getElem?_getD, List.getElem?_eq_getElem hi', ← eo]; rfl
    have e2 : ps.getD i e = ps[i] := by rw [List.getD_eq_getElem?_getD, List.getElem?_eq_getElem hi]; rfl
    rw [List.map_cons, List.map_cons, e1, e2]
    exact .cons r
theorem strs_pick {vs : List Value} {xs : List (List Nat)} (hS : StrsAre vs (xs.map sl)) : ∀ l : List Nat, (∀ i ∈ l, i < xs.length) → StrsAre (l.map fun i => vs.getD i Value.none) ((l.map fun i => xs.getD i []).map sl)
  | [], _ => .nil
  | i :: l, h => by
    have hi := h i (.head _)
    have hi' : i < vs.length := by rw [strs_len hS]; exact hi
    obtain ⟨_, t, e1⟩ := strs_get hS (List.getElem?_eq_getElem hi')
    have r := strs_pick hS l fun j hj => h j (.tail _ hj)
    have e2 : vs.getD i Value.none = .str (sl xs[i]) t := by rw [List.getD_eq_getElem?_getD, List.getElem?_eq_getElem hi', ← e1]; rfl
    have e3 : xs.getD i [] = xs[i] := by rw [List.getD_eq_getElem?_getD, List.getElem?_eq_getElem hi]; rfl
    rw [List.map_cons, List.map_cons, List.map_cons, e2, e3]
    exact .cons _ _ r
theorem perm_lt {n : Nat} {p : Array Nat} (h : PermR n p) : ∀ i ∈ p.toList, i < n := fun i hi => List.mem_range.mp (h.perm.mem_iff.mp hi)
theorem perm_mem {α : Type} {xs : List α} {p : Array Nat} (h : PermR xs.length p) (e : α) (x : α) : x ∈ (p.toList.map fun i => xs.getD i e) ↔ x ∈ xs := by
  rw [List.mem_map]
  constructor
  · rintro ⟨i, hi, rfl⟩
    have hi := perm_lt h i hi
    rw [List.getD_eq_getElem?_getD, List.getElem?_eq_getElem hi]
    exact List.getElem_mem hi
  · intro hx
    obtain ⟨i, hi, rfl⟩ := List.getElem_of_mem hx
    exact ⟨i, h.perm.mem_iff.mpr (List.mem_range.mpr hi), by rw [List.getD_eq_getElem?_getD, List.getElem?_eq_getElem hi]; rfl⟩
theorem rise_pick {α : Type} {xs : List α} {r : Nat → Nat → Bool} {R : α → α → Prop} {p : Array Nat} (h : PermR xs.length p) (hr : RiseTo r p xs.length) (e : α) (hR : ∀ i j, i < xs.length → j < xs.length → r i j = true → R (xs.getD i e) (xs.getD j e)) : (p.toList.map fun i => xs.getD i e).Pairwise R := by
  rw [List.pairwise_map, List.pairwise_iff_getElem]
  intro i j hi hj hij
  rw [Array.length_toList] at hi hj
  have h1 := hr i j hij (by rw [← h.size]; exact hj)
  rw [getD_of hi, getD_of hj] at h1
  exact hR _ _ (perm_lt h _ (List.getElem_mem _)) (perm_lt h _ (List.getElem_mem _)) h1
section
variable {prog : Program} {w : World} {A : Around} {E : Value → Shared → Prop} {s : Shared} {h₀ : Heap} {L : Addr} {m : Str → Option Value} {news : List (Addr × Obj)}
/-- sorted of a row of tuples (a number, a text), no two alike -/
theorem sorted_cts {l : Addr} {kl : Nat} {fts : List (Addr × Obj)} {fs : List (Nat × List Nat)} {Q : Value → Shared → Prop} (F : Fr h₀ L s.heap m) (N : News h₀ L s.heap news) (hl : (l, listOf (fts.map fun q => Value.ref q.1).toArray kl) ∈ news) (hF : CtsAre fts fs) (hs : ∀ q ∈ fts, q ∈ news)
    (hn : fs.Nodup) (h64 : fs.length < 64)
    (h : ∀ D c h' gts gs, Fr h₀ L h' m → News h₀ L h' ((D, listOf (gts.map fun q => Value.ref q.1).toArray c) :: news) → (∀ q ∈ news, q.1 < D) → (∀ q ∈ gts, q ∈ fts) → CtsAre gts gs → gs.Pairwise plt → (∀ x, x ∈ gs ↔ x ∈ fs) → Q (.ref D) { s with heap := h' }) :
    wpAny (model prog w) A (call (.builtin "sorted") [.ref l]) Q E s := by
  have hlen := hF.length
  have hvl : (fts.map fun q => Value.ref q.1).length = fs.length := by rw [List.length_map, hlen]
  rcases Nat.lt_or_ge fs.length 2 with h2 | h2
  · refine short_sorted F N (N.isList hl) (by rw [hvl]; exact h2) fun D c h' F' N' hlt => h D c h' fts fs F' N' hlt (fun _ h => h) hF ?_ fun _ => Iff.rfl
    match fs, h2 with
    | [], _ => exact .nil
    | [x], _ => exact List.pairwise_singleton _ _
  · refine kat_sorted F N (N.isList hl) (by rw [hvl]; exact h2) (by rw [hvl]; exact h64) fun D e1 h' F' N' hlt => ?_
    have hk : ∀ q ∈ fts, h'.get? q.1 = some q.2 := fun q hq => (N' q (.tail _ (hs q hq))).1
    obtain ⟨ks, k1, k2, k3⟩ := kat_tups_of hF hk
    refine kat_kind (s := { s with heap := h' }) (T := .type "int") (fs := ks) k1 (by rw [k2, hlen]; omega) (fun v hv => by obtain ⟨n, t, rfl⟩ := k3 v hv; exact Looks.of_pure rfl) rfl ?_
    rw [hvl]
    refine sort_ok (r := fun i j => decide (plt (fs.getD i (0, [])) (fs.getD j (0, [])))) ⟨fun a => decide_eq_false (plt_irrefl _), fun a b c h1 h2 => decide_eq_true (plt_trans (of_decide_eq_true h1) (of_decide_eq_true h2)), fun a b ha hb hne h1 => ?_⟩ h2 (fun i j C hi hj _ hC => lt_cts hF rfl hk hi hj hC) fun p hp hr => ?_
    · have h1 := of_decide_eq_false h1
      rw [List.getD_eq_getElem?_getD, List.getD_eq_getElem?_getD, List.getElem?_eq_getElem ha, List.getElem?_eq_getElem hb] at h1 ⊢
      rcases plt_total fs[a] fs[b] with c | c | c
      · exact absurd c h1
      · exfalso
        rcases Nat.lt_or_gt_of_ne hne with q | q
        · exact (List.pairwise_iff_getElem.mp hn) a b ha hb q c
        · exact (List.pairwise_iff_getElem.mp hn) b a hb ha q c.symm
      · exact decide_eq_true c
    · refine KasFin.intro F' N' (.head fun q hq => Nat.ne_of_lt (hlt q hq)) fun h'' c F2 N2 => ?_
      have e : (p.toList.map fun i => (fts.map fun q => Value.ref q.1).getD i Value.none) = (p.toList.map fun i => fts.getD i (0, listOf #[] 0)).map fun q => Value.ref q.1 := by
        rw [List.map_map]
        refine List.map_congr_left fun i hi => ?_
        have hi : i < fts.length := by rw [hlen]; exact perm_lt hp i hi
        show _ = Value.ref (fts.getD i _).1
        rw [List.getD_eq_getElem?_getD, List.getD_eq_getElem?_getD, List.getElem?_map, List.getElem?_eq_getElem hi]; rfl
      rw [e] at N2
      refine h D c h'' (p.toList.map fun i => fts.getD i (0, listOf #[] 0)) (p.toList.map fun i => fs.getD i (0, [])) F2 N2 hlt (fun q hq => ?_) (hF.pick _ _ _ (perm_lt hp)) (rise_pick hp hr _ fun i j _ _ h => of_decide_eq_true h) (perm_mem hp _)
      obtain ⟨i, hi, rfl⟩ := List.mem_map.mp hq
      have hi : i < fts.length := by rw [hlen]; exact perm_lt hp i hi
      rw [List.getD_eq_getElem?_getD, List.getElem?_eq_getElem hi]
      exact List.getElem_mem hi
theorem perm_short {α : Type} {a b : List α} (h : a.Perm b) (h2 : b.length < 2) : a = b := by
  match b, h2 with
  | [], _ => exact List.perm_nil.mp h
  | [x], _ => exact List.perm_singleton.mp h
theorem len_keys {kS : Addr} {Fin : List Value → Nat → Shared → Prop} {rest : List (Addr × Obj)} (hrest : ∀ p ∈ rest, p.1 ≠ kS) : ∀ (r : List Value) (xs : List (List Nat)) (ks : List Value) (zs : List Int) (e : Nat) (s : Shared), StrsAre r (xs.map sl) → (∀ x ∈ xs, x.length ≤ 200) → IntsAre ks zs → Fr h₀ L s.heap m → News h₀ L s.heap ((kS, seqObj "list" (List.toArray ks) e) :: rest) →
    (∀ ks' e' h' tk', IntsAre ks' (zs ++ xs.map fun x => ((x.length : Nat) : Int)) → Fr h₀ L h' m → News h₀ L h' ((kS, seqObj "list" (List.toArray ks') e') :: rest) → Fin ks' e' { s with heap := h', toks := tk' }) →
    KatKeys prog w A h₀ L m kS (.builtin "len") Fin r ks e s
  | _, [], ks, zs, e, s, .nil, _, hz, F, N, h => KatKeys.nil (h ks e s.heap s.toks (by simpa using hz) F N)
  | _, x :: xs, ks, zs, e, s, .cons _ t hS, hx, hz, F, N, h => by
    refine KatKeys.cons (PyProof.Rows.len_str (by have := hx x (.head _); rw [sl_length]; omega) ?_)
    refine KatBack.intro F N (.head hrest) fun h' c F' N' => ?_
    refine len_keys hrest _ xs _ (zs ++ [((x.length : Nat) : Int)]) c _ hS (fun y hy => hx y (.tail _ hy)) ?_ F' N' fun ks' e' h'' tk'' hI F2 N2 => ?_
    · rw [sl_length]; exact IntsAre.snoc hz _ _
    · refine h ks' e' h'' tk'' ?_ F2 N2
      rw [List.append_assoc] at hI
      exact hI
/-- sorted of a rising row of texts by their length, where the first is the shortest -/
theorem sorted_len {l : Addr} {vs : List Value} {xs : List (List Nat)} {Q : Value → Shared → Prop} (F : Fr h₀ L s.heap m) (N : News h₀ L s.heap news) (hl : s.heap.IsList l vs.toArray) (hS : StrsAre vs (xs.map sl)) (hx : ∀ x ∈ xs, x.length ≤ 200) (hr : xs.Pairwise (· < ·)) (h64 : xs.length < 64)
    (h0 : ∀ j, 0 < j → j < xs.length → (xs.getD 0 []).length < (xs.getD j []).length)
    (h : ∀ (D : Addr) (c : Nat) (h' : Heap) (tk : Nat) (gv : List Value) (gs : List (List Nat)), Fr h₀ L h' m → News h₀ L h' ((D, listOf (List.toArray gv) c) :: news) → (∀ q ∈ news, q.1 < D) → StrsAre gv (gs.map sl) → gs.Pairwise lenlt → (∀ x, x ∈ gs ↔ x ∈ xs) → Q (.ref D) { s with heap := h', toks := tk }) :
    wpAny (model prog w) A (call (.builtin "sorted") [.ref l] [(Str.ofString "key", .builtin "len")]) Q E s := by
  have hvl := strs_len hS
  rcases Nat.lt_or_ge vs.length 2 with h2 | h2
  · refine ksk_sorted (b := false) (kz := xs.map fun x => ((x.length : Nat) : Int)) F N hl (by rw [List.length_map, hvl]) (by rw [hvl]; exact h64) (ksk_s1 _ _) (fun _ => ksk_l1 _ _) (fun _ => ksk_t4 _ _) (fun i v k hv hk h' tk own F' N' => ?_) fun D h' tk out c F' N' hlt hO => ?_
    · obtain ⟨hi, t, rfl⟩ := strs_get hS hv
      rw [List.getElem?_map, List.getElem?_eq_getElem hi] at hk
      injection hk with hk
      subst hk
      have := hx _ (List.getElem_mem hi)
      refine PyProof.Rows.len_str (by rw [sl_length]; omega) ?_
      rw [sl_length]
      exact KskEnd.intro F' N' fun _ h => h
    · obtain ⟨ps, hp, ho, _⟩ := hO
      have e : out = vs.toArray := by
        apply Array.toList_inj.mp
        rw [ho]
        have hz : ((xs.map fun x => ((x.length : Nat) : Int)).zip vs).map Prod.snd = vs := List.map_snd_zip (by rw [List.length_map, hvl]; exact Nat.le_refl _)
        have hp2 := hp.map Prod.snd
        rw [hz] at hp2
        exact perm_short hp2 h2
      subst e
      refine h D c h' tk vs xs F' N' hlt hS ?_ fun _ => Iff.rfl
      match xs, hvl with
      | [], _ => exact .nil
      | [x], _ => exact List.pairwise_singleton _ _
      | _ :: _ :: _, hvl => simp at hvl; omega
  · refine kat_sortedK (b := false) F N hl h2 (by rw [hvl]; exact h64) (ksk_s1 _ _) (fun _ => ksk_l1 _ _) (fun _ => ksk_t4 _ _) fun D kS e1 h' F' N' hDk hlt => ?_
    have hoff : ∀ p ∈ (D, seqObj "list" #[] e1) :: news, p.1 ≠ kS := fun p hp => by
      rcases List.mem_cons.mp hp with rfl | hp
      · exact Nat.ne_of_lt hDk
      · exact Nat.ne_of_lt (Nat.lt_trans (hlt p hp) hDk)
    refine len_keys hoff vs xs [] [] 0 _ hS hx .nil F' N' fun ks e h2' tk2 hI F2 N2 => ?_
    rw [List.nil_append] at hI
    have hkl := hI.length
    rw [List.length_map] at hkl
    rw [ksk_kind (keys := List.toArray ks) hI (by rw [List.size_toArray, hkl, ← hvl]; exact h2)]
    refine wpAny_pure ?_
    rw [hvl]
    rw [hvl] at h2
    have gk : ∀ i, i < xs.length → ∃ t, ks.getD i Value.none = .int ((((xs.getD i []).length : Nat)) : Int) t := fun i hi => by
      obtain ⟨hi2, t, e⟩ := ints_get hI (List.getElem?_eq_getElem (by rw [hkl]; exact hi))
      refine ⟨t, ?_⟩
      rw [List.getD_eq_getElem?_getD, List.getElem?_eq_getElem (by rw [hkl]; exact hi), Option.getD_some, e, List.getElem_map, List.getD_eq_getElem?_getD, List.getElem?_eq_getElem hi]; rfl
    have ask : ∀ i j (C : Bool → Shared → Prop) (s : Shared), i < xs.length → j < xs.length → C (decide ((xs.getD i []).length < (xs.getD j []).length)) s → kas_ask prog w A.in1.in1 oneType' (katRev false ks) i j C s := fun i j C s hi hj hC => by
      obtain ⟨t1, e1⟩ := gk i hi
      obtain ⟨t2, e2⟩ := gk j hj
      unfold kas_ask
      rw [show katRev false ks = ks from rfl, e1, e2]
      refine kat_lt_int ?_
      rw [show decide ((((xs.getD i []).length : Nat) : Int) < (((xs.getD j []).length : Nat) : Int)) = decide ((xs.getD i []).length < (xs.getD j []).length) from decide_eq_decide.mpr (by omega)]
      exact hC
    refine sort_ok2 (n := xs.length) (r := fun i j => decide ((xs.getD i []).length < (xs.getD j []).length ∨ ((xs.getD i []).length = (xs.getD j []).length ∧ i < j))) ⟨fun a => decide_eq_false (by omega), fun a b c q1 q2 => ?_, fun a b _ _ hne q => ?_⟩ h2 (fun i j C hi hj hC => ?_) ?_ (fun j C hj hjn hC => ?_) fun p hp hrise => ?_
    · rw [decide_eq_true_iff] at q1 q2 ⊢; omega
    · rw [decide_eq_false_iff_not] at q; rw [decide_eq_true_iff]; omega
    · refine ask i j C _ hi (by omega) ?_
      rw [show decide ((xs.getD i []).length < (xs.getD j []).length) = decide ((xs.getD i []).length < (xs.getD j []).length ∨ ((xs.getD i []).length = (xs.getD j []).length ∧ i < j)) from decide_eq_decide.mpr (by omega)]
      exact hC
    · have := h0 1 (by omega) (by omega)
      exact decide_eq_false (by omega)
    · refine ask 0 j C _ (by omega) hjn ?_
      rw [decide_eq_true (h0 j hj hjn)]
      exact hC
    · refine KatFin.intro F2 N2 (.head hoff) fun h3 c3 F3 N3 => ?_
      refine KasFin.intro F3 N3 (.tail (Nat.ne_of_gt hDk) (.head fun q hq => Nat.ne_of_lt (hlt q hq))) fun h4 c4 F4 N4 => ?_
      refine h D c4 h4 _ _ (p.toList.map fun i => xs.getD i []) F4 (fun q hq => ?_) hlt (strs_pick hS _ (perm_lt hp)) (rise_pick hp hrise _ fun i j hi hj q => ?_) (perm_mem hp _)
      · exact N4 q (by rcases List.mem_cons.mp hq with rfl | hq; exact .tail _ (.head _); exact .tail _ (.tail _ hq))
      · rw [decide_eq_true_iff] at q
        rcases q with q | ⟨q1, q2⟩
        · exact .inl q
        · refine .inr ⟨q1, ?_⟩
          have := (List.pairwise_iff_getElem.mp hr) i j hi hj q2
          rw [List.getD_eq_getElem?_getD, List.getD_eq_getElem?_getD, List.getElem?_eq_getElem hi, List.getElem?_eq_getElem hj]
          exact this
end

end
section
local macro_rules | `(tactic| walk_at "call type:set cons nil") => `(tactic| (k_here; refine Stop.out ?_))
local macro_rules | `(tactic| walk_at "call builtin:sorted") => `(tactic| (k_here; refine Stop.out ?_))
local macro_rules | `(tactic| walk_at "compareOp Eq ref ref") => `(tactic| (k_here; refine Stop.out ?_))
local macro_rules | `(tactic| walk_at "exec For Name Call cons nil") => `(tactic| (k_here; refine Stop.out ?_))
local macro_rules | `(tactic| wtm_at "mem") => `(tactic| first | exact List.Mem.head _ | (refine' List.Mem.tail _ ?_; wtm_at "mem") | (refine' List.mem_append_right _ ?_; wtm_at "mem") | (refine' List.mem_append_left _ ?_; wtm_at "mem"))
local macro_rules | `(tactic| wtm_at "sub") => `(tactic| first
  | exact List.forall_mem_nil _
  | (refine' sub_cons ?a ?b; (case a => wtm_at "mem"); (case b => wtm_at "sub"))
  | (refine' sub_app ?a ?b; (case a => wtm_at "sub"); (case b => wtm_at "sub"))
  | exact fun _ h => h
  | exact fun _ h => List.mem_append_left _ h
  | exact fun _ h => List.mem_append_right _ h
  | exact fun _ h => List.mem_append_left _ (List.mem_append_right _ h)
  | exact fun _ h => List.mem_append_right _ (List.mem_append_right _ h)
  | (refine' sub_skip ?a; (case a => wtm_at "sub"))
  | (refine' sub_right ?a; (case a => wtm_at "sub")))
theorem cells2 {cm : Str → Option Value} {a b : Str × Addr} {cells : List (Addr × Obj)} (Y : CellsAre cm [a, b] cells) : E2 fun o1 o2 => A3 (cells = [(a.2, o1), (b.2, o2)]) (o1.data = .cell (cm a.1)) (o2.data = .cell (cm b.1)) := by
  cases Y with | cons h1 Y => cases Y with | cons h2 Y => cases Y with | nil => exact ⟨_, _, rfl, h1, h2⟩
set_option maxHeartbeats 100000000 in
theorem parted_nil (n : Nat) (p : List Nat) (l : Addr) (vs : List Value) (t : Tok) (hS : StrsAre vs (([] : List (List Nat)).map sl)) :
    Mut Mine.hd1.heap_1 PySem.Challenge.rw_pe0272_01.row.prog 231 (30 * (n + 1)) ⟨[.ref l, .str (sl p) t], []⟩ [] (fun _ h => h.IsList l vs.toArray)
      (fun r S' => E3 fun D tps k => A3 (r = .ref D) (TupsAre tps (part n [] p)) (S' = (D, listOf (tps.map fun q => Value.ref q.1).toArray k) :: tps)) := by
  unfold Mut
  intro w pr loose mean mg mb dp un fr gd s Q E hS' X T hl hdp hun hret
  dsimp only at hret
  w_top off; revert X; k_fill; intro X
  have X0 : (Mine.hd1.heap_1 w.params).In s.heap := X.keeps fun b o e => of_hideAll _ e
  (k_dflt (refine' enterC (args := ⟨_, _⟩) [] ?hS ?kX ?kT ?k6 ?k7 ?k8 ?k9 ?kB ?kn ?_ ?c2 ?c3 ?c4; (case hS => exact List.forall_mem_nil _); (case kX => assumption); (case kT => assumption); (case k6 => k_is); (case k7 => k_is); (case k8 => (dsimp only [Ar]; omega)); (case k9 => first | exact BindsTo.of_eq rfl | exact binds_K (by k_in) rfl (by k_is) rfl rfl rfl | (refine' kp_binds ?kx ?ke; (case kx => k_in); (case ke => exact fun _ => rfl))); (case kB => exact rfl); (case kn => decide); (case c2 => exact rfl); (case c3 => exact rfl); (case c4 => exact rfl); k_whole))
  intro g L' h' tk cells hg F' N' Y X' T' _
  obtain ⟨cF, cW, rfl, hcF, hcW⟩ := cells2 Y
  (try dsimp only)
  dsimp only at N'
  rw [List.append_nil] at N'
  have hkg : s.heap.StaysIn g := fun b o e => hg b o e List.not_mem_nil
  have hlg : g.IsList l vs.toArray := stays_list hkg hl
  (try k_fold)
  k_steps
  unfold Stop
  have Nz := ‹News g L' _ (_ :: _ :: _)›
  have Fz := ‹Fr g L' _ _›
  refine eq_texts (xs := []) (ys := []) (us := []) (stays_list Fz.keep hlg) (Nz.isList (.head _)) hS .nil (fun _ h => nomatch h) (fun _ h => nomatch h) (by (first | exact room3 (by assumption) (by decide) | exact room2 (by assumption) (by decide) | omega | (dsimp only [Ar, Around.deeper]; omega) | (simp only [depth_deeper, units_deeper]; dsimp only [Ar]; omega))) ?_
  rw [decide_eq_true rfl]
  (try k_fold)
  k_steps
  have e1 := Mut.end (S' := [_]) hg ‹Fr g L' _ _› ‹News g L' _ (_ :: _ :: _ :: _)› (fun x hx => by rw [List.mem_singleton.mp hx]; exact .head _)
  exact hret _ _ _ _ e1.1 e1.2 ⟨_, [], _, rfl, (by cases n <;> exact .nil), rfl⟩
set_option maxHeartbeats 100000000 in
theorem parted_mut : ∀ (n : Nat) (ws : List (List Nat)) (p : List Nat) (l : Addr) (vs : List Value) (t : Tok), ws.length ≤ n → n ≤ 12 → StrsAre vs (ws.map sl) → ws.Nodup → (∀ v ∈ ws, (∀ c ∈ v, c < 128) ∧ v.length ≤ 3) → p.length + n ≤ 40 → (∀ c ∈ p, c < 128) →
    Mut Mine.hd1.heap_1 PySem.Challenge.rw_pe0272_01.row.prog 231 (30 * (n + 1)) ⟨[.ref l, .str (sl p) t], []⟩ [] (fun _ h => h.IsList l vs.toArray)
      (fun r S' => E3 fun D tps k => A3 (r = .ref D) (TupsAre tps (part n ws p)) (S' = (D, listOf (tps.map fun q => Value.ref q.1).toArray k) :: tps)) := by
  intro n
  induction n with
  | zero =>
    intro ws p l vs t hlen _ hS _ _ _ _
    obtain rfl : ws = [] := List.length_eq_zero_iff.mp (by omega)
    exact parted_nil 0 p l vs t hS
  | succ n ih =>
  intro ws p l vs t hlen hn hS hnd hok hpl hpc
  cases ws with
  | nil => exact parted_nil (n + 1) p l vs t hS
  | cons v0 rest =>
  unfold Mut
  intro w pr loose mean mg mb dp un fr gd s Q E hS' X T hl hdp hun hret
  dsimp only at hret
  revert X; k_fill; intro X
  have X0 : (Mine.hd1.heap_1 w.params).In s.heap := X.keeps fun b o e => of_hideAll _ e
  (k_dflt (refine' enterC (args := ⟨_, _⟩) [] ?hS ?kX ?kT ?k6 ?k7 ?k8 ?k9 ?kB ?kn ?_ ?c2 ?c3 ?c4; (case hS => exact List.forall_mem_nil _); (case kX => assumption); (case kT => assumption); (case k6 => k_is); (case k7 => k_is); (case k8 => (dsimp only [Ar]; omega)); (case k9 => first | exact BindsTo.of_eq rfl | exact binds_K (by k_in) rfl (by k_is) rfl rfl rfl | (refine' kp_binds ?kx ?ke; (case kx => k_in); (case ke => exact fun _ => rfl))); (case kB => exact rfl); (case kn => decide); (case c2 => exact rfl); (case c3 => exact rfl); (case c4 => exact rfl); k_whole))
  intro g L' h' tk cells hg F' N' Y X' T' _
  obtain ⟨cF, cW, rfl, hcF, hcW⟩ := cells2 Y
  (try dsimp only)
  dsimp only at N'
  rw [List.append_nil] at N'
  have hkg : s.heap.StaysIn g := fun b o e => hg b o e List.not_mem_nil
  have hlg : g.IsList l vs.toArray := stays_list hkg hl
  have hvl := strs_len hS
  have hx1 : ∀ y ∈ v0 :: rest, ∀ c ∈ y, c < 128 := fun y hy => (hok y hy).1
  have hcW1 : cW.data = .cell (some (.ref l)) := hcW
  clear hcW Y
  refine cutO (fun s' => E3 fun u h1 tk1 => A3 (s' = { s with heap := h1, toks := tk1 }) (Fr g L' h1 (mq [(Str.ofString "path", .str (sl p) t)] u)) (News g L' h1 [(L' + 1 + 1, cF), (L' + 1, cW)])) 1 ?_ ?_
  · intro P' hP'; dsimp only [List.take]
    (try k_fold)
    k_steps
    unfold Stop
    have Nz := ‹News g L' _ (_ :: _ :: _)›
    have Fz := ‹Fr g L' _ _›
    refine eq_texts (xs := v0 :: rest) (ys := []) (us := []) (stays_list Fz.keep hlg) (Nz.isList (.head _)) hS .nil hx1 (fun _ h => nomatch h) (by (first | exact room3 (by assumption) (by decide) | exact room2 (by assumption) (by decide) | omega | (dsimp only [Ar, Around.deeper]; omega) | (simp only [depth_deeper, units_deeper]; dsimp only [Ar]; omega))) ?_
    rw [decide_eq_false (by simp)]
    (try k_fold)
    k_steps
    refine hP' _ ?_
    refine' ⟨_, _, _, rfl, ?F, news_sub Nz fun q hq => .tail _ hq⟩
    (case F => wtm_at "frq")
  rintro _ ⟨u1, h1, tk1, rfl, F1, N1⟩
  clear F' N'
  dsimp only [List.drop]
  refine cutO (fun s' => E5 fun u CL cts h1 tk1 => A4 (s' = { s with heap := h1, toks := tk1 }) (Fr g L' h1 (mq [(Str.ofString "path", .str (sl p) t), (Str.ofString "costs", .ref CL)] u)) (News g L' h1 ((CL, LCg.lst (cts.map fun q => Value.ref q.1)) :: (L' + 1 + 1, cF) :: (L' + 1, cW) :: cts)) (CtsAre cts (rest.map fun w => (cost v0 w, w)))) 1 ?_ ?_
  ·
    --{{A
    intro P' hP'; dsimp only [List.take]
    (try k_fold)
    k_steps
    have Fz := ‹Fr g L' _ _›
    have Nz := ‹News g L' _ (_ :: _ :: _)›
    have X2 := X'.keeps Fz.keep
    have T2 := T'.keeps Fz.keep
    have hS1 : StrsAre (vs.drop 1) (rest.map sl) := strs_drop hS 1
    have hS1l := strs_len hS1
    have hl12 : rest.length ≤ 12 := by simp only [List.length_cons] at hlen; omega
    rw [show slicePick vs.toArray (some 1) none none = (vs.drop 1).toArray from slice_tail vs 1] at *
    have hlz := stays_list Fz.keep hlg
    have hc1 := (Nz (L' + 1, cW) (.tail _ (.tail _ (.head _)))).1
    dsimp only at hc1
    refine' CompX.list (items := (vs.drop 1).toArray) (Nz.isList (.head _)) ?hz (fun _ i ys _ nw => ∃ cts, A3 (nw = cts) (ys = cts.map (fun q => Value.ref q.1)) (CtsAre cts ((rest.take i).map fun w => (cost v0 w, w)))) ?h0 ?st (doneS2 Fz Nz rfl rfl ?fin)
    (case hz => rw [sizeLine_eq, List.size_toArray]; omega)
    (case h0 => intro C cells hC hcl; cases hcl; exact ⟨[], rfl, rfl, .nil⟩)
    (case st =>
      intro C i v ys m nw rst h tk hi hJ hv F N hoff
      dsimp only at F N hi
      obtain ⟨cts, rfl, rfl, hC⟩ := hJ
      obtain ⟨hi2, tv, rfl⟩ := strs_get hS1 (by simpa using hv)
      refine cmp_store F (fun h9 F9 hk9 => ?_) rfl rfl
      have N9 := news_but N hk9
      refine wpAny_tests_nil ?_
      simp only [if_true]
      have hl9 : h9.IsList l vs.toArray := stays_list F9.keep hlz
      k_steps
      rw [show (List.map sl (v0 :: rest)).getD (Int.toNat 0) Str.empty = sl v0 from rfl] at *
      have o1 := hok v0 (.head _)
      have o2 := hok rest[i] (.tail _ (List.getElem_mem hi2))
      refine' (lcost_pure v0 rest[i] _ _ o1.1 o2.1 (by omega) (by omega)).use ?F X2 ?N T2 trivial ?rm ?un ?_
      (case F => assumption)
      (case N => assumption)
      (case rm => (first | exact room3 (by assumption) (by decide) | exact room2 (by assumption) (by decide) | omega | (dsimp only [Ar, Around.deeper]; omega) | (simp only [depth_deeper, units_deeper]; dsimp only [Ar]; omega)))
      (case un => (first | exact room3 (by assumption) (by decide) | exact room2 (by assumption) (by decide) | omega | (dsimp only [Ar, Around.deeper]; omega) | (simp only [depth_deeper, units_deeper]; dsimp only [Ar]; omega)))
      rintro _ h8 tk8 F8 N8 hk8 ⟨t8, rfl⟩
      dsimp only
      (try k_fold)
      k_steps
      have l8 := ‹∀ p ∈ nw ++ rst, p.1 < _›
      have N8 := ‹News _ C _ (_ :: (nw ++ rst))›
      refine' ⟨_, _, _, nw ++ [_], rfl, ‹Fr _ C _ _›, news_sub N8 ?sb, ?off, nw ++ [_], rfl, ?ys, ?C⟩
      (case sb => rw [List.append_assoc]; wtm_at "sub")
      (case off =>
        intro q hq r hr
        rcases List.mem_append.mp hq with hq | hq
        · exact hoff q hq r hr
        · rw [List.mem_singleton.mp hq]; exact Nat.ne_of_gt (l8 r (List.mem_append_right _ hr)))
      (case ys => rw [List.map_append]; rfl)
      (case C => rw [map_step _ _ hi2]; exact hC.append (.cons (p := (cost v0 rest[i], rest[i])) .nil)))
    intro D C ys m nw h tk hJ F9 N9 hk9 hD0 _ hlt
    obtain ⟨cts, rfl, rfl, hC⟩ := hJ
    rw [List.take_of_length_le (by rw [List.size_toArray]; omega)] at hC
    (try dsimp only)
    (try k_fold)
    k_steps
    refine hP' _ ?_
    refine' ⟨_, D, nw, _, _, rfl, ?F, news_sub N9 (by wtm_at "sub"), hC⟩
    (case F => wtm_at "frq")
    --}}A
  rintro _ ⟨u2, CL, cts, h2, tk2, rfl, F2, N2, hC⟩
  clear F1 N1
  dsimp only [List.drop]
  refine cutO (fun s' => E6 fun u P k tps h1 tk1 => A4 (s' = { s with heap := h1, toks := tk1 }) (Fr g L' h1 (mq [(Str.ofString "path", .str (sl p) t), (Str.ofString "costs", .ref CL), (Str.ofString "pairs", .ref P)] u)) (News g L' h1 ((P, listOf (tps.map fun q => Value.ref q.1).toArray k) :: (CL, LCg.lst (cts.map fun q => Value.ref q.1)) :: (L' + 1 + 1, cF) :: (L' + 1, cW) :: (cts ++ tps))) (TupsAre tps [(p, v0)])) 1 ?_ ?_
  ·
    --{{B
    intro P' hP'; dsimp only [List.take]
    have hl2 := stays_list F2.keep hlg
    (try k_fold)
    k_steps
    rw [show (List.map sl (v0 :: rest)).getD (Int.toNat 0) Str.empty = sl v0 from rfl] at *
    refine hP' _ ?_
    refine' ⟨_, _, _, [_], _, _, rfl, ?F, news_sub ‹News g L' _ (_ :: _ :: _ :: _)› ?sb, .cons (p := (p, v0)) .nil⟩
    (case F => wtm_at "frq")
    (case sb => wtm_at "sub")
    --}}B
  rintro _ ⟨u3, P, k3, tps3, h3, tk3, rfl, F3, N3, hT3⟩
  clear F2 N2
  dsimp only [List.drop]
  have hs : Small (v0 :: rest) := fun a ha b hb => by
    have h1 := cost_bound a b
    have h2 := (hok a ha).2
    have h3 := (hok b hb).2
    omega
  have hrl : rest.length ≤ n := by simp only [List.length_cons] at hlen; omega
  obtain ⟨hv0, hnr⟩ := List.nodup_cons.mp hnd
  have hsm : ∀ x ∈ rest.map (cost v0), x ∈ smalls := fun x hx => by
    obtain ⟨w1, hw1, rfl⟩ := List.mem_map.mp hx
    exact cost_small (hok v0 (.head _)).2 (hok w1 (.tail _ hw1)).2 fun e => hv0 (e ▸ hw1)
  refine cutO (fun s' => E6 fun u P k tps h1 tk1 => A4 (s' = { s with heap := h1, toks := tk1 }) (Fr g L' h1 (mq [(Str.ofString "pairs", .ref P)] u)) (News g L' h1 ((P, listOf (tps.map fun q => Value.ref q.1).toArray k) :: tps)) (TupsAre tps (part (n + 1) (v0 :: rest) p))) 1 ?_ ?_
  ·
    intro P' hP'; dsimp only [List.take]
    refine wpAny_execs_cons ?_
    refine for_listY (h₀ := g) (L := L') (fun q : Addr × List Value × Nat => q.1) (fun q => q.2.1.toArray)
      (fun q i m nw => E6 fun u P k tps oF vF => A5 (m = mq [(Str.ofString "path", .str (sl p) t), (Str.ofString "costs", .ref CL), (Str.ofString "pairs", .ref P)] u) (nw = (P, listOf (tps.map fun q => Value.ref q.1).toArray k) :: (q.1, listOf q.2.1.toArray q.2.2) :: (CL, LCg.lst (cts.map fun q => Value.ref q.1)) :: (L' + 1 + 1, oF) :: (L' + 1, cW) :: (cts ++ tps)) (IntsAre q.2.1 ((figsOf v0 rest).map Int.ofNat)) (oF.data = .cell vF) (TupsAre tps ((p, v0) :: ((figsOf v0 rest).take i).flatMap fun f => part n (rest.filter fun w => cost v0 w == f) (p ++ [48 + f]))))
      rfl rfl ?h ?hl ?turn ?done
    case h =>
      --{{C
      (try k_fold)
      k_steps
      have hCl := hC.length
      rw [List.length_map] at hCl
      have hk3 : ∀ q ∈ cts, h3.get? q.1 = some q.2 := fun q hq => (N3 q ((by wtm_at "sub" : ∀ q ∈ cts, q ∈ _) q hq)).1
      refine' CompX.list (items := (cts.map fun q => Value.ref q.1).toArray) (N3.isList (a := CL) (by wtm_at "mem")) ?hz (fun _ i ys _ nw => nw = [] ∧ IntsAre ys (((rest.take i).map (cost v0)).map Int.ofNat)) ?h0 ?st (doneL2 F3 N3 ?finC)
      (case hz => rw [sizeLine_eq, List.size_toArray, List.length_map]; omega)
      (case h0 => intro C cells hC hcl; cases hcl; exact ⟨rfl, .nil⟩)
      (case st =>
        intro C i v ys m nw rst h tk hi hJ hv F N hoff
        dsimp only at F N hi
        obtain ⟨rfl, hY⟩ := hJ
        obtain ⟨hi2, T5, tk5, tv5, rfl, hT5⟩ := cts_get hC (fun q hq => F.keep _ _ (hk3 q hq)) (by simpa using hv)
        rw [List.length_map] at hi2
        simp only [List.getElem_map] at hT5
        refine cmp_store2 rfl F hT5 (fun h9 tk9 F9 hk9 => ?_) rfl rfl rfl
        have N9 := news_but N hk9
        refine wpAny_tests_nil ?_
        simp only [if_true]
        k_steps
        refine ⟨_, _, _, [], rfl, F9, N9, fun _ h => (nomatch h), rfl, ?_⟩
        rw [map_step _ _ hi2, List.map_append]
        exact IntsAre.snoc hY _ _)
      intro D C ys m nw h tk hJ F9 N9 hk9 hD0 _ hlt
      obtain ⟨rfl, hY⟩ := hJ
      rw [List.take_of_length_le (by rw [List.size_toArray, List.length_map]; omega)] at hY
      rw [List.nil_append] at N9
      (try dsimp only)
      k_steps
      unfold Stop
      refine set_listN F9 N9 rfl (N9.isList (.head _)) hY hsm fun S5 h5 tk5 o5 F5 N5 hS5 hσ5 hl5 => ?_
      (try dsimp only)
      k_steps
      unfold Stop
      refine sorted_setN F5 N5 rfl (N5 _ (.head _)).1 hS5 hσ5 fun D6 h6 tk6 vs6 n6 F6 N6 hl6 hI6 => ?_
      (try dsimp only)
      k_steps
      rw [figs_fold hs hσ5] at hI6
      unfold Hit2
      exact ⟨(D6, vs6, n6), _, _, _, _, rfl, rfl, F6, news_sub N6 (by wtm_at "sub"), u3, P, k3, tps3, cF, _, rfl, rfl, hI6, hcF, hT3⟩
      --}}C
    case hl =>
      rintro q i m nw h ⟨u, P, k, tps, oF, vF, rfl, rfl, hI, _⟩ F N
      exact N.isList (.tail _ (.head _))
    case done =>
      rintro q m nw h tk ⟨u, P, k, tps, oF, vF, rfl, rfl, hI, hF, hT⟩ F N
      dsimp only
      have hIl := hI.length
      rw [List.length_map] at hIl
      rw [List.take_of_length_le (by rw [List.size_toArray, hIl]; exact Nat.le_refl _)] at hT
      (try k_fold)
      k_steps
      refine hP' _ ?_
      refine' ⟨_, P, k, tps, _, _, rfl, ?F, news_sub N (by wtm_at "sub"), hT⟩
      (case F => wtm_at "frq")
    case turn =>
      --{{D
      rintro q i v m nw It o h tk hv ⟨u, P, kP, tps, oF, vF, rfl, rfl, hI, hF, hT⟩ hfr Ft Nt
      obtain ⟨hi, tf, rfl⟩ := ints_small hI (by simpa using hv)
      obtain ⟨DF, fs, kf⟩ := q
      dsimp only at hv hI hfr Nt ⊢
      have hCT : ∀ x ∈ cts ++ tps, x.2.cls = .type "tuple" ∧ E2 fun xs n => x.2.data = .seq xs n := fun x hx => (List.mem_append.mp hx).elim (hC.isTup x) (hT.isTup x)
      have nF := tup_off Nt hCT (by wtm_at "sub") (a := L' + 1 + 1) (by wtm_at "mem") (.inr ⟨_, hF⟩)
      have i1 := ne_cell Nt (a := P) (b := L' + 1 + 1) (by wtm_at "mem") rfl (by wtm_at "mem") hF
      have i2 := ne_cell Nt (a := DF) (b := L' + 1 + 1) (by wtm_at "mem") rfl (by wtm_at "mem") hF
      have i3 := ne_cell Nt (a := CL) (b := L' + 1 + 1) (by wtm_at "mem") rfl (by wtm_at "mem") hF
      have i4 := neN (hfr (L' + 1 + 1, oF) (by wtm_at "mem"))
      dsimp only at i4
      have hfm := (figs_mem hs).mp (List.getElem_mem hi)
      generalize hf : (figsOf v0 rest)[i] = f at hfm ⊢
      have hf10 : f < 10 := by
        obtain ⟨w1, hw1, e⟩ := hfm
        rw [← e]; exact hs _ (.head _) _ (.tail _ hw1)
      refine wpAny_mono (Q := fun _ s' => Hit (fun s' => E4 fun u oF h1 tk1 => A4 (s' = { s with heap := h1, toks := tk1 }) (Fr g L' h1 (mq [(Str.ofString "path", .str (sl p) t), (Str.ofString "costs", .ref CL), (Str.ofString "pairs", .ref P)] u)) (oF.data = .cell (some (.int (f : Nat) tf))) (News g L' h1 ((It, o) :: (P, listOf (tps.map fun q => Value.ref q.1).toArray kP) :: (DF, listOf fs.toArray kf) :: (CL, LCg.lst (cts.map fun q => Value.ref q.1)) :: (L' + 1 + 1, oF) :: (L' + 1, cW) :: (cts ++ tps)))) s') ?asg (fun _ s' hs' => ?_) (fun _ _ x => x)
      · k_steps
        unfold Hit
        refine' ⟨_, _, _, _, rfl, ?F, ‹Obj.data _ = Data.cell (some (Value.int ((f : Nat) : Int) tf))›, ‹News g L' _ _›⟩
        (case F => assumption)
      obtain ⟨u1, oF1, h1, tk1, rfl, G1, hF1, M1⟩ := hs'
      clear Ft Nt hF
      (try k_fold)
      k_steps
      have hCl := hC.length
      rw [List.length_map] at hCl
      have X2 := X'.keeps G1.keep
      have T2 := T'.keeps G1.keep
      have hk3 : ∀ q ∈ cts, h1.get? q.1 = some q.2 := fun q hq => (M1 q ((by wtm_at "sub" : ∀ q ∈ cts, q ∈ _) q hq)).1
      have hc1 := (M1 (L' + 1 + 1, oF1) (by wtm_at "mem")).1
      dsimp only at hc1
      refine' CompX.list (items := (cts.map fun q => Value.ref q.1).toArray) (M1.isList (a := CL) (by wtm_at "mem")) ?hzD (fun _ i ys _ nw => nw = [] ∧ StrsAre ys (((rest.take i).filter fun w => cost v0 w == f).map sl)) ?h0D ?stD (doneL2 G1 M1 ?finD)
      (case hzD => rw [sizeLine_eq, List.size_toArray, List.length_map]; omega)
      (case h0D => intro C cells hC hcl; cases hcl; exact ⟨rfl, .nil⟩)
      (case stD =>
        intro C j v ys m nw rst h tk hj hJ hv F N hoff
        dsimp only at F N hj
        obtain ⟨rfl, hY⟩ := hJ
        obtain ⟨hj2, T5, tk5, tv5, rfl, hT5⟩ := cts_get hC (fun q hq => F.keep _ _ (hk3 q hq)) (by simpa using hv)
        rw [List.length_map] at hj2
        simp only [List.getElem_map] at hT5
        refine cmp_store2 rfl F hT5 (fun h9 tk9 F9 hk9 => ?_) rfl rfl rfl
        have N9 := news_but N hk9
        refine wpAny_tests_one ?_
        k_steps
        · have e := ‹((cost v0 rest[j] : Nat) : Int) = (f : Int)›
          refine ⟨_, _, _, [], rfl, F9, N9, fun _ h => (nomatch h), rfl, ?_⟩
          rw [filt_yes _ _ hj2 (by simpa using Int.ofNat.inj e), List.map_append]
          exact StrsAre.snoc hY _ _
        · have e := ‹((cost v0 rest[j] : Nat) : Int) ≠ (f : Int)›
          refine ⟨_, _, _, [], rfl, F9, N9, fun _ h => (nomatch h), rfl, ?_⟩
          rw [filt_no _ _ hj2 (by simpa using fun e' : cost v0 rest[j] = f => e (congrArg Int.ofNat e'))]
          exact hY)
      intro D C ys m nw h tk hJ F9 N9 hk9 hD0 _ hlt
      obtain ⟨rfl, hY⟩ := hJ
      rw [List.take_of_length_le (by rw [List.size_toArray, List.length_map]; omega)] at hY
      rw [List.nil_append] at N9
      have hdg : Str.ofString (toString ((f : Nat) : Int)) = sl [48 + f] := dig_sl f hf10
      have hdl : (Str.ofString (toString ((f : Nat) : Int))).length = 1 := by rw [hdg, sl_length]; rfl
      have hpsl : (sl p).length = p.length := sl_length _
      (try dsimp only)
      k_steps
      have hpq : sl p ++ Str.ofString (toString ((f : Nat) : Int)) = sl (p ++ [48 + f]) := by rw [hdg, sl_append]
      rw [hpq]
      have hfl : (rest.filter fun w => cost v0 w == f).length ≤ n := filt_len hrl
      refine' (ih (rest.filter fun w => cost v0 w == f) (p ++ [48 + f]) D ys _ hfl (by omega) hY (hnr.filter _) (fun x hx => hok x (.tail _ (List.mem_filter.mp hx).1)) (by simp only [List.length_append, List.length_cons, List.length_nil]; omega) (fun c hc => by
        rcases List.mem_append.mp hc with hc | hc
        · exact hpc c hc
        · rw [List.mem_singleton.mp hc]; omega)).use2 _ ‹Fr g L' _ _› X' N9 T' (fun _ h => nomatch h) (fun q hq => ⟨hq, List.not_mem_nil⟩) (N9.isList (.head _)) ?rm ?un ?_
      (case rm => dsimp only [Ar, Around.deeper]; omega)
      (case un => dsimp only [Ar]; omega)
      rintro _ h8 tk8 S8 F8 N8 hk8 hnew ⟨D2, tps2, k2, rfl, hT2, rfl⟩
      (try dsimp only)
      have hIt : ∀ q ∈ tps2, q.1 ≠ It := fun q hq => by
        rcases hnew q (.tail _ hq) with c | c
        · exact absurd c List.not_mem_nil
        · exact fun e => c (It, o) (by wtm_at "mem") e.symm
      rw [List.cons_append] at N8
      have hlt8 := Heap.lt_size (N8 (It, o) (by wtm_at "mem")).1
      dsimp only at hlt8
      refine add_arrays F8 N8 (N8.isList (a := P) (by wtm_at "mem")) (N8.isList (a := D2) (by wtm_at "mem")) (fun h9 F9 N9' => ?_) (hsz := ?hsz)
      case hsz =>
        have q1 := hT.length
        have q2 := hT2.length
        have q3 := part_take n v0 rest p i
        have q4 := part_count n (rest.filter fun w => cost v0 w == f) (p ++ [48 + f])
        rw [List.length_cons] at q1
        rw [List.size_toArray, List.size_toArray, List.length_map, List.length_map, sizeLine_eq]
        omega
      rw [show ((tps.map fun q => Value.ref q.1).toArray.toList ++ (tps2.map fun q => Value.ref q.1).toArray.toList).toArray = ((tps ++ tps2).map fun q => Value.ref q.1).toArray from by simp] at N9'
      dsimp only at F9 N9'
      generalize h8.objs.size = D3 at hlt8 F9 N9' ⊢
      k_steps
      refine' ⟨_, _, _, _, rfl, ?F, news_sub ‹News g L' _ _› ?sb, ?fr, _, D3, 0, tps ++ tps2, oF1, _, rfl, rfl, hI, hF1, ?T⟩
      (case F => wtm_at "frq")
      (case sb => wtm_at "sub")
      (case fr =>
        intro q hq
        rcases List.mem_cons.mp hq with rfl | hq
        · exact Nat.ne_of_gt hlt8
        rcases List.mem_cons.mp hq with rfl | hq
        · exact hfr _ (by wtm_at "mem")
        rcases List.mem_cons.mp hq with rfl | hq
        · exact hfr (CL, _) (by wtm_at "mem")
        rcases List.mem_cons.mp hq with rfl | hq
        · exact i4
        rcases List.mem_cons.mp hq with rfl | hq
        · exact hfr (L' + 1, cW) (by wtm_at "mem")
        rcases List.mem_append.mp hq with hq | hq
        · exact hfr q ((by wtm_at "sub" : ∀ q ∈ cts, q ∈ _) q hq)
        rcases List.mem_append.mp hq with hq | hq
        · exact hfr q ((by wtm_at "sub" : ∀ q ∈ tps, q ∈ _) q hq)
        · exact hIt q hq)
      (case T =>
        rw [List.take_add_one, List.getElem?_eq_getElem hi, hf, Option.toList_some, List.flatMap_append, ← List.cons_append]
        rw [show ([f].flatMap fun f => part n (rest.filter fun w => cost v0 w == f) (p ++ [48 + f])) = part n (rest.filter fun w => cost v0 w == f) (p ++ [48 + f]) from by simp]
        exact hT.append hT2)
      --}}D
  rintro _ ⟨u4, P4, k4, tps4, h4, tk4, rfl, F4, N4, hT4⟩
  dsimp only [List.drop]
  (try k_fold)
  k_steps
  have e1 := Mut.end (S' := (P4, listOf (tps4.map fun q => Value.ref q.1).toArray k4) :: tps4) hg ‹Fr g L' _ _› ‹News g L' _ _› (fun x hx => hx)
  exact hret _ _ _ _ e1.1 e1.2 ⟨_, tps4, _, rfl, hT4, rfl⟩

end
section
local macro_rules | `(tactic| walk_at "zz") => `(tactic| skip)
local macro_rules | `(tactic| walk_at "compareOp NotEq ref ref") => `(tactic| (k_here; refine Stop.out ?_))
local macro_rules | `(tactic| walk_at "call builtin:list.append") => `(tactic| (k_here; refine Stop.out ?_))
local macro_rules | `(tactic| walk_at "call builtin:list.pop") => `(tactic| (k_here; refine Stop.out ?_))
local macro_rules | `(tactic| walk_at "exec If") => `(tactic| (k_here; refine Stop.out ?_))
local macro_rules | `(tactic| wtm_at "mem") => `(tactic| first | exact List.Mem.head _ | (refine' List.Mem.tail _ ?_; wtm_at "mem") | (refine' List.mem_append_right _ ?_; wtm_at "mem") | (refine' List.mem_append_left _ ?_; wtm_at "mem"))
local macro_rules | `(tactic| wtm_at "sub") => `(tactic| first
  | exact List.forall_mem_nil _
  | (refine' sub_cons ?a ?b; (case a => wtm_at "mem"); (case b => wtm_at "sub"))
  | (refine' sub_app ?a ?b; (case a => wtm_at "sub"); (case b => wtm_at "sub"))
  | exact fun _ h => h
  | exact fun _ h => List.mem_append_left _ h
  | exact fun _ h => List.mem_append_right _ h
  | exact fun _ h => List.mem_append_left _ (List.mem_append_right _ h)
  | exact fun _ h => List.mem_append_right _ (List.mem_append_right _ h)
  | (refine' sub_skip ?a; (case a => wtm_at "sub"))
  | (refine' sub_right ?a; (case a => wtm_at "sub")))
/-- where the search stands: asked, ahead, found -/
noncomputable def SInv (wd : List Nat) (rad : Nat) (W : List (List Nat)) (dn ah : List (List (List Nat) × List Nat)) (hv av : List Value) (fts : List (Addr × Obj)) (fs : List (Nat × List Nat)) : Prop :=
  QAt wd rad W dn ah ∧ (∀ g ∈ ah, GOk W g) ∧ dn.length + sizeG ah ≤ W.length ∧ StrsAre hv ((ah.map (·.2)).map sl) ∧ StrsAre av ((dn.map (·.2)).map sl) ∧ CtsAre fts fs ∧ fs.Pairwise plt ∧ FoundAt wd rad dn fs ∧ fs.length ≤ dn.length
theorem SInv.start (wd : List Nat) (rad : Nat) {W : List (List Nat)} (hW : W ≠ []) (t : Tok) : SInv wd rad W [] [(W, [114])] [.str (sl [114]) t] [] [] [] :=
  ⟨QAt.start wd rad W hW, fun g hg => by rw [List.mem_singleton.mp hg]; exact ⟨.refl, hW⟩, by simp [sizeG], .cons _ _ .nil, .nil, .nil, .nil, FoundAt.start wd rad, Nat.le_refl _⟩
set_option maxHeartbeats 100000000 in
theorem search_mut (I dI l r : Addr) (tvs : List Value) (rv : List Value) (W : List (List Nat)) (wd : List Nat) (rad : Nat) (t tr : Tok) (hW : W ≠ []) (hn : W.Nodup) (hs : Small W) (hlen : W.length ≤ 12) (hok : ∀ v ∈ W, (∀ c ∈ v, c < 128) ∧ v.length ≤ 3)
    (hwd : (∀ c ∈ wd, c < 128) ∧ wd.length ≤ 3) (hrad : rad ≤ 3) (hR : StrsAre rv ((rowOf W).map sl)) :
    Mut Mine.hd1.heap_1 PySem.Challenge.rw_pe0272_01.row.prog 243 40 ⟨[.ref I, .ref r, .str (sl wd) t, .int (rad : Nat) tr], []⟩ [] (fun _ h => TabG 212 h I dI l tvs (tabOf W) ∧ h.IsList r rv.toArray)
      (fun r' S' => E10 fun T A D kt ka kd av fts dn fs => A7 (r' = .ref T) (QAt wd rad W dn []) (StrsAre av ((dn.map (·.2)).map sl)) (CtsAre fts fs) (fs.Pairwise plt) (FoundAt wd rad dn fs) (S' = (T, { cls := .type "tuple", data := .seq #[.ref A, .ref D] kt }) :: (A, listOf av.toArray ka) :: (D, listOf (fts.map fun q => Value.ref q.1).toArray kd) :: fts)) := by
  unfold Mut
  intro w pr loose mean mg mb dp un fr gd s Q E hS' X T ⟨⟨hsh, t₁, n₁, hI, hdI, hl, hP⟩, hr⟩ hdp hun hret
  dsimp only at hret
  w_top off; revert X; k_fill; intro X
  have X0 : (Mine.hd1.heap_1 w.params).In s.heap := X.keeps fun b o e => of_hideAll _ e
  (k_dflt (refine' enterC (args := ⟨_, _⟩) [] ?hS ?kX ?kT ?k6 ?k7 ?k8 ?k9 ?kB ?kn ?_ ?c2 ?c3 ?c4; (case hS => exact List.forall_mem_nil _); (case kX => assumption); (case kT => assumption); (case k6 => k_is); (case k7 => k_is); (case k8 => (dsimp only [Ar]; omega)); (case k9 => first | exact BindsTo.of_eq rfl | exact binds_K (by k_in) rfl (by k_is) rfl rfl rfl | (refine' kp_binds ?kx ?ke; (case kx => k_in); (case ke => exact fun _ => rfl))); (case kB => exact rfl); (case kn => decide); (case c2 => exact rfl); (case c3 => exact rfl); (case c4 => exact rfl); k_whole))
  intro g L' h' tk cells hg F' N' Y X' T' _
  obtain ⟨cP, rfl, hcP⟩ := Y.one
  (try dsimp only)
  (try dsimp only at N')
  rw [List.append_nil] at N'
  have hkg : s.heap.StaysIn g := fun b o e => hg b o e List.not_mem_nil
  have hlg := stays_list hkg hl
  have hrg := stays_list hkg hr
  have hIg := hkg _ _ hI
  have hdIg := hkg _ _ hdI
  have hPg := hP.keeps hkg
  have er : Str.ofString "r" = sl [114] := by decide +kernel
  refine cutO (fun s' => E8 fun u A D H ta th h1 tk1 => A6 (s' = { s with heap := h1, toks := tk1 }) (Fr g L' h1 (mq [(Str.ofString "table", .ref I), (Str.ofString "row", .ref r), (Str.ofString "wanted", .str (sl wd) t), (Str.ofString "radius", .int (rad : Nat) tr), (Str.ofString "asked", .ref A), (Str.ofString "found", .ref D), (Str.ofString "ahead", .ref H)] u)) (News g L' h1 [(H, listOf #[.str (sl [114]) th] ta), (D, listOf #[] 0), (A, listOf #[] 0), (L' + 1, cP)]) (A < D) (D < H) (L' + 1 < A)) 3 ?_ ?_
  ·
    --{{A
    intro P' hP'; dsimp only [List.take]
    (try k_fold)
    k_steps
    have q3 := ‹_ < _ ∧ _ < _ ∧ L' + 1 < _›
    have q2 := ‹_ < _ ∧ L' + 1 < _›
    refine hP' _ ?_
    rw [er] at *
    refine' ⟨_, _, _, _, _, _, _, _, rfl, ?F, ‹News g L' _ (_ :: _ :: _ :: _)›, q2.1, q3.1, ‹L' + 1 < _›⟩
    (case F => wtm_at "frq")
    --}}A
  rintro _ ⟨u1, A, D, H0, ta, th, h1, tk1, rfl, F1, N1, lAD, lDH, lA⟩
  clear F' N'
  dsimp only [List.drop]
  have dAD : A ≠ D := Nat.ne_of_lt lAD
  have dHA0 : H0 ≠ A := Nat.ne_of_gt (Nat.lt_trans lAD lDH)
  have dHD0 : H0 ≠ D := Nat.ne_of_gt lDH
  refine cutO (fun s' => E9 fun u ka kd av fts dn fs h1 tk1 => A8 (s' = { s with heap := h1, toks := tk1 }) (Fr g L' h1 (mq [(Str.ofString "asked", .ref A), (Str.ofString "found", .ref D)] u)) (News g L' h1 ((A, listOf av.toArray ka) :: (D, listOf (fts.map fun q => Value.ref q.1).toArray kd) :: fts)) (QAt wd rad W dn []) (StrsAre av ((dn.map (·.2)).map sl)) (CtsAre fts fs) (fs.Pairwise plt) (FoundAt wd rad dn fs)) 1 ?_ ?_
  · intro P' hP'; dsimp only [List.take]
    refine wpAny_execs_cons ?_
    refine While_inv3 (fun n' m nw => E13 fun u oP vP H ka kd kh hv av fts fs dn ah => A7 (m = mq [(Str.ofString "table", .ref I), (Str.ofString "row", .ref r), (Str.ofString "wanted", .str (sl wd) t), (Str.ofString "radius", .int (rad : Nat) tr), (Str.ofString "asked", .ref A), (Str.ofString "found", .ref D), (Str.ofString "ahead", .ref H)] u) (nw = (H, listOf hv.toArray kh) :: (D, listOf (fts.map fun q => Value.ref q.1).toArray kd) :: (A, listOf av.toArray ka) :: (L' + 1, oP) :: fts) (oP.data = .cell vP) (SInv wd rad W dn ah hv av fts fs) (H ≠ A) (H ≠ D) (n' = sizeG ah)) F1 N1
      ⟨u1, cP, _, H0, 0, 0, ta, _, [], [], [], [], [(W, [114])], rfl, rfl, hcP, SInv.start wd rad hW th, dHA0, dHD0, rfl⟩ ?_
    rintro n' m₁ nw h₁ tk₁ F₁ N₁ ⟨u2, oP, vP, H, ka, kd, kh, hv, av, fts, fs, dn, ah, rfl, rfl, hoP, hSI, dHA, dHD, rfl⟩
    clear F1 N1 dHA0 dHD0
    obtain ⟨hQ, hGO, hsz, hHV, hAV, hFT, hFS, hFA, hfl⟩ := hSI
    cases ah with
    | nil =>
      --{{B
      (try k_fold)
      k_steps
      unfold Stop
      have Nz := ‹News g L' _ _›
      refine ne_texts (xs := []) (ys := []) (us := []) (Nz.isList (a := H) (by wtm_at "mem")) (Nz.isList (.head _)) hHV .nil (fun _ h => nomatch h) (fun _ h => nomatch h) (by (first | exact room3 (by assumption) (by decide) | exact room2 (by assumption) (by decide) | omega | (dsimp only [Ar, Around.deeper]; omega) | (simp only [depth_deeper, units_deeper]; dsimp only [Ar]; omega))) ?_
      simp only [decide_true, Bool.not_true]
      (try k_fold)
      k_steps
      refine hP' _ ?_
      refine' ⟨_, ka, kd, av, fts, dn, fs, _, _, rfl, ?F, news_sub Nz (by wtm_at "sub"), hQ, hAV, hFT, hFS, hFA⟩
      (case F => wtm_at "frq")
      --}}B
    | cons gr ah =>
      --{{C
      obtain ⟨c0, q⟩ := gr
      have hg0 := hGO _ (.head _)
      cases c0 with
      | nil => exact absurd rfl hg0.2
      | cons v cur =>
      have hG : Grp W [114] (v :: cur) q := hg0.1
      obtain ⟨hvW, hpv⟩ := hG.at_head hn
      have hql : q.length ≤ 13 := by rw [← hpv]; have := path_len W v; omega
      have hqL := hG.like hn hs
      have hq1 : ∀ c ∈ q, c < 128 := fun c hc => by have := hqL.ok c hc; omega
      have hq2 : q.length ≤ 200 := by omega
      have hvo := hok v hvW
      have hc6 : cost wd v ≤ 6 := by have := cost_bound wd v; omega
      (try k_fold)
      k_steps
      unfold Stop
      have Nz := ‹News g L' _ _›
      have hlk : ∀ y ∈ ((v :: cur, q) :: ah).map (·.2), PathLike y := fun y hy => by
        obtain ⟨x, hx, rfl⟩ := List.mem_map.mp hy
        exact (hGO x hx).like hn hs
      refine ne_texts (xs := ((v :: cur, q) :: ah).map (·.2)) (ys := []) (us := []) (Nz.isList (a := H) (by wtm_at "mem")) (Nz.isList (.head _)) hHV .nil (fun y hy c hc => by have := (hlk y hy).ok c hc; omega) (fun _ h => nomatch h) (by (first | exact room3 (by assumption) (by decide) | exact room2 (by assumption) (by decide) | omega | (dsimp only [Ar, Around.deeper]; omega) | (simp only [depth_deeper, units_deeper]; dsimp only [Ar]; omega))) ?_
      rw [decide_eq_false (by simp)]
      simp only [Bool.not_false]
      (try k_fold)
      k_steps
      unfold Stop
      have hal : ah.length ≤ 12 := by
        have h1 := size_ge (W := W) (l := (v :: cur, q) :: ah) hGO
        rw [List.length_cons] at h1; omega
      obtain ⟨tq, hv', rfl, hHV'⟩ : E2 fun tq hv' => hv = .str (sl q) tq :: hv' ∧ StrsAre hv' ((ah.map (·.2)).map sl) := by
        cases hHV with
        | cons _ t h => exact ⟨t, _, rfl, h⟩
      have hvl := strs_len hHV'
      rw [List.length_map] at hvl
      obtain ⟨lq1, lq2, lq3, lq4, lq5⟩ := ‹H < _ ∧ D < _ ∧ A < _ ∧ L' + 1 < _ ∧ AllLt _ fts›
      have nH := tup_off Nz hFT.isTup (by wtm_at "sub") (a := H) (by wtm_at "mem") (.inl rfl)
      have nA := tup_off Nz hFT.isTup (by wtm_at "sub") (a := A) (by wtm_at "mem") (.inl rfl)
      have nD := tup_off Nz hFT.isTup (by wtm_at "sub") (a := D) (by wtm_at "mem") (.inl rfl)
      have nP := tup_off Nz hFT.isTup (by wtm_at "sub") (a := L' + 1) (by wtm_at "mem") (.inr ⟨_, hoP⟩)
      have i1 := ne_cell Nz (a := H) (b := L' + 1) (by wtm_at "mem") rfl (by wtm_at "mem") hoP
      have i2 := ne_cell Nz (a := A) (b := L' + 1) (by wtm_at "mem") rfl (by wtm_at "mem") hoP
      have i3 := ne_cell Nz (a := D) (b := L' + 1) (by wtm_at "mem") rfl (by wtm_at "mem") hoP
      have i4 := neN dHA
      have i5 := neN dHD
      have i6 := neN dAD
      replace Nz := news_sub Nz (n₂ := (H, listOf (Value.str (sl q) tq :: hv').toArray kh) :: (D, listOf (fts.map fun q => Value.ref q.1).toArray kd) :: (A, listOf av.toArray ka) :: (L' + 1, oP) :: fts) (by wtm_at "sub")
      refine' kl_popAt (n := kh) (its := (Value.str (sl q) tq :: hv').toArray) (k := 0) (p := []) (q := hv') (y := .str (sl q) tq) ‹Fr g L' _ _› Nz rfl ?sx rfl ?U ?z ?_
      (case sx => simp [seqIndex?])
      (case U => k_upd)
      (case z => show (Value.str (sl q) tq :: hv').length ≤ _; rw [List.length_cons, sizeLine_eq]; omega)
      intro h2 F2 N2
      dsimp only [List.nil_append] at N2
      (try clear Nz)
      k_steps
      have hx2 := up_like hqL
      have htl : (tabOf W).length ≤ 100 := by unfold tabOf; rw [List.length_map]; omega
      have htp : ∀ p ∈ tabOf W, (∀ c ∈ p.1, c < 128) ∧ p.1.length ≤ 200 := fun p hp => by
        obtain ⟨x, hx, rfl⟩ := List.mem_map.mp hp
        have h1 := (path_like hs hx).ok
        have h2 := path_len W x
        exact ⟨fun c hc => by have := h1 c hc; omega, by show (pathIn W.length W [114] x).length ≤ 200; omega⟩
      have Fz := ‹Fr g L' _ _›
      have Nz := ‹News g L' _ _›
      refine' (getitem_pure I dI l tvs (tabOf W) (q.map upc) _ (by rw [List.length_map]; omega) hx2 htl htp).use Fz X' Nz T' ⟨hsh, t₁, n₁, Fz.keep _ _ hIg, Fz.keep _ _ hdIg, stays_list Fz.keep hlg, hPg.keeps Fz.keep⟩ ?rm1 ?un1 ?_
      (case rm1 => (first | exact room3 (by assumption) (by decide) | exact room2 (by assumption) (by decide) | omega | (dsimp only [Ar, Around.deeper]; omega) | (simp only [depth_deeper, units_deeper]; dsimp only [Ar]; omega)))
      (case un1 => (first | exact room3 (by assumption) (by decide) | exact room2 (by assumption) (by decide) | omega | (dsimp only [Ar, Around.deeper]; omega) | (simp only [depth_deeper, units_deeper]; dsimp only [Ar]; omega)))
      rintro r5 h5 tk5 F5 N5 hk5 hr5
      obtain ⟨t5, rfl⟩ := hr5.1 _ (hG.find hn hs)
      dsimp only
      (try k_fold)
      k_steps
      refine' (lev_pure wd v t t5 _ hwd.1 hvo.1 (by omega) (by omega)).use ‹Fr g L' _ _› X' ‹News g L' _ _› T' trivial ?rm2 ?un2 ?_
      (case rm2 => (first | exact room3 (by assumption) (by decide) | exact room2 (by assumption) (by decide) | omega | (dsimp only [Ar, Around.deeper]; omega) | (simp only [depth_deeper, units_deeper]; dsimp only [Ar]; omega)))
      (case un2 => (first | exact room3 (by assumption) (by decide) | exact room2 (by assumption) (by decide) | omega | (dsimp only [Ar, Around.deeper]; omega) | (simp only [depth_deeper, units_deeper]; dsimp only [Ar]; omega)))
      rintro _ h6 tk6 F6 N6 hk6 ⟨t6, rfl⟩
      dsimp only
      (try k_fold)
      k_steps
      unfold Stop
      have hdP := ‹Obj.data _ = Data.cell (some (Value.str (sl q) tq))›
      have hAl := strs_len hAV
      rw [List.length_map] at hAl
      have hsz2 : dn.length ≤ 12 := by omega
      refine' append_K ‹Fr g L' _ _› ‹News g L' _ _› ?U7 ?_ ?z7
      (case U7 => k_upd)
      (case z7 => rw [List.size_toArray, sizeLine_eq]; omega)
      intro h7 F7 N7
      rw [List.push_toArray] at N7
      have hAV7 := StrsAre.snoc hAV (sl q) tq
      rw [show (dn.map (·.2)).map sl ++ [sl q] = ((dn ++ [(v :: cur, q)]).map (·.2)).map sl from by simp] at hAV7
      have hSz7 : (dn ++ [(v :: cur, q)]).length + sizeG (ah ++ kidsOf wd rad (v :: cur, q)) ≤ W.length ∧ sizeG (ah ++ kidsOf wd rad (v :: cur, q)) < sizeG ((v :: cur, q) :: ah) := by
        have h1 := kids_size wd rad v cur q
        have h2 := sizeG_append ah (kidsOf wd rad (v :: cur, q))
        have h3 : sizeG ((v :: cur, q) :: ah) = (cur.length + 1) + sizeG ah := by simp [sizeG]
        rw [List.length_append, List.length_cons, List.length_nil]
        omega
      (try k_fold)
      k_steps
      unfold Stop
      refine wpAny_mono (Q := fun fl s' => Hit (fun s' => fl = .next ∧ E7 fun u oQ kd fts fs h1 tk1 => A8 (s' = { s with heap := h1, toks := tk1 }) (Fr g L' h1 (mq [(Str.ofString "table", .ref I), (Str.ofString "row", .ref r), (Str.ofString "wanted", .str (sl wd) t), (Str.ofString "radius", .int (rad : Nat) tr), (Str.ofString "asked", .ref A), (Str.ofString "found", .ref D), (Str.ofString "ahead", .ref H), (Str.ofString "far", .int (cost wd v : Nat) t6)] u)) (News g L' h1 ((H, listOf hv'.toArray (kh + 1)) :: (D, listOf (fts.map fun q => Value.ref q.1).toArray kd) :: (A, listOf (av ++ [Value.str (sl q) tq]).toArray (ka + 1)) :: (L' + 1, oQ) :: fts)) (oQ.data = .cell (some (.str (sl q) tq))) (CtsAre fts fs) (fs.Pairwise plt) (FoundAt wd rad (dn ++ [(v :: cur, q)]) fs) (fs.length ≤ dn.length + 1)) s') ?iff (fun fl s' hs' => ?_) (fun _ _ x => x)
      · refine wpAny_If ?_
        --{{D
        (try k_fold)
        k_steps
        · have hle := ‹((cost wd v : Nat) : Int) ≤ ((rad : Nat) : Int)›
          have hle' : cost wd v ≤ rad := by omega
          have Ny := ‹News g L' _ ((_, ({ cls := .type "tuple", data := _ } : Obj)) :: _)›
          obtain ⟨lt1, lt2, lt3, lt4, lt5⟩ := ‹H < _ ∧ D < _ ∧ A < _ ∧ L' + 1 < _ ∧ AllLt _ fts›
          have nx : (cost wd v, q) ∉ fs := hFA.new hs hQ _
          have hfl2 := hFT.length
          refine' (ins_tup D fts kd fs _ (cost wd v, q) t6 tq 0 (by omega) hFT hFS).use2 ((_, _) :: (H, listOf hv'.toArray (kh + 1)) :: (A, listOf (av ++ [Value.str (sl q) tq]).toArray (ka + 1)) :: (L' + 1, _) :: fts) ‹Fr g L' _ _› X' Ny T' ?hS ?hr ⟨(Ny _ (.head _)).1, news_at Ny (by wtm_at "sub")⟩ ?rm ?un ?_
          (case hS => wtm_at "sub")
          (case hr =>
            intro x hx
            refine ⟨?_, ?_⟩
            · revert x hx; wtm_at "sub"
            · rw [List.map_cons, List.map_nil, List.mem_singleton]
              rcases List.mem_cons.mp hx with rfl | hx
              · exact Nat.ne_of_gt lt2
              rcases List.mem_cons.mp hx with rfl | hx
              · exact dHD
              rcases List.mem_cons.mp hx with rfl | hx
              · exact dAD
              rcases List.mem_cons.mp hx with rfl | hx
              · exact i3.symm
              · exact nD x hx)
          (case rm => (first | exact room3 (by assumption) (by decide) | exact room2 (by assumption) (by decide) | omega | (dsimp only [Ar, Around.deeper]; omega) | (simp only [depth_deeper, units_deeper]; dsimp only [Ar]; omega)))
          (case un => (first | exact room3 (by assumption) (by decide) | exact room2 (by assumption) (by decide) | omega | (dsimp only [Ar, Around.deeper]; omega) | (simp only [depth_deeper, units_deeper]; dsimp only [Ar]; omega)))
          rintro _ h9 tk9 S9 F9 N9 hk9 hnew ⟨k9, n9, rfl, hA9, rfl⟩
          dsimp only
          (try k_fold)
          k_steps
          rw [List.length_map, hfl2] at hA9
          rw [show ((fts.map fun q => Value.ref q.1).take k9 ++ Value.ref _ :: (fts.map fun q => Value.ref q.1).drop k9) = ((fts.take k9 ++ (_, { cls := .type "tuple", data := .seq #[.int ((cost wd v : Nat) : Int) t6, .str (sl q) tq] 0 }) :: fts.drop k9).map fun q => Value.ref q.1) from by rw [List.map_append, List.map_cons, List.map_take, List.map_drop]] at N9
          unfold Hit
          refine' ⟨rfl, _, _, n9, _, fs.take k9 ++ (cost wd v, q) :: fs.drop k9, _, _, rfl, ?F, news_sub N9 ?sb, hdP, (hFT.take k9).append (.cons (p := (cost wd v, q)) (hFT.drop k9)), plt_ins hFS nx hA9, hFA.near hle' k9, ?ln⟩
          (case F => wtm_at "frq")
          (case sb =>
            refine sub_cons (by wtm_at "mem") (sub_cons (.head _) (sub_cons (by wtm_at "mem") (sub_cons (by wtm_at "mem") (sub_app ?_ (sub_cons (by wtm_at "mem") ?_)))))
            · exact fun x hx => (by wtm_at "sub" : ∀ x ∈ fts, x ∈ _) x (List.mem_of_mem_take hx)
            · exact fun x hx => (by wtm_at "sub" : ∀ x ∈ fts, x ∈ _) x (List.mem_of_mem_drop hx))
          (case ln =>
            have := hA9.2.1
            rw [List.length_append, List.length_cons, List.length_take, List.length_drop]; omega)
        · unfold Hit
          refine' ⟨rfl, _, _, kd, fts, fs, _, _, rfl, ?F, N7, hdP, hFT, hFS, hFA.far (by omega), Nat.le_succ_of_le hfl⟩
          (case F => wtm_at "frq")
        --}}D
      obtain ⟨rfl, u8, oQ, kd8, fts8, fs8, h8, tk8, rfl, F8, N8, hoQ, hFT8, hFS8, hFA8, hfl8⟩ := hs'
      clear F7 N7
      have hd1 : Str.ofString (toString (if (0 : Int) > ((cost wd v : Nat) : Int) - ((rad : Nat) : Int) then (0 : Int) else ((cost wd v : Nat) : Int) - ((rad : Nat) : Int))) = sl [48 + (cost wd v - rad)] := dig_i (by omega) (by split <;> omega)
      have hd2 : Str.ofString (toString (((cost wd v : Nat) : Int) + ((rad : Nat) : Int))) = sl [48 + (cost wd v + rad)] := dig_i (by omega) (by omega)
      have hl1 : (Str.ofString (toString (if (0 : Int) > ((cost wd v : Nat) : Int) - ((rad : Nat) : Int) then (0 : Int) else ((cost wd v : Nat) : Int) - ((rad : Nat) : Int)))).length = 1 := by rw [hd1, sl_length]; rfl
      have hl2 : (Str.ofString (toString (((cost wd v : Nat) : Int) + ((rad : Nat) : Int)))).length = 1 := by rw [hd2, sl_length]; rfl
      have hlq : (sl q).length = q.length := sl_length _
      have et : Str.ofString "~" = sl [126] := by decide +kernel
      have hlt : (Str.ofString "~").length = 1 := by rw [et, sl_length]; rfl
      dsimp only
      (try k_fold)
      k_steps
      --{{E
      have hL1 : PathLike (q ++ [48 + (cost wd v - rad)]) := fun c hc => by
        rcases List.mem_append.mp hc with hc | hc
        · exact hqL c hc
        · rw [List.mem_singleton.mp hc]; right; omega
      have hrise := row_rising hn hs
      have hsrt := rise_srt hrise
      have hrl2 : (rowOf W).length ≤ 12 := by
        have : (rowOf W).length = (part W.length W [114]).length := List.length_map _
        rw [this]; exact Nat.le_trans (part_count _ _ _) hlen
      have hrvl := strs_len hR
      rw [show sl q ++ Str.ofString (toString (if (0 : Int) > ((cost wd v : Nat) : Int) - ((rad : Nat) : Int) then (0 : Int) else ((cost wd v : Nat) : Int) - ((rad : Nat) : Int))) = sl (q ++ [48 + (cost wd v - rad)]) from by rw [hd1, sl_append]]
      have Fz := ‹Fr g L' _ _›
      refine' (bl_pure2 r rv (rowOf W) (q ++ [48 + (cost wd v - rad)]) _ (by omega) hR hsrt).use Fz X' ‹News g L' _ _› T' (stays_list Fz.keep hrg) ?rm3 ?un3 ?_
      (case rm3 => (first | exact room3 (by assumption) (by decide) | exact room2 (by assumption) (by decide) | omega | (dsimp only [Ar, Around.deeper]; omega) | (simp only [depth_deeper, units_deeper]; dsimp only [Ar]; omega)))
      (case un3 => (first | exact room3 (by assumption) (by decide) | exact room2 (by assumption) (by decide) | omega | (dsimp only [Ar, Around.deeper]; omega) | (simp only [depth_deeper, units_deeper]; dsimp only [Ar]; omega)))
      rintro _ h10 tk10 F10 N10 hk10 ⟨lo, t10, rfl, hA10⟩
      dsimp only
      clear Fz
      (try k_fold)
      k_steps
      rw [show sl q ++ Str.ofString (toString (((cost wd v : Nat) : Int) + ((rad : Nat) : Int))) ++ Str.ofString "~" = sl ((q ++ [48 + (cost wd v + rad)]) ++ [126]) from by rw [hd2, et, sl_append, sl_append]]
      have Fz := ‹Fr g L' _ _›
      refine' (bl_pure3 r rv (rowOf W) ((q ++ [48 + (cost wd v + rad)]) ++ [126]) _ t10 lo hA10.2.1 (by omega) hR hsrt).use Fz X' ‹News g L' _ _› T' (stays_list Fz.keep hrg) ?rm4 ?un4 ?_
      (case rm4 => (first | exact room3 (by assumption) (by decide) | exact room2 (by assumption) (by decide) | omega | (dsimp only [Ar, Around.deeper]; omega) | (simp only [depth_deeper, units_deeper]; dsimp only [Ar]; omega)))
      (case un4 => (first | exact room3 (by assumption) (by decide) | exact room2 (by assumption) (by decide) | omega | (dsimp only [Ar, Around.deeper]; omega) | (simp only [depth_deeper, units_deeper]; dsimp only [Ar]; omega)))
      rintro _ h11 tk11 F11 N11 hk11 ⟨hi, t11, rfl, hA11⟩
      dsimp only
      clear Fz
      have hb1 := hA11.1
      have hb2 := hA11.2.1
      (try k_fold)
      k_steps
      have Fz := ‹Fr g L' _ _›
      have Nz := ‹News g L' _ (_ :: (H, _) :: _)›
      rw [slice_mid rv lo hi hb1 (by omega)] at Nz
      have X2 := X'.keeps Fz.keep
      have T2 := T'.keeps Fz.keep
      have hc1 := (Nz (L' + 1, oQ) (by wtm_at "mem")).1
      dsimp only at hc1
      have hRS : StrsAre ((rv.drop lo).take (hi - lo)) ((((rowOf W).drop lo).take (hi - lo)).map sl) := by
        rw [List.map_take, List.map_drop]; exact strs_take (strs_drop hR lo) (hi - lo)
      have hRl := strs_len hRS
      have hys : ∀ y ∈ ((rowOf W).drop lo).take (hi - lo), y.length ≤ 13 := fun y hy => by
        obtain ⟨x, hx, rfl⟩ := (row_mem hn hs y).mp (List.mem_of_mem_drop (List.mem_of_mem_take hy))
        have := path_len W x; omega
      have hKD := slice_kids hG hn hs wd rad hA10 hA11
      generalize ((rowOf W).drop lo).take (hi - lo) = ys0 at hRS hRl hys hKD
      have hyl0 : ys0.length ≤ 12 := by rw [← hRl, List.length_take, List.length_drop]; omega
      refine' CompX.list (items := ((rv.drop lo).take (hi - lo)).toArray) (Nz.isList (.head _)) ?hzE (fun _ i ys _ nw => nw = [] ∧ StrsAre ys (((ys0.take i).filter fun y => y.length == q.length + 1).map sl)) ?h0E ?stE (doneL2 Fz Nz ?finE)
      (case hzE => exact hz_le (by omega))
      (case h0E => intro C cells hC hcl; cases hcl; exact ⟨rfl, .nil⟩)
      (case stE =>
        intro C j v' ys m nw rst h tk hj hJ hv F N hoff
        dsimp only at F N hj
        obtain ⟨rfl, hY⟩ := hJ
        obtain ⟨hj2, tv5, rfl⟩ := strs_get hRS (by simpa using hv)
        refine cmp_store F (fun h9 F9 hk9 => ?_) rfl rfl
        have N9 := news_but N hk9
        have hyl : (sl ys0[j]).length = ys0[j].length := sl_length _
        have hyl2 := hys _ (List.getElem_mem hj2)
        refine wpAny_tests_one ?_
        k_steps
        · have e := ‹(((sl ys0[j]).length : Nat) : Int) = (((sl q).length : Nat) : Int) + 1›
          have e2 : ys0[j].length = q.length + 1 := by omega
          refine ⟨_, _, _, [], rfl, F9, N9, fun _ h => (nomatch h), rfl, ?_⟩
          rw [filt_yes _ _ hj2 (by simpa using e2), List.map_append]
          exact StrsAre.snoc hY _ _
        · have e := ‹(((sl ys0[j]).length : Nat) : Int) ≠ (((sl q).length : Nat) : Int) + 1›
          have e2 : ¬ ys0[j].length = q.length + 1 := by omega
          refine ⟨_, _, _, [], rfl, F9, N9, fun _ h => (nomatch h), rfl, ?_⟩
          rw [filt_no _ _ hj2 (by simpa using e2)]
          exact hY)
      intro D9 C ys m nw h tk hJ F9 N9 hk9 hD0 _ hlt9
      obtain ⟨rfl, hY⟩ := hJ
      rw [List.take_of_length_le (by rw [List.size_toArray]; omega), hKD] at hY
      rw [List.nil_append] at N9
      (try dsimp only)
      (try k_fold)
      k_steps
      have hlH := Heap.lt_size (N9 (H, _) (by wtm_at "mem")).1
      have hlA := Heap.lt_size (N9 (A, _) (by wtm_at "mem")).1
      have hlD := Heap.lt_size (N9 (D, _) (by wtm_at "mem")).1
      dsimp only at hlH hlA hlD
      have hyl9 : ys.length ≤ 12 := by
        have h1 := strs_len hY
        have h2 := size_ge (W := W) (l := kidsOf wd rad (v :: cur, q)) (hg0.kids hs wd rad)
        have h3 := kids_size wd rad v cur q
        have h4 : sizeG ((v :: cur, q) :: ah) = (cur.length + 1) + sizeG ah := by simp [sizeG]
        rw [List.length_map] at h1; omega
      refine add_arrays F9 N9 (N9.isList (a := H) (by wtm_at "mem")) (N9.isList (.head _)) (fun h12 F12 N12 => ?_) (hsz := by rw [List.size_toArray, List.size_toArray, sizeLine_eq]; omega)
      rw [show (hv'.toArray.toList ++ ys.toArray.toList).toArray = (hv' ++ ys).toArray from rfl] at N12
      dsimp only at F12 N12
      generalize h.objs.size = H12 at hlH hlA hlD F12 N12 ⊢
      k_steps
      refine' ⟨_, _, _, _, sizeG (ah ++ kidsOf wd rad (v :: cur, q)), rfl, ?F, news_sub ‹News g L' _ _› ?sb, hSz7.2, _, oQ, _, H12, ka + 1, kd8, 0, hv' ++ ys, av ++ [Value.str (sl q) tq], fts8, fs8, dn ++ [(v :: cur, q)], ah ++ kidsOf wd rad (v :: cur, q), rfl, rfl, hoQ,
        ⟨hQ.step hs, ?go, hSz7.1, ?hv, hAV7, hFT8, hFS8, hFA8, ?ln⟩, Nat.ne_of_gt hlA, Nat.ne_of_gt hlD, rfl⟩
      (case F => wtm_at "frq")
      (case sb => wtm_at "sub")
      (case go =>
        intro x hx
        rcases List.mem_append.mp hx with hx | hx
        · exact hGO x (.tail _ hx)
        · exact hg0.kids hs wd rad x hx)
      (case hv => rw [List.map_append, List.map_append]; exact strs_append hHV' hY)
      (case ln => rw [List.length_append]; exact hfl8)
      --}}E
      --}}C
  rintro _ ⟨u3, ka, kd, av, fts, dn, fs, h3, tk3, rfl, F3, N3, hQ, hAV, hFT, hFS, hFA⟩
  clear F1 N1
  dsimp only [List.drop]
  (try k_fold)
  k_steps
  have Nz := ‹News g L' _ _›
  have e1 := Mut.end (S' := (_, _) :: (A, listOf av.toArray ka) :: (D, listOf (fts.map fun q => Value.ref q.1).toArray kd) :: fts) hg ‹Fr g L' _ _› Nz (fun x hx => hx)
  exact hret _ _ _ _ e1.1 e1.2 ⟨_, A, D, _, ka, kd, av, fts, dn, fs, rfl, hQ, hAV, hFT, hFS, hFA, rfl⟩

end
section
local macro_rules | `(tactic| walk_at "compareOp NotEq ref ref") => `(tactic| (k_here; refine Stop.out ?_))
local macro_rules | `(tactic| walk_at "compareOp Eq ref ref") => `(tactic| (k_here; refine Stop.out ?_))
local macro_rules | `(tactic| walk_at "compareOp NotIn str ref") => `(tactic| (k_here; refine Stop.out ?_))
local macro_rules | `(tactic| walk_at "subscriptTail") => `(tactic| (k_here; (with_reducible show wpAny _ _ (subscriptTail _ _ (Value.ref _) (Value.str _ _)) _ _ _); refine Stop.out ?_))
local macro_rules | `(tactic| walk_at "call type:int") => `(tactic| (k_here; (with_reducible show wpAny _ _ (call (Value.type "int") [Value.str _ _]) _ _ _); refine Stop.out ?_))
local macro_rules | `(tactic| walk_at "call builtin:sorted") => `(tactic| (k_here; refine Stop.out ?_))
local macro_rules | `(tactic| walk_at "eval DictComp") => `(tactic| (k_here; k_dflt (refine' dictComp ?c ?k ?n rfl ?_; (case c => with_unfolding_all rfl); (case k => exact rfl); (case n => decide))))
local macro_rules | `(tactic| wtm_at "mem") => `(tactic| first | exact List.Mem.head _ | (refine' List.Mem.tail _ ?_; wtm_at "mem") | (refine' List.mem_append_right _ ?_; wtm_at "mem") | (refine' List.mem_append_left _ ?_; wtm_at "mem"))
local macro_rules | `(tactic| wtm_at "sub") => `(tactic| first
  | exact List.forall_mem_nil _
  | (refine' sub_cons ?a ?b; (case a => wtm_at "mem"); (case b => wtm_at "sub"))
  | (refine' sub_app ?a ?b; (case a => wtm_at "sub"); (case b => wtm_at "sub"))
  | exact fun _ h => h
  | exact fun _ h => List.mem_append_left _ h
  | exact fun _ h => List.mem_append_right _ h
  | exact fun _ h => List.mem_append_left _ (List.mem_append_right _ h)
  | exact fun _ h => List.mem_append_right _ (List.mem_append_right _ h)
  | exact fun _ h => List.mem_append_left _ (List.mem_append_left _ h)
  | (refine' sub_skip ?a; (case a => wtm_at "sub"))
  | (refine' sub_right ?a; (case a => wtm_at "sub")))
noncomputable def figs1 (ns : List Int) : List Int := ns.take 4 ++ [34, 5, 9, 50, 0, 139]
noncomputable def wrds (ns : List Int) : List (List Nat) := (figs1 ns).map fun x => wordOf (x % 256).toNat
theorem wrds_len (ns : List Int) : 6 ≤ (wrds ns).length ∧ (wrds ns).length ≤ 10 := by simp [wrds, figs1]; omega
theorem wrds_ok (ns : List Int) : ∀ y ∈ wrds ns, (∀ c ∈ y, 32 ≤ c ∧ c < 127) ∧ y.length ≤ 3 := fun y hy => by
  obtain ⟨x, _, rfl⟩ := List.mem_map.mp hy
  exact word_ok _
theorem small_of {W : List (List Nat)} (h : ∀ y ∈ W, (∀ c ∈ y, 32 ≤ c ∧ c < 127) ∧ y.length ≤ 3) : Small W := fun a ha b hb => by
  have h1 := cost_bound a b
  have h2 := (h a ha).2
  have h3 := (h b hb).2
  omega
noncomputable def drN (ns : List Int) : Nat := ((ns.map fun x => x % 1024).sum + 538).toNat
theorem drN_eq (ns : List Int) : ((ns.map fun x => x.fmod 1024).sum + 538) = ((drN ns : Nat) : Int) := by
  have e : (ns.map fun x : Int => x.fmod 1024) = ns.map fun x => x % 1024 := List.map_congr_left fun x _ => Int.fmod_eq_emod_of_nonneg _ (by decide)
  have h0 : ∀ l : List Int, 0 ≤ (l.map fun x => x % 1024).sum := fun l => by
    induction l with
    | nil => exact Int.le_refl _
    | cons x l ih => rw [List.map_cons, List.sum_cons]; have := Int.emod_nonneg x (b := 1024) (by decide); omega
  rw [e]
  unfold drN
  have := h0 ns
  omega
theorem rad_eq (d : Nat) : (((d : Nat) : Int).fdiv 256).fmod 4 = ((d / 256 % 4 : Nat) : Int) := by
  rw [Int.fdiv_eq_ediv_of_nonneg _ (by decide), Int.fmod_eq_emod_of_nonneg _ (by decide)]; omega
noncomputable def nearL (wd : List Nat) (rad : Nat) (P : List (List Nat × List Nat)) : List (Nat × List Nat) := (P.filter fun e => decide (cost wd e.2 ≤ rad)).map fun e => (cost wd e.2, e.1)
theorem abs_bad {f c rad : Nat} : ((rad : Int) < if (f : Int) - (c : Int) < 0 then -((f : Int) - (c : Int)) else (f : Int) - (c : Int)) ↔ ¬ (f ≤ c + rad ∧ c ≤ f + rad) := by split <;> omega
theorem range_bad {p : Nat → Bool} {j : Nat} (h : p (j + 1) = true) : ((List.range (j + 1)).filter fun k => p (k + 1)) = ((List.range j).filter fun k => p (k + 1)) ++ [j] := by
  rw [List.range_succ, List.filter_append]
  simp [h]
theorem range_ok {p : Nat → Bool} {j : Nat} (h : p (j + 1) = false) : ((List.range (j + 1)).filter fun k => p (k + 1)) = (List.range j).filter fun k => p (k + 1) := by
  rw [List.range_succ, List.filter_append]
  simp [h]
noncomputable def prt (W : List (List Nat)) : List (List Nat × List Nat) := part W.length W [114]
noncomputable def pth (W : List (List Nat)) (v : List Nat) : List Nat := pathIn W.length W [114] v
/-- a ledger under a name -/
theorem hideL {h₀ h : Heap} {L : Addr} {news : List (Addr × Obj)} (N : News h₀ L h news) : ∃ TL, TL = news ∧ News h₀ L h TL := ⟨_, rfl, N⟩
theorem hideTT {h₀ h : Heap} {L : Addr} {a b : Addr × Obj} {news : List (Addr × Obj)} (N : News h₀ L h (a :: b :: news)) : ∃ TL, TL = news ∧ News h₀ L h (a :: b :: TL) := ⟨_, rfl, N⟩
theorem hideT {h₀ h : Heap} {L : Addr} {a : Addr × Obj} {news : List (Addr × Obj)} (N : News h₀ L h (a :: news)) : ∃ TL, TL = news ∧ News h₀ L h (a :: TL) := ⟨_, rfl, N⟩
inductive PV1_0 (g : Heap) (L' : Addr) (a : Addr) (cK : Obj) (cR : Obj) (cW : Obj) (cP : Obj) (ns : List Int) (s : Shared) : Shared → Prop
  | mk (u : Str → Option Value) (DA : Addr) (ws : List Value) (nA : Nat) (oD : Obj) (h1 : Heap) (tk1 : Nat) (_ : Fr g L' h1 (mq [(Str.ofString "script", .ref a)] u)) (_ : News g L' h1 [(DA, listOf ws.toArray nA), (L' + 1 + 1 + 1 + 1 + 1, cK), (L' + 1 + 1 + 1 + 1, cR), (L' + 1 + 1 + 1, cW), (L' + 1 + 1, cP), (L' + 1, oD)]) (_ : StrsAre ws ((wrds ns).map sl)) (_ : oD.data = .cell (some (.ref DA))) (_ : L' + 1 + 1 + 1 + 1 + 1 < DA) : PV1_0 g L' a cK cR cW cP ns s { s with heap := h1, toks := tk1 }
inductive PV1_1 (g : Heap) (L' : Addr) (a : Addr) (DA : Addr) (ws : List Value) (nA : Nat) (cK : Obj) (cR : Obj) (cW : Obj) (cP : Obj) (oD : Obj) (s : Shared) : Shared → Prop
  | mk (u : Str → Option Value) (I : Addr) (dI : Addr) (l : Addr) (R : Addr) (n₁ : Nat) (n₂ : Nat) (nR : Nat) (hsh : Int) (th : Tok) (h1 : Heap) (tk1 : Nat) (_ : Fr g L' h1 (mq [(Str.ofString "script", .ref a), (Str.ofString "table", .ref I), (Str.ofString "row", .ref R)] u)) (_ : News g L' h1 ((l, listOf #[] n₂) :: (R, listOf #[] nR) :: (I, instObj 212 dI) :: (dI, PySem.W.dictOf [⟨hsh, .str (Str.ofString "_headers") th, .ref l⟩] n₁) :: (DA, listOf ws.toArray nA) :: [(L' + 1 + 1 + 1 + 1 + 1, cK), (L' + 1 + 1 + 1 + 1, cR), (L' + 1 + 1 + 1, cW), (L' + 1 + 1, cP), (L' + 1, oD)])) (_ : DA < dI) (_ : dI < I) (_ : I < l) (_ : l < R) : PV1_1 g L' a DA ws nA cK cR cW cP oD s { s with heap := h1, toks := tk1 }
inductive PV1_2 (g : Heap) (L' : Addr) (a : Addr) (I : Addr) (R : Addr) (l : Addr) (dI : Addr) (hsh : Int) (th : Tok) (n₁ : Nat) (DA : Addr) (ws : List Value) (nA : Nat) (cK : Obj) (cR : Obj) (cW : Obj) (cP : Obj) (oD : Obj) (ns : List Int) (s : Shared) : Shared → Prop
  | mk (u : Str → Option Value) (n : Nat) (k : Nat) (rv : List Value) (tps : List (Addr × Obj)) (h1 : Heap) (tk1 : Nat) (_ : Fr g L' h1 (mq [(Str.ofString "script", .ref a), (Str.ofString "table", .ref I), (Str.ofString "row", .ref R)] u)) (_ : News g L' h1 ((l, listOf (tps.map fun q => Value.ref q.1).toArray n) :: (R, listOf rv.toArray k) :: (I, instObj 212 dI) :: (dI, PySem.W.dictOf [⟨hsh, .str (Str.ofString "_headers") th, .ref l⟩] n₁) :: (DA, listOf ws.toArray nA) :: (L' + 1 + 1 + 1 + 1 + 1, cK) :: (L' + 1 + 1 + 1 + 1, cR) :: (L' + 1 + 1 + 1, cW) :: (L' + 1 + 1, cP) :: (L' + 1, oD) :: tps)) (_ : TupsAre tps (tabOf (dd (wrds ns)))) (_ : StrsAre rv ((rowOf (dd (wrds ns))).map sl)) : PV1_2 g L' a I R l dI hsh th n₁ DA ws nA cK cR cW cP oD ns s { s with heap := h1, toks := tk1 }
inductive PV1_3 (g : Heap) (L' : Addr) (a : Addr) (I : Addr) (R : Addr) (l : Addr) (tps : List (Addr × Obj)) (nl : Nat) (rv : List Value) (kR : Nat) (dI : Addr) (hsh : Int) (th : Tok) (n₁ : Nat) (cK : Obj) (cR : Obj) (cW : Obj) (cP : Obj) (ns : List Int) (DA : Addr) (s : Shared) : Shared → Prop
  | mk (u : Str → Option Value) (DO : Addr) (os : List Value) (kO : Nat) (h1 : Heap) (tk1 : Nat) (_ : Fr g L' h1 (mq [(Str.ofString "script", .ref a), (Str.ofString "table", .ref I), (Str.ofString "row", .ref R), (Str.ofString "once", .ref DO)] u)) (_ : News g L' h1 ((DO, listOf os.toArray kO) :: (l, listOf (tps.map fun q => Value.ref q.1).toArray nl) :: (R, listOf rv.toArray kR) :: (I, instObj 212 dI) :: (dI, PySem.W.dictOf [⟨hsh, .str (Str.ofString "_headers") th, .ref l⟩] n₁) :: (L' + 1 + 1 + 1 + 1 + 1, cK) :: (L' + 1 + 1 + 1 + 1, cR) :: (L' + 1 + 1 + 1, cW) :: (L' + 1 + 1, cP) :: tps)) (_ : StrsAre os ((dd (wrds ns)).map sl)) (_ : DA < DO) : PV1_3 g L' a I R l tps nl rv kR dI hsh th n₁ cK cR cW cP ns DA s { s with heap := h1, toks := tk1 }
inductive PV1_4 (g : Heap) (L' : Addr) (a : Addr) (I : Addr) (R : Addr) (DO : Addr) (os : List Value) (kO : Nat) (l : Addr) (tps : List (Addr × Obj)) (nl : Nat) (rv : List Value) (kR : Nat) (dI : Addr) (hsh : Int) (th : Tok) (n₁ : Nat) (cK : Obj) (cR : Obj) (cW : Obj) (cP : Obj) (W : List (List Nat)) (s : Shared) : Shared → Prop
  | mk (u : Str → Option Value) (DU : Addr) (kU : Nat) (dtp : List (Addr × Obj)) (h1 : Heap) (tk1 : Nat) (_ : Fr g L' h1 (mq [(Str.ofString "script", .ref a), (Str.ofString "table", .ref I), (Str.ofString "row", .ref R), (Str.ofString "once", .ref DO), (Str.ofString "due", .ref DU)] u)) (_ : News g L' h1 ((DU, listOf (dtp.map fun q => Value.ref q.1).toArray kU) :: (DO, listOf os.toArray kO) :: (l, listOf (tps.map fun q => Value.ref q.1).toArray nl) :: (R, listOf rv.toArray kR) :: (I, instObj 212 dI) :: (dI, PySem.W.dictOf [⟨hsh, .str (Str.ofString "_headers") th, .ref l⟩] n₁) :: (L' + 1 + 1 + 1 + 1 + 1, cK) :: (L' + 1 + 1 + 1 + 1, cR) :: (L' + 1 + 1 + 1, cW) :: (L' + 1 + 1, cP) :: (tps ++ dtp))) (_ : TupsAre dtp (prt W)) : PV1_4 g L' a I R DO os kO l tps nl rv kR dI hsh th n₁ cK cR cW cP W s { s with heap := h1, toks := tk1 }
inductive PV1_5 (g : Heap) (L' : Addr) (a : Addr) (I : Addr) (R : Addr) (DO : Addr) (DU : Addr) (dtp : List (Addr × Obj)) (kU : Nat) (os : List Value) (kO : Nat) (l : Addr) (tps : List (Addr × Obj)) (nl : Nat) (rv : List Value) (kR : Nat) (dI : Addr) (hsh : Int) (th : Tok) (n₁ : Nat) (cK : Obj) (cR : Obj) (cW : Obj) (w : World) (W : List (List Nat)) (s : Shared) : Shared → Prop
  | mk (u : Str → Option Value) (DP : Addr) (oDP : Obj) (kvs : List (Str × Value)) (oP : Obj) (h1 : Heap) (tk1 : Nat) (_ : Fr g L' h1 (mq [(Str.ofString "script", .ref a), (Str.ofString "table", .ref I), (Str.ofString "row", .ref R), (Str.ofString "once", .ref DO), (Str.ofString "due", .ref DU)] u)) (_ : News g L' h1 ((DP, oDP) :: (DU, listOf (dtp.map fun q => Value.ref q.1).toArray kU) :: (DO, listOf os.toArray kO) :: (l, listOf (tps.map fun q => Value.ref q.1).toArray nl) :: (R, listOf rv.toArray kR) :: (I, instObj 212 dI) :: (dI, PySem.W.dictOf [⟨hsh, .str (Str.ofString "_headers") th, .ref l⟩] n₁) :: (L' + 1 + 1 + 1 + 1 + 1, cK) :: (L' + 1 + 1 + 1 + 1, cR) :: (L' + 1 + 1 + 1, cW) :: (L' + 1 + 1, oP) :: (tps ++ dtp))) (_ : oP.data = .cell (some (.ref DP))) (_ : oDP.IsDictOf (PySem.strKind PySem.Challenge.rw_pe0272_01.row.prog w) kvs) (_ : ∀ v ∈ W, ∃ t, valueAt kvs (sl v) = some (.str (sl (pth W v)) t)) : PV1_5 g L' a I R DO DU dtp kU os kO l tps nl rv kR dI hsh th n₁ cK cR cW w W s { s with heap := h1, toks := tk1 }
inductive PV1_6 (g : Heap) (L' : Addr) (a : Addr) (I : Addr) (R : Addr) (DU : Addr) (dtp : List (Addr × Obj)) (kU : Nat) (l : Addr) (tps : List (Addr × Obj)) (nl : Nat) (rv : List Value) (kR : Nat) (dI : Addr) (hsh : Int) (th : Tok) (n₁ : Nat) (cK : Obj) (cR : Obj) (cW : Obj) (s : Shared) : Shared → Prop
  | mk (u : Str → Option Value) (h1 : Heap) (tk1 : Nat) (_ : Fr g L' h1 (mq [(Str.ofString "script", .ref a), (Str.ofString "table", .ref I), (Str.ofString "row", .ref R), (Str.ofString "due", .ref DU)] u)) (_ : News g L' h1 ((DU, listOf (dtp.map fun q => Value.ref q.1).toArray kU) :: (l, listOf (tps.map fun q => Value.ref q.1).toArray nl) :: (R, listOf rv.toArray kR) :: (I, instObj 212 dI) :: (dI, PySem.W.dictOf [⟨hsh, .str (Str.ofString "_headers") th, .ref l⟩] n₁) :: (L' + 1 + 1 + 1 + 1 + 1, cK) :: (L' + 1 + 1 + 1 + 1, cR) :: (L' + 1 + 1 + 1, cW) :: (tps ++ dtp))) : PV1_6 g L' a I R DU dtp kU l tps nl rv kR dI hsh th n₁ cK cR cW s { s with heap := h1, toks := tk1 }
inductive PV1_7 (g : Heap) (L' : Addr) (a : Addr) (I : Addr) (R : Addr) (DU : Addr) (dtp : List (Addr × Obj)) (kU : Nat) (l : Addr) (tps : List (Addr × Obj)) (nl : Nat) (rv : List Value) (kR : Nat) (dI : Addr) (hsh : Int) (th : Tok) (n₁ : Nat) (cK : Obj) (cR : Obj) (cW : Obj) (s : Shared) : Shared → Prop
  | mk (u : Str → Option Value) (h1 : Heap) (tk1 : Nat) (_ : Fr g L' h1 (mq [(Str.ofString "script", .ref a), (Str.ofString "table", .ref I), (Str.ofString "row", .ref R), (Str.ofString "due", .ref DU)] u)) (_ : News g L' h1 ((DU, listOf (dtp.map fun q => Value.ref q.1).toArray kU) :: (l, listOf (tps.map fun q => Value.ref q.1).toArray nl) :: (R, listOf rv.toArray kR) :: (I, instObj 212 dI) :: (dI, PySem.W.dictOf [⟨hsh, .str (Str.ofString "_headers") th, .ref l⟩] n₁) :: (L' + 1 + 1 + 1 + 1 + 1, cK) :: (L' + 1 + 1 + 1 + 1, cR) :: (L' + 1 + 1 + 1, cW) :: (tps ++ dtp))) : PV1_7 g L' a I R DU dtp kU l tps nl rv kR dI hsh th n₁ cK cR cW s { s with heap := h1, toks := tk1 }
inductive PV1_8 (g : Heap) (L' : Addr) (I : Addr) (R : Addr) (DU : Addr) (dtp : List (Addr × Obj)) (kU : Nat) (l : Addr) (tps : List (Addr × Obj)) (nl : Nat) (rv : List Value) (kR : Nat) (dI : Addr) (hsh : Int) (th : Tok) (n₁ : Nat) (cK : Obj) (s : Shared) : Shared → Prop
  | mk (u : Str → Option Value) (wd : List Nat) (rad : Nat) (tw : Tok) (tr : Tok) (oW : Obj) (oR : Obj) (h1 : Heap) (tk1 : Nat) (_ : Fr g L' h1 (mq [(Str.ofString "table", .ref I), (Str.ofString "row", .ref R), (Str.ofString "due", .ref DU)] u)) (_ : News g L' h1 ((DU, listOf (dtp.map fun q => Value.ref q.1).toArray kU) :: (l, listOf (tps.map fun q => Value.ref q.1).toArray nl) :: (R, listOf rv.toArray kR) :: (I, instObj 212 dI) :: (dI, PySem.W.dictOf [⟨hsh, .str (Str.ofString "_headers") th, .ref l⟩] n₁) :: (L' + 1 + 1 + 1 + 1 + 1, cK) :: (L' + 1 + 1 + 1 + 1, oR) :: (L' + 1 + 1 + 1, oW) :: (tps ++ dtp))) (_ : oW.data = .cell (some (.str (sl wd) tw))) (_ : oR.data = .cell (some (.int ((rad : Nat) : Int) tr))) (_ : (∀ c ∈ wd, c < 128)) (_ : wd.length ≤ 3) (_ : rad ≤ 3) : PV1_8 g L' I R DU dtp kU l tps nl rv kR dI hsh th n₁ cK s { s with heap := h1, toks := tk1 }
inductive PV1_9 (g : Heap) (L' : Addr) (I : Addr) (R : Addr) (DU : Addr) (dtp : List (Addr × Obj)) (kU : Nat) (l : Addr) (tps : List (Addr × Obj)) (nl : Nat) (rv : List Value) (kR : Nat) (dI : Addr) (hsh : Int) (th : Tok) (n₁ : Nat) (oR : Obj) (oW : Obj) (w : World) (W : List (List Nat)) (wd : List Nat) (s : Shared) : Shared → Prop
  | mk (u : Str → Option Value) (DK : Addr) (oDK : Obj) (kvc : List (Str × Value)) (oK : Obj) (h1 : Heap) (tk1 : Nat) (_ : Fr g L' h1 (mq [(Str.ofString "table", .ref I), (Str.ofString "row", .ref R), (Str.ofString "due", .ref DU)] u)) (_ : News g L' h1 ((DK, oDK) :: (DU, listOf (dtp.map fun q => Value.ref q.1).toArray kU) :: (l, listOf (tps.map fun q => Value.ref q.1).toArray nl) :: (R, listOf rv.toArray kR) :: (I, instObj 212 dI) :: (dI, PySem.W.dictOf [⟨hsh, .str (Str.ofString "_headers") th, .ref l⟩] n₁) :: (L' + 1 + 1 + 1 + 1 + 1, oK) :: (L' + 1 + 1 + 1 + 1, oR) :: (L' + 1 + 1 + 1, oW) :: (tps ++ dtp))) (_ : oK.data = .cell (some (.ref DK))) (_ : oDK.IsDictOf (PySem.strKind PySem.Challenge.rw_pe0272_01.row.prog w) kvc) (_ : ∀ e ∈ prt W, ∃ t, valueAt kvc (sl e.1) = some (.int ((costAt wd W e.1 : Nat) : Int) t)) : PV1_9 g L' I R DU dtp kU l tps nl rv kR dI hsh th n₁ oR oW w W wd s { s with heap := h1, toks := tk1 }
inductive PV1_10 (g : Heap) (L' : Addr) (I : Addr) (R : Addr) (DU : Addr) (DK : Addr) (oDK : Obj) (dtp : List (Addr × Obj)) (kU : Nat) (l : Addr) (tps : List (Addr × Obj)) (nl : Nat) (rv : List Value) (kR : Nat) (dI : Addr) (hsh : Int) (th : Tok) (n₁ : Nat) (oK : Obj) (oR : Obj) (oW : Obj) (wd : List Nat) (rad : Nat) (W : List (List Nat)) (s : Shared) : Shared → Prop
  | mk (u : Str → Option Value) (DN : Addr) (kN : Nat) (gts : List (Addr × Obj)) (gs : List (Nat × List Nat)) (h1 : Heap) (tk1 : Nat) (_ : Fr g L' h1 (mq [(Str.ofString "table", .ref I), (Str.ofString "row", .ref R), (Str.ofString "due", .ref DU), (Str.ofString "near", .ref DN)] u)) (_ : News g L' h1 ((DN, listOf (gts.map fun q => Value.ref q.1).toArray kN) :: (DK, oDK) :: (DU, listOf (dtp.map fun q => Value.ref q.1).toArray kU) :: (l, listOf (tps.map fun q => Value.ref q.1).toArray nl) :: (R, listOf rv.toArray kR) :: (I, instObj 212 dI) :: (dI, PySem.W.dictOf [⟨hsh, .str (Str.ofString "_headers") th, .ref l⟩] n₁) :: (L' + 1 + 1 + 1 + 1 + 1, oK) :: (L' + 1 + 1 + 1 + 1, oR) :: (L' + 1 + 1 + 1, oW) :: (tps ++ dtp ++ gts))) (_ : CtsAre gts gs) (_ : gs.Pairwise plt) (_ : ∀ x, x ∈ gs ↔ x ∈ nearL wd rad (prt W)) : PV1_10 g L' I R DU DK oDK dtp kU l tps nl rv kR dI hsh th n₁ oK oR oW wd rad W s { s with heap := h1, toks := tk1 }
inductive PV1_11 (g : Heap) (L' : Addr) (I : Addr) (R : Addr) (DN : Addr) (gts : List (Addr × Obj)) (kN : Nat) (l : Addr) (tps : List (Addr × Obj)) (nl : Nat) (rv : List Value) (kR : Nat) (dI : Addr) (hsh : Int) (th : Tok) (n₁ : Nat) (oR : Obj) (oW : Obj) (W : List (List Nat)) (wd : List Nat) (rad : Nat) (s : Shared) : Shared → Prop
  | mk (u : Str → Option Value) (DS : Addr) (vS : List Value) (kS : Nat) (h1 : Heap) (tk1 : Nat) (_ : Fr g L' h1 (mq [(Str.ofString "table", .ref I), (Str.ofString "row", .ref R), (Str.ofString "near", .ref DN), (Str.ofString "seen", .ref DS)] u)) (_ : News g L' h1 ((DS, listOf vS.toArray kS) :: (DN, listOf (gts.map fun q => Value.ref q.1).toArray kN) :: (l, listOf (tps.map fun q => Value.ref q.1).toArray nl) :: (R, listOf rv.toArray kR) :: (I, instObj 212 dI) :: (dI, PySem.W.dictOf [⟨hsh, .str (Str.ofString "_headers") th, .ref l⟩] n₁) :: (L' + 1 + 1 + 1 + 1, oR) :: (L' + 1 + 1 + 1, oW) :: (tps ++ gts))) (_ : StrsAre vS ((((prt W).filter fun e => okFrom wd rad W 1 e.1).map (·.1)).map sl)) : PV1_11 g L' I R DN gts kN l tps nl rv kR dI hsh th n₁ oR oW W wd rad s { s with heap := h1, toks := tk1 }
set_option maxHeartbeats 100000000 in
theorem law_pure (a : Addr) (vs : List Value) (ns : List Int) (hI : IntsAre vs ns) (hlen : ns.length ≤ 63) :
    Pure Mine.hd1.heap_1 PySem.Challenge.rw_pe0272_01.row.prog 248 400 ⟨[.ref a], []⟩ (fun _ h => h.IsList a vs.toArray) (fun r _ => r = .bool true) := by
  unfold Pure
  intro w p loose mean mg mb dp un fr gd s Q E X T hl hdp hun hret
  dsimp only at hret
  w_top off; revert X; k_fill; intro X
  (k_dflt (refine' enterC (args := ⟨_, _⟩) [] ?hS ?kX ?kT ?k6 ?k7 ?k8 ?k9 ?kB ?kn ?_ ?c2 ?c3 ?c4; (case hS => exact List.forall_mem_nil _); (case kX => assumption); (case kT => assumption); (case k6 => k_is); (case k7 => k_is); (case k8 => (dsimp only [Ar]; omega)); (case k9 => first | exact BindsTo.of_eq rfl | exact binds_K (by k_in) rfl (by k_is) rfl rfl rfl | (refine' kp_binds ?kx ?ke; (case kx => k_in); (case ke => exact fun _ => rfl))); (case kB => exact rfl); (case kn => decide); (case c2 => exact rfl); (case c3 => exact rfl); (case c4 => exact rfl); k_whole))
  intro g L' h' tk cells hg F' N' Y X' T' _
  obtain ⟨cK, cR, cW, cP, cD, rfl, hcK, hcR, hcW, hcP, hcD⟩ := cells5 Y
  obtain ⟨vK, hcK⟩ : ∃ v, cK.data = .cell v := ⟨_, hcK⟩
  obtain ⟨vR, hcR⟩ : ∃ v, cR.data = .cell v := ⟨_, hcR⟩
  obtain ⟨vW, hcW⟩ : ∃ v, cW.data = .cell v := ⟨_, hcW⟩
  obtain ⟨vP, hcP⟩ : ∃ v, cP.data = .cell v := ⟨_, hcP⟩
  obtain ⟨vD, hcD⟩ : ∃ v, cD.data = .cell v := ⟨_, hcD⟩
  (try dsimp only)
  dsimp only at N'
  rw [List.append_nil] at N'
  have hlg : g.IsList a vs.toArray := by obtain ⟨o, e, r⟩ := hl; exact ⟨o, hg _ _ e List.not_mem_nil, r⟩
  have hvl := hI.length
  have hwl0 := wrds_len ns
  have hwok := wrds_ok ns
  refine cutO (PV1_0 g L' a cK cR cW cP ns s) 1 ?_ ?_
  ·
    --{{A
    intro P' hP'; dsimp only [List.take]
    (try k_fold)
    k_steps
    have Fz := ‹Fr g L' _ _›
    have Nz := ‹News g L' _ _›
    have X2 := X'.keeps Fz.keep
    have T2 := T'.keeps Fz.keep
    have hI5 := ‹IntsAre _ (List.take 4 ns ++ [34, 5, 9, 50, 0, 139])›
    have h5l := hI5.length
    simp only [List.length_append, List.length_take, List.length_cons, List.length_nil] at h5l
    refine' CompX.list (Nz.isList (.head _)) ?hz (fun _ i ys _ nw => nw = [] ∧ StrsAre ys (((wrds ns).take i).map sl)) ?h0 ?st (doneL2 Fz Nz ?finA)
    (case hz => exact hz_le (by first | omega | (simp; omega)))
    (case h0 => intro C cells hC hcl; cases hcl; exact ⟨rfl, .nil⟩)
    (case st =>
      intro C i v ys m nw rest h tk hi hJ hv F N hoff
      dsimp only at F N hi
      obtain ⟨rfl, hY⟩ := hJ
      obtain ⟨hi2, tv, rfl⟩ := ints_get hI5 (by simpa using hv)
      refine cmp_store F (fun h9 F9 hk9 => ?_) rfl rfl
      have N9 := news_but N hk9
      refine wpAny_tests_nil ?_
      simp only [if_true]
      k_steps
      refine' (word_pure _ _).use ?F X2 ?N T2 trivial ?rm ?un ?_
      (case F => assumption)
      (case N => assumption)
      (case rm => (first | exact room3 (by assumption) (by decide) | exact room2 (by assumption) (by decide) | omega | (dsimp only [Ar, Around.deeper]; omega) | (simp only [depth_deeper, units_deeper]; dsimp only [Ar]; omega)))
      (case un => (first | exact room3 (by assumption) (by decide) | exact room2 (by assumption) (by decide) | omega | (dsimp only [Ar, Around.deeper]; omega) | (simp only [depth_deeper, units_deeper]; dsimp only [Ar]; omega)))
      rintro _ h8 tk8 F8 N8 hk8 ⟨t8, rfl⟩
      dsimp only
      have hia : i < (wrds ns).length := by rw [wrds, List.length_map]; exact hi2
      refine ⟨_, _, _, [], rfl, F8, N8, fun _ h => (nomatch h), rfl, ?_⟩
      rw [map_step _ _ hia]
      have ea : (wrds ns)[i] = wordOf ((figs1 ns)[i]'hi2 % 256).toNat := List.getElem_map ..
      rw [ea]
      exact StrsAre.snoc hY _ _)
    intro D C ys m nw h tk hJ F9 N9 hk9 hD0 _ hlt
    obtain ⟨rfl, hY⟩ := hJ
    rw [List.take_of_length_le (by simp [wrds, figs1]; omega)] at hY
    replace N9 := news_sub N9 (n₂ := (D, LCg.lst ys) :: [(L' + 1 + 1 + 1 + 1 + 1, cK), (L' + 1 + 1 + 1 + 1, cR), (L' + 1 + 1 + 1, cW), (L' + 1 + 1, cP), (L' + 1, cD)]) (by wtm_at "sub")
    have lD : @LT.lt Nat _ (L' + 1 + 1 + 1 + 1 + 1) D := hlt (L' + 1 + 1 + 1 + 1 + 1, cK) (by wtm_at "mem")
    k_lt2 lD
    (try dsimp only)
    (try k_fold)
    k_steps
    refine hP' _ ?_
    refine' .mk _ _ _ _ _ _ _ ?F (news_sub ‹News g L' _ _› ?sb) hY (‹Obj.data _ = Data.cell (some (Value.ref D))›) lD
    (case F => wtm_at "frq")
    (case sb => wtm_at "sub")
    --}}A
  rintro _ ⟨u1, DA, ws, nA, oD, h1, tk1, F1, N1, hW, hoD, lA⟩
  k_lt2 lA
  clear F' N' Y hcD
  dsimp only [List.drop]
  refine cutO (PV1_1 g L' a DA ws nA cK cR cW cP oD s) 2 ?_ ?_
  ·
    --{{B
    intro P' hP'; dsimp only [List.take]
    obtain ⟨TL, eTL, M1⟩ := hideL N1
    clear N1
    (try k_fold)
    k_steps
    refine headers_new F1 X' M1 T' (by (first | exact room3 (by assumption) (by decide) | exact room2 (by assumption) (by decide) | omega | (dsimp only [Ar, Around.deeper]; omega) | (simp only [depth_deeper, units_deeper]; dsimp only [Ar]; omega))) (by (first | exact room3 (by assumption) (by decide) | exact room2 (by assumption) (by decide) | omega | (dsimp only [Ar, Around.deeper]; omega) | (simp only [depth_deeper, units_deeper]; dsimp only [Ar]; omega))) ?_
    intro I dI l h8 tk8 n₁ n₂ hsh th F8 N8 hlt l2 l3
    have hAd : @LT.lt Nat _ DA dI := hlt (DA, listOf ws.toArray nA) (by rw [eTL]; exact .head _)
    clear hlt
    dsimp only
    (try k_fold)
    k_steps
    subst eTL
    refine hP' _ ?_
    have lR := ‹I < _ ∧ dI < _ ∧ l < _ ∧ _›
    refine' .mk _ I dI l _ _ _ _ _ _ _ _ ?F (news_sub ‹News g L' _ _› ?sb) hAd l2 l3 ?ll
    (case F => wtm_at "frq")
    (case sb => wtm_at "sub")
    (case ll => exact lR.2.2.1)
    --}}B
  rintro _ ⟨u2, I, dI, l, R, n₁, n₂, nR, hsh, th, h2, tk2, F2, N2, ld, lI, ll, lR⟩
  k_lt2 ld
  k_lt2 lI
  k_lt2 ll
  k_lt2 lR
  clear F1 N1
  dsimp only [List.drop]
  refine cutO (PV1_2 g L' a I R l dI hsh th n₁ DA ws nA cK cR cW cP oD ns s) 1 ?_ ?_
  ·
    --{{C
    intro P' hP'; dsimp only [List.take]
    refine wpAny_execs_cons ?_
    have hwl := strs_len hW
    refine for_list (h₀ := g) (L := L') (l := DA) (items := ws.toArray) (fun i m nw => E5 fun u n k rv tps => A4 (m = mq [(Str.ofString "script", .ref a), (Str.ofString "table", .ref I), (Str.ofString "row", .ref R)] u) (nw = ((l, listOf (tps.map fun q => Value.ref q.1).toArray n) :: (R, listOf rv.toArray k) :: (I, instObj 212 dI) :: (dI, PySem.W.dictOf [⟨hsh, .str (Str.ofString "_headers") th, .ref l⟩] n₁) :: (DA, listOf ws.toArray nA) :: (L' + 1 + 1 + 1 + 1 + 1, cK) :: (L' + 1 + 1 + 1 + 1, cR) :: (L' + 1 + 1 + 1, cW) :: (L' + 1 + 1, cP) :: (L' + 1, oD) :: tps)) (TupsAre tps (tabOf (dd ((wrds ns).take i)))) (StrsAre rv ((rowOf (dd ((wrds ns).take i))).map sl))) rfl rfl ?hl ?h ?turn ?done
    case hl => rintro i m nw h ⟨u, n, k, rv, tps, rfl, rfl, _⟩ F N; exact N.isList (by wtm_at "mem")
    case h =>
      (try k_fold)
      k_steps
      unfold Hit2
      refine' ⟨rfl, _, _, _, _, rfl, ?F, news_sub ‹News g L' _ _› ?sb, _, n₂, nR, [], [], rfl, rfl, .nil, .nil⟩
      (case F => wtm_at "frq")
      (case sb => wtm_at "sub")
    case done =>
      rintro m nw h tk ⟨u, n, k, rv, tps, rfl, rfl, hT, hR⟩ Fd Nd
      dsimp only
      rw [List.size_toArray, hwl, List.take_length] at hT hR
      (try k_fold)
      k_steps
      refine hP' _ ?_
      exact .mk _ n k rv tps _ _ Fd Nd hT hR
    case turn =>
      rintro i v m nw It o h tk hv ⟨u, n, k, rv, tps, rfl, rfl, hT, hR⟩ hfr Ft Nt
      obtain ⟨hi, tv, rfl⟩ := strs_get hW (by simpa using hv)
      have hok := hwok (wrds ns)[i] (List.getElem_mem _)
      (try k_fold)
      k_steps
      have Fz := ‹Fr g L' _ _›
      have Nz := ‹News g L' _ ((It, o) :: _)›
      have htk : ∀ y ∈ dd ((wrds ns).take i), y ∈ wrds ns := fun y hy => List.mem_of_mem_take ((dd_mem _ _).mp hy)
      have hok2 : ∀ y ∈ (wrds ns)[i] :: dd ((wrds ns).take i), (∀ c ∈ y, 32 ≤ c ∧ c < 127) ∧ y.length ≤ 3 := fun y hy => by
        rcases List.mem_cons.mp hy with rfl | hy
        · exact hok
        · exact hwok y (htk y hy)
      have hdl : (dd ((wrds ns).take i)).length ≤ 12 := by
        have h1 := dd_len ((wrds ns).take i)
        rw [List.length_take] at h1; omega
      have hl1 := tups_list Nz hT (by wtm_at "sub") (a := l) (.tail _ (.head _))
      have hR1 := tups_list Nz hT (by wtm_at "sub") (a := R) (.tail _ (.tail _ (.head _)))
      have hItl : It ≠ l := fun e => hfr _ (.head _) e.symm
      have hItR : It ≠ R := fun e => hfr _ (.tail _ (.head _)) e.symm
      have hItl' := neN hItl
      have hItR' := neN hItR
      have hP := hT.prs (h := ‹Heap›) (fun q hq => (Nz q ((by wtm_at "sub" : ∀ q ∈ tps, q ∈ _) q hq)).1)
      refine' (lay_mut I dI l R tps n rv k (dd ((wrds ns).take i)) (wrds ns)[i] tv (dd_nodup _) (small_of hok2) hdl hok2 hT hR (Nat.ne_of_lt lR)).use2
        ((It, o) :: (I, instObj 212 dI) :: (dI, PySem.W.dictOf [⟨hsh, .str (Str.ofString "_headers") th, .ref l⟩] n₁) :: (DA, listOf ws.toArray nA) :: (L' + 1 + 1 + 1 + 1 + 1, cK) :: (L' + 1 + 1 + 1 + 1, cR) :: (L' + 1 + 1 + 1, cW) :: (L' + 1 + 1, cP) :: (L' + 1, oD) :: tps) Fz X' Nz T' ?hS ?hr ⟨hsh, th, n₁, (Nz _ (.tail _ (.tail _ (.tail _ (.head _))))).1, (Nz _ (.tail _ (.tail _ (.tail _ (.tail _ (.head _)))))).1, Nz.isList (.tail _ (.head _)), hP⟩ ?rm ?un ?_
      (case hS => wtm_at "sub")
      (case hr =>
        have hAl : @LT.lt Nat _ DA l := Nat.lt_trans ld (Nat.lt_trans lI ll)
        have hLl : @LT.lt Nat _ (L' + 1 + 1 + 1 + 1 + 1) l := Nat.lt_trans lA hAl
        have hdl : @LT.lt Nat _ dI l := Nat.lt_trans lI ll
        have hIR : @LT.lt Nat _ I R := Nat.lt_trans ll lR
        have hdR : @LT.lt Nat _ dI R := Nat.lt_trans hdl lR
        have hAR : @LT.lt Nat _ DA R := Nat.lt_trans hAl lR
        have hLR : @LT.lt Nat _ (L' + 1 + 1 + 1 + 1 + 1) R := Nat.lt_trans hLl lR
        have hne : ∀ q ∈ ((It, o) :: (I, instObj 212 dI) :: (dI, PySem.W.dictOf [⟨hsh, .str (Str.ofString "_headers") th, .ref l⟩] n₁) :: (DA, listOf ws.toArray nA) :: (L' + 1 + 1 + 1 + 1 + 1, cK) :: (L' + 1 + 1 + 1 + 1, cR) :: (L' + 1 + 1 + 1, cW) :: (L' + 1 + 1, cP) :: (L' + 1, oD) :: tps), q.1 ≠ l := by k_all
        have hne2 : ∀ q ∈ ((It, o) :: (I, instObj 212 dI) :: (dI, PySem.W.dictOf [⟨hsh, .str (Str.ofString "_headers") th, .ref l⟩] n₁) :: (DA, listOf ws.toArray nA) :: (L' + 1 + 1 + 1 + 1 + 1, cK) :: (L' + 1 + 1 + 1 + 1, cR) :: (L' + 1 + 1 + 1, cW) :: (L' + 1 + 1, cP) :: (L' + 1, oD) :: tps), q.1 ≠ R := by k_all
        exact fun q hq => ⟨(by wtm_at "sub" : ∀ q ∈ _, q ∈ _) q hq, by
          intro c
          rcases List.mem_cons.mp c with c | c
          · exact hne q hq c
          · exact hne2 q hq (List.mem_singleton.mp c)⟩)
      (case rm => (first | exact room3 (by assumption) (by decide) | exact room2 (by assumption) (by decide) | omega | (dsimp only [Ar, Around.deeper]; omega) | (simp only [depth_deeper, units_deeper]; dsimp only [Ar]; omega)))
      (case un => (first | exact room3 (by assumption) (by decide) | exact room2 (by assumption) (by decide) | omega | (dsimp only [Ar, Around.deeper]; omega) | (simp only [depth_deeper, units_deeper]; dsimp only [Ar]; omega)))
      rintro _ h8 tk8 S8 F8 N8 hk8 hnew ⟨rfl, ⟨hin, rfl⟩ | ⟨hin, T, oT, n', rv', k', hT8, hR8, rfl⟩⟩
      · dsimp only
        (try k_fold)
        k_steps
        have e1 : dd ((wrds ns).take (i + 1)) = dd ((wrds ns).take i) := by rw [dd_step _ hi, if_pos ((dd_mem _ _).mp hin)]
        refine' ⟨_, _, _, _, rfl, ?F, news_sub N8 ?sb, hfr, _, n, k, rv, tps, rfl, rfl, ?C, ?D⟩
        (case F => wtm_at "frq")
        (case sb => wtm_at "sub")
        (case C => rw [e1]; exact hT)
        (case D => rw [e1]; exact hR)
      · dsimp only
        have hTl : T ≠ l ∧ T ≠ R := by
          have ho := (hT8.isTup (T, oT) (List.mem_append_right _ (.head _))).1
          constructor <;> intro e
          · have e1 := (N8 _ (.tail _ (.tail _ (.head _)))).1
            have e2 := (N8 _ (.head _)).1
            dsimp only at e1 e2 ho
            rw [e, e2] at e1
            injection e1 with e1
            rw [← e1] at ho
            exact absurd (show Value.type "list" = Value.type "tuple" from ho) (by decide)
          · have e1 := (N8 _ (.tail _ (.tail _ (.head _)))).1
            have e2 := (N8 _ (.tail _ (.head _))).1
            dsimp only at e1 e2 ho
            rw [e, e2] at e1
            injection e1 with e1
            rw [← e1] at ho
            exact absurd (show Value.type "list" = Value.type "tuple" from ho) (by decide)
        have hTI : It ≠ T := by
          rcases hnew (T, oT) (.tail _ (.tail _ (.head _))) with q | q
          · rcases List.mem_cons.mp q with q | q
            · exact absurd q hTl.1
            · exact absurd (List.mem_singleton.mp q) hTl.2
          · exact q (It, o) (.head _)
        (try k_fold)
        k_steps
        have e1 : dd ((wrds ns).take (i + 1)) = dd ((wrds ns).take i) ++ [(wrds ns)[i]] := by rw [dd_step _ hi, if_neg (fun c => hin ((dd_mem _ _).mpr c))]
        refine' ⟨_, _, _, _, rfl, ?F, news_sub N8 ?sb, ?fr, _, n', k', rv', tps ++ [(T, oT)], rfl, rfl, ?C, ?D⟩
        (case F => wtm_at "frq")
        (case sb => wtm_at "sub")
        (case fr =>
          intro q hq
          rcases List.mem_cons.mp hq with rfl | hq
          · exact hItl.symm
          rcases List.mem_cons.mp hq with rfl | hq
          · exact hItR.symm
          rcases List.mem_append.mp (show q ∈ ((I, instObj 212 dI) :: (dI, PySem.W.dictOf [⟨hsh, .str (Str.ofString "_headers") th, .ref l⟩] n₁) :: (DA, listOf ws.toArray nA) :: (L' + 1 + 1 + 1 + 1 + 1, cK) :: (L' + 1 + 1 + 1 + 1, cR) :: (L' + 1 + 1 + 1, cW) :: (L' + 1 + 1, cP) :: (L' + 1, oD) :: tps) ++ [(T, oT)] from hq) with hq | hq
          · exact hfr q (.tail _ (.tail _ hq))
          · rw [List.mem_singleton.mp hq]; exact hTI.symm)
        (case C => rw [e1]; exact hT8)
        (case D => rw [e1]; exact hR8)
    --}}C
  rintro _ ⟨u3, nl, kR, rv, tps, h3, tk3, F3, N3, hT, hR⟩
  clear F2 N2
  dsimp only [List.drop]
  have hWn := dd_nodup (wrds ns)
  have hWok : ∀ y ∈ dd (wrds ns), (∀ c ∈ y, 32 ≤ c ∧ c < 127) ∧ y.length ≤ 3 := fun y hy => hwok y ((dd_mem _ _).mp hy)
  have hWs := small_of hWok
  have hWl : (dd (wrds ns)).length ≤ 10 := Nat.le_trans (dd_len _) hwl0.2
  have hW0 : dd (wrds ns) ≠ [] := fun e => by
    have h1 : (wrds ns)[0]'(by omega) ∈ dd (wrds ns) := (dd_mem _ _).mpr (List.getElem_mem _)
    rw [e] at h1; cases h1
  refine cutO (PV1_3 g L' a I R l tps nl rv kR dI hsh th n₁ cK cR cW cP ns DA s) 1 ?_ ?_
  ·
    --{{D
    intro P' hP'; dsimp only [List.take]
    have hwl := strs_len hW
    obtain ⟨TL, eTL, M3⟩ := hideT (news_sub N3 (n₂ := (L' + 1, oD) :: (DA, listOf ws.toArray nA) :: (l, listOf (tps.map fun q => Value.ref q.1).toArray nl) :: (R, listOf rv.toArray kR) :: (I, instObj 212 dI) :: (dI, PySem.W.dictOf [⟨hsh, .str (Str.ofString "_headers") th, .ref l⟩] n₁) :: (L' + 1 + 1 + 1 + 1 + 1, cK) :: (L' + 1 + 1 + 1 + 1, cR) :: (L' + 1 + 1 + 1, cW) :: (L' + 1 + 1, cP) :: tps) (by wtm_at "sub"))
    have mDA : (DA, listOf ws.toArray nA) ∈ TL := by rw [eTL]; exact .head _
    have hlw := M3.isList (.tail _ mDA)
    clear N3
    (try k_fold)
    k_steps
    have Fz := ‹Fr g L' _ _›
    have Nz := ‹News g L' _ _›
    have hc1 := (Nz (L' + 1, oD) (by wtm_at "mem")).1
    dsimp only at hc1
    have hlz := Nz.isList (a := DA) (.tail _ mDA)
    refine' CompX.range (n := (wrds ns).length) ‹IsRange _ _ _ _ _ _ _ _› ?sm ?rs ?hz (fun _ i ys _ nw => nw = [] ∧ StrsAre ys ((dd ((wrds ns).take i)).map sl)) ?h0 ?st (doneS2 Fz Nz rfl rfl ?finD)
    (case sm => exact small_nat (by first | omega | (simp; omega)))
    (case rs => exact size_nat (by first | omega | (simp; omega)))
    (case hz => exact line_le (by omega))
    (case h0 => intro C cells hC hcl; cases hcl; exact ⟨rfl, .nil⟩)
    (case st =>
      intro C i v ys m nw rst h tk hi hJ hv F N hoff
      dsimp only at F N hi
      obtain ⟨rfl, hY⟩ := hJ
      obtain ⟨tv, rfl⟩ := hv
      refine cmp_store F (fun h9 F9 hk9 => ?_) rfl rfl
      have N9 := news_but N hk9
      refine wpAny_tests_one ?_
      have hl9 : h9.IsList DA ws.toArray := stays_list F9.keep hlz
      have hwi : (List.map sl (wrds ns)).getD (0 + (i : Int)).toNat Str.empty = sl (wrds ns)[i] := by
        rw [om_nat, getD_map_sl _ _ hi, List.getD_eq_getElem?_getD, List.getElem?_eq_getElem hi]; rfl
      k_steps
      unfold Stop
      have Nq := ‹News _ C _ (_ :: ([] ++ rst))›
      rw [show slicePick ws.toArray none (some (0 + (i : Int))) none = (ws.take i).toArray by rw [Int.zero_add]; exact slice_head ws i] at Nq
      refine notin_list_strs (ys := ((wrds ns).take i).map sl) (Nq.isList (.head _)) (by rw [List.map_take]; exact strs_take hW i) ?_
      rw [hwi, any_sl]
      have Fq := ‹Fr _ C _ _›
      have hl8 := stays_list Fq.keep hlz
      by_cases hin : (wrds ns)[i] ∈ (wrds ns).take i
      · rw [decide_eq_true hin]
        k_steps
        refine ⟨_, _, _, [], rfl, Fq, news_sub Nq (fun q hq => .tail _ hq), fun _ h => (nomatch h), rfl, ?_⟩
        rw [dd_step _ hi, if_pos hin]; exact hY
      · rw [decide_eq_false hin]
        k_steps
        rw [hwi]
        refine ⟨_, _, _, [], rfl, Fq, news_sub Nq (fun q hq => .tail _ hq), fun _ h => (nomatch h), rfl, ?_⟩
        rw [dd_step _ hi, if_neg hin, List.map_append]
        exact StrsAre.snoc ‹StrsAre ys _› _ _)
    intro D C ys m nw h tk hJ F9 N9 hk9 hD0 _ hlt
    obtain ⟨rfl, hY⟩ := hJ
    rw [List.take_length] at hY
    rw [List.nil_append] at N9
    (try dsimp only)
    (try k_fold)
    k_steps
    have lDA := hlt _ (.tail _ mDA)
    subst eTL
    refine hP' _ ?_
    refine' .mk _ D ys _ _ _ ?F (news_sub N9 ?sb) hY lDA
    (case F => wtm_at "frq")
    (case sb => wtm_at "sub")
    --}}D
  rintro _ ⟨u4, DO, os, kO, h4, tk4, F4, N4, hO, lO⟩
  k_lt2 lO
  clear F3 N3
  generalize dd (wrds ns) = W at hT hR hWn hWok hWs hWl hW0 hO
  dsimp only [List.drop]
  refine cutO (PV1_4 g L' a I R DO os kO l tps nl rv kR dI hsh th n₁ cK cR cW cP W s) 1 ?_ ?_
  ·
    --{{E
    intro P' hP'; dsimp only [List.take]
    have er : Str.ofString "r" = sl [114] := by decide +kernel
    have hlO := N4.isList (a := DO) (.head _)
    obtain ⟨TL, eTL, M4⟩ := hideL N4
    clear N4
    (try k_fold)
    k_steps
    rw [er]
    refine' (parted_mut W.length W [114] DO os _ (Nat.le_refl _) (by omega) hO hWn (fun v hv => ⟨fun c hc => by have := (hWok v hv).1 c hc; omega, (hWok v hv).2⟩) (by simp only [List.length_cons, List.length_nil]; omega) (by decide)).use2 TL ‹Fr g L' _ _› X' ‹News g L' _ _› T' (fun _ h => nomatch h) (fun q hq => ⟨hq, List.not_mem_nil⟩) hlO ?rmE ?unE ?_
    (case rmE => dsimp only [Ar, Around.deeper]; omega)
    (case unE => dsimp only [Ar]; omega)
    rintro _ h8 tk8 S8 F8 N8 hk8 hnew ⟨D2, tps2, k2, rfl, hT2, rfl⟩
    (try dsimp only)
    (try k_fold)
    k_steps
    subst eTL
    refine hP' _ ?_
    refine' .mk _ D2 k2 tps2 _ _ ?F (news_sub ‹News g L' _ _› ?sb) hT2
    (case F => wtm_at "frq")
    (case sb => wtm_at "sub")
    --}}E
  rintro _ ⟨u5, DU, kU, dtp, h5, tk5, F5, N5, hD⟩
  clear F4 N4
  dsimp only [List.drop]
  have hpl : (prt W).length ≤ W.length := part_count W.length W [114]
  have hpm : ∀ q w, (q, w) ∈ prt W ↔ w ∈ W ∧ q = pth W w := part_mem W.length W [114] (Nat.le_refl _) hWn hWs
  have hDl := hD.length
  refine cutO (PV1_5 g L' a I R DO DU dtp kU os kO l tps nl rv kR dI hsh th n₁ cK cR cW w W s) 1 ?_ ?_
  ·
    --{{F
    intro P' hP'; dsimp only [List.take]
    have iP := ne_cell N5 (a := DU) (b := L' + 1 + 1) (by wtm_at "mem") rfl (by wtm_at "mem") hcP
    have oP2 := tup_off N5 (fun x hx => (List.mem_append.mp hx).elim (hT.isTup x) (hD.isTup x)) (by wtm_at "sub" : ∀ q ∈ tps ++ dtp, q ∈ _) (a := L' + 1 + 1) (by wtm_at "mem") (.inr ⟨_, hcP⟩)
    have lAO : @LT.lt Nat _ (L' + 1 + 1 + 1 + 1 + 1) DO := Nat.lt_trans lA lO
    have lAd : @LT.lt Nat _ (L' + 1 + 1 + 1 + 1 + 1) dI := Nat.lt_trans lA ld
    have lAI : @LT.lt Nat _ (L' + 1 + 1 + 1 + 1 + 1) I := Nat.lt_trans lAd lI
    have lAl : @LT.lt Nat _ (L' + 1 + 1 + 1 + 1 + 1) l := Nat.lt_trans lAI ll
    have lAR : @LT.lt Nat _ (L' + 1 + 1 + 1 + 1 + 1) R := Nat.lt_trans lAl lR
    have offP : ∀ q ∈ (DU, listOf (dtp.map fun q => Value.ref q.1).toArray kU) :: (DO, listOf os.toArray kO) :: (l, listOf (tps.map fun q => Value.ref q.1).toArray nl) :: (R, listOf rv.toArray kR) :: (I, instObj 212 dI) :: (dI, PySem.W.dictOf [⟨hsh, .str (Str.ofString "_headers") th, .ref l⟩] n₁) :: (L' + 1 + 1 + 1 + 1 + 1, cK) :: (L' + 1 + 1 + 1 + 1, cR) :: (L' + 1 + 1 + 1, cW) :: (tps ++ dtp), q.1 ≠ L' + 1 + 1 := by k_all
    have hk5 : ∀ q ∈ dtp, h5.get? q.1 = some q.2 := fun q hq => (N5 q ((by wtm_at "sub" : ∀ q ∈ dtp, q ∈ _) q hq)).1
    have hlU := N5.isList (a := DU) (by wtm_at "mem")
    obtain ⟨TL, eTL, M5⟩ := hideT (news_sub N5 (n₂ := (L' + 1 + 1, cP) :: (DU, listOf (dtp.map fun q => Value.ref q.1).toArray kU) :: (DO, listOf os.toArray kO) :: (l, listOf (tps.map fun q => Value.ref q.1).toArray nl) :: (R, listOf rv.toArray kR) :: (I, instObj 212 dI) :: (dI, PySem.W.dictOf [⟨hsh, .str (Str.ofString "_headers") th, .ref l⟩] n₁) :: (L' + 1 + 1 + 1 + 1 + 1, cK) :: (L' + 1 + 1 + 1 + 1, cR) :: (L' + 1 + 1 + 1, cW) :: (tps ++ dtp)) (by wtm_at "sub"))
    rw [← eTL] at offP
    clear N5
    (try k_fold)
    k_steps
    have hPr := hD.prs hk5
    refine' ⟨DU, (dtp.map fun q => Value.ref q.1).toArray, (fun _ i kvs _ nw => nw = [] ∧ kvs.length ≤ i ∧ ∀ j, j < i → ∀ (hj : j < (prt W).length), ∃ t, valueAt kvs (sl (prt W)[j].2) = some (.str (sl (pth W (prt W)[j].2)) t)), rfl, hlU, ?hz, ?h0, ?hl, ?st, doneLD F5 M5 ?finF⟩
    (case hz => rw [sizeLine_eq, List.size_toArray, List.length_map]; omega)
    (case h0 => intro C cells hC hcl; cases hcl; exact ⟨rfl, Nat.le_refl _, fun j hj => absurd hj (Nat.not_lt_zero _)⟩)
    (case hl => intro C i kvs m nw hJ; exact hJ.2.1)
    (case st =>
      intro C i v kvs m nw rst h tk hi hJ hv F N hoff
      dsimp only at F N hi
      obtain ⟨rfl, hkl, hY⟩ := hJ
      obtain ⟨hi2, T5, tk5', tv5, rfl, hT5⟩ := hPr.get (by simpa using hv)
      refine cmp_store2 rfl F (hT5.at fun o e => F.keep _ _ e) (fun h9 tk9 F9 hk9 => ?_) rfl rfl rfl
      have N9 := news_but N hk9
      k_steps
      refine ⟨_, _, _, [], rfl, F9, N9, fun _ h => (nomatch h), rfl, Nat.le_trans (stored_length_le _ _ _) (Nat.succ_le_succ hkl), fun j hj hj2 => ?_⟩
      rw [valueAt_stored]
      by_cases hs : sl (prt W)[j].2 = sl (prt W)[i].2
      · have e : (prt W)[i].1 = pth W (prt W)[i].2 := ((hpm _ _).mp (List.getElem_mem hi2)).2
        rw [if_pos hs, sl_inj.mp hs, ← e]
        exact ⟨_, rfl⟩
      · rw [if_neg hs]
        exact hY j (Nat.lt_of_le_of_ne (Nat.le_of_lt_succ hj) fun e => hs (by subst e; rfl)) hj2)
    intro D C kvs o m nw h tk hJ ho F9 N9 hk9 hlt
    obtain ⟨rfl, hkl, hY⟩ := hJ
    rw [List.nil_append] at N9
    (try dsimp only)
    (try k_fold)
    have lP : @LT.lt Nat _ (L' + 1 + 1) D := hlt (L' + 1 + 1, cP) (.head _)
    k_lt2 lP
    k_steps
    subst eTL
    refine hP' _ ?_
    refine' .mk _ D o kvs _ _ _ ?F (news_sub ‹News g L' _ _› ?sb) (‹Obj.data _ = Data.cell (some (Value.ref D))›) ho ?Y
    (case F => wtm_at "frq")
    (case sb => wtm_at "sub")
    (case Y =>
      intro v hv
      obtain ⟨j, hj, e⟩ := List.getElem_of_mem ((hpm _ v).mpr ⟨hv, rfl⟩)
      have h1 := hY j (by rw [List.size_toArray, List.length_map, hDl]; exact hj) hj
      rw [e] at h1
      exact h1)
    --}}F
  rintro _ ⟨u6, DP, oDP, kvs, oP, h6, tk6, F6, N6, hoP, hDP, hKP⟩
  clear F5 N5
  dsimp only [List.drop]
  have htl : (tabOf W).length ≤ 100 := by unfold tabOf; rw [List.length_map]; omega
  have htp : ∀ p ∈ tabOf W, (∀ c ∈ p.1, c < 128) ∧ ∀ c ∈ p.2, c < 128 := fun p hp => by
    obtain ⟨v, hv, rfl⟩ := List.mem_map.mp hp
    have h1 := (path_like hWs hv).ok
    have h2 := (hWok v hv).1
    exact ⟨fun c hc => by have := h1 c hc; omega, fun c hc => by have := h2 c hc; omega⟩
  refine cutO (PV1_6 g L' a I R DU dtp kU l tps nl rv kR dI hsh th n₁ cK cR cW s) 1 ?_ ?_
  ·
    --{{G
    intro P' hP'; dsimp only [List.take]
    have hPrs := hT.prs (h := h6) (fun q hq => (N6 q ((by wtm_at "sub" : ∀ q ∈ tps, q ∈ _) q hq)).1)
    have hTab : TabG 212 h6 I dI l (tps.map fun q => Value.ref q.1) (tabOf W) := ⟨hsh, th, n₁, (N6 (I, _) (by wtm_at "mem")).1, (N6 (dI, _) (by wtm_at "mem")).1, N6.isList (a := l) (by wtm_at "mem"), hPrs⟩
    obtain ⟨TL, eTL, M6⟩ := hideTT (news_sub N6 (n₂ := (I, instObj 212 dI) :: (dI, PySem.W.dictOf [⟨hsh, .str (Str.ofString "_headers") th, .ref l⟩] n₁) :: (DP, oDP) :: (DU, listOf (dtp.map fun q => Value.ref q.1).toArray kU) :: (DO, listOf os.toArray kO) :: (l, listOf (tps.map fun q => Value.ref q.1).toArray nl) :: (R, listOf rv.toArray kR) :: (L' + 1 + 1 + 1 + 1 + 1, cK) :: (L' + 1 + 1 + 1 + 1, cR) :: (L' + 1 + 1 + 1, cW) :: (L' + 1 + 1, oP) :: (tps ++ dtp)) (by wtm_at "sub"))
    have mP : (L' + 1 + 1, oP) ∈ TL := by rw [eTL]; wtm_at "mem"
    have mDP : (DP, oDP) ∈ TL := by rw [eTL]; wtm_at "mem"
    have mDO : (DO, listOf os.toArray kO) ∈ TL := by rw [eTL]; wtm_at "mem"
    clear N6
    (try k_fold)
    k_steps
    refine' (items_mut I dI l (tps.map fun q => Value.ref q.1) (tabOf W) htl).use ((I, instObj 212 dI) :: (dI, PySem.W.dictOf [⟨hsh, .str (Str.ofString "_headers") th, .ref l⟩] n₁) :: TL) ‹Fr g L' _ _› X' ‹News g L' _ _› T' (fun _ h => nomatch h) (fun q hq => ⟨hq, List.not_mem_nil⟩) ?tabG ?rmG ?unG ?_
    (case tabG => exact hTab)
    (case rmG => (first | exact room3 (by assumption) (by decide) | exact room2 (by assumption) (by decide) | omega | (dsimp only [Ar, Around.deeper]; omega) | (simp only [depth_deeper, units_deeper]; dsimp only [Ar]; omega)))
    (case unG => (first | exact room3 (by assumption) (by decide) | exact room2 (by assumption) (by decide) | omega | (dsimp only [Ar, Around.deeper]; omega) | (simp only [depth_deeper, units_deeper]; dsimp only [Ar]; omega)))
    rintro _ h8 tk8 S8 F8 N8 hk8 ⟨D7, n7, rfl, rfl⟩
    dsimp only
    (try k_fold)
    k_steps
    have Fz := ‹Fr g L' h8 _›
    have Nz := ‹News g L' h8 _›
    have hc2 := (Nz (L' + 1 + 1, oP) (List.mem_append_right _ (.tail _ (.tail _ mP)))).1
    dsimp only at hc2
    have hdP := (Nz (DP, oDP) (List.mem_append_right _ (.tail _ (.tail _ mDP)))).1
    dsimp only at hdP
    have hol := strs_len hO
    refine' CompX.list (items := os.toArray) (Nz.isList (a := DO) (List.mem_append_right _ (.tail _ (.tail _ mDO)))) ?hzG (fun _ i ys _ nw => ∃ cts, A3 (nw = cts) (ys = cts.map (fun q => Value.ref q.1)) (TupsAre cts ((W.take i).map fun v => (pth W v, v)))) ?h0G ?stG (doneL2 Fz Nz ?finG)
    (case hzG => rw [sizeLine_eq, List.size_toArray]; omega)
    (case h0G => intro C cells hC hcl; cases hcl; exact ⟨[], rfl, rfl, .nil⟩)
    (case stG =>
      intro C i v ys m nw rst h tk hi hJ hv F N hoff
      dsimp only at F N hi
      obtain ⟨cts, rfl, rfl, hC⟩ := hJ
      obtain ⟨hi2, tv, rfl⟩ := strs_get hO (by simpa using hv)
      refine cmp_store F (fun h9 F9 hk9 => ?_) rfl rfl
      have N9 := news_but N hk9
      refine wpAny_tests_nil ?_
      simp only [if_true]
      k_steps
      unfold Stop
      obtain ⟨t5, e5⟩ := hKP W[i] (List.getElem_mem hi2)
      refine item_dict (Heap.dictOf_iff.mpr ⟨oDP, F9.keep _ _ hdP, hDP⟩) e5 ?_
      k_steps
      have l8 := ‹∀ p ∈ nw ++ rst, p.1 < _›
      have N8 := ‹News _ C _ (_ :: (nw ++ rst))›
      refine' ⟨_, _, _, nw ++ [_], rfl, ‹Fr _ C _ _›, news_sub N8 ?sb, ?off, nw ++ [_], rfl, ?ys, ?C⟩
      (case sb => rw [List.append_assoc]; wtm_at "sub")
      (case off =>
        intro q hq r hr
        rcases List.mem_append.mp hq with hq | hq
        · exact hoff q hq r hr
        · rw [List.mem_singleton.mp hq]; exact Nat.ne_of_gt (l8 r (List.mem_append_right _ hr)))
      (case ys => rw [List.map_append]; rfl)
      (case C => rw [map_step _ _ hi2]; exact hC.append (.cons (p := (pth W W[i], W[i])) .nil)))
    intro D C ys m nw h tk hJ F9 N9 hk9 hD0 _ hlt
    obtain ⟨cts, rfl, rfl, hC⟩ := hJ
    rw [List.take_of_length_le (by rw [List.size_toArray]; omega)] at hC
    (try dsimp only)
    (try k_fold)
    k_steps
    unfold Stop
    subst eTL
    refine ne_tups N9 (a := D7) (b := D) (ps := tabOf W) (us := nw) (ts := tps) (ka := n7) (by wtm_at "mem") hT (by wtm_at "sub") (.head _) hC (by wtm_at "sub") htp (by (first | exact room3 (by assumption) (by decide) | exact room2 (by assumption) (by decide) | omega | (dsimp only [Ar, Around.deeper]; omega) | (simp only [depth_deeper, units_deeper]; dsimp only [Ar]; omega))) ?_
    (try k_fold)
    k_steps
    refine hP' _ ?_
    refine' .mk _ _ _ ?F (news_sub ‹News g L' h _› ?sb)
    (case F => wtm_at "frq")
    (case sb => wtm_at "sub")
    --}}G
  rintro _ ⟨u7, h7, tk7, F7, N7⟩
  clear F6 N6
  dsimp only [List.drop]
  have hrw : rowOf W = (prt W).map (·.1) := rfl
  have hpok : ∀ e ∈ prt W, (∀ c ∈ e.1, c < 128) ∧ e.1.length ≤ 13 ∧ PathLike e.1 ∧ e.2 ∈ W := fun e he => by
    obtain ⟨h1, h2⟩ := (hpm e.1 e.2).mp he
    have h3 := path_like hWs h1
    have h4 := path_len W e.2
    rw [h2]
    exact ⟨fun c hc => by have := h3.ok c hc; omega, by show (pathIn W.length W [114] e.2).length ≤ 13; omega, h3, h1⟩
  have hrc : ∀ y ∈ rowOf W, ∀ c ∈ y, c < 128 := fun y hy => by
    rw [hrw] at hy
    obtain ⟨e, he, rfl⟩ := List.mem_map.mp hy
    exact (hpok e he).1
  refine cutO (PV1_7 g L' a I R DU dtp kU l tps nl rv kR dI hsh th n₁ cK cR cW s) 1 ?_ ?_
  ·
    --{{H
    intro P' hP'; dsimp only [List.take]
    have hk7 : ∀ q ∈ dtp, h7.get? q.1 = some q.2 := fun q hq => (N7 q ((by wtm_at "sub" : ∀ q ∈ dtp, q ∈ _) q hq)).1
    have hPr := hD.prs hk7
    have hlU := N7.isList (a := DU) (by wtm_at "mem")
    obtain ⟨TL, eTL, M7⟩ := hideL N7
    clear N7
    (try k_fold)
    k_steps
    refine' CompX.list (items := (dtp.map fun q => Value.ref q.1).toArray) hlU ?hzH (fun _ i ys _ nw => nw = [] ∧ StrsAre ys ((((prt W).take i).map (·.1)).map sl)) ?h0H ?stH (doneL2 F7 M7 ?finH)
    (case hzH => rw [sizeLine_eq, List.size_toArray, List.length_map]; omega)
    (case h0H => intro C cells hC hcl; cases hcl; exact ⟨rfl, .nil⟩)
    (case stH =>
      intro C i v ys m nw rst h tk hi hJ hv F N hoff
      dsimp only at F N hi
      obtain ⟨rfl, hY⟩ := hJ
      obtain ⟨hi2, T5, tk5', tv5, rfl, hT5⟩ := hPr.get (by simpa using hv)
      refine cmp_store2 rfl F (hT5.at fun o e => F.keep _ _ e) (fun h9 tk9 F9 hk9 => ?_) rfl rfl rfl
      have N9 := news_but N hk9
      refine wpAny_tests_nil ?_
      simp only [if_true]
      k_steps
      refine ⟨_, _, _, [], rfl, F9, N9, fun _ h => (nomatch h), rfl, ?_⟩
      rw [map_step _ _ hi2, List.map_append]
      exact StrsAre.snoc hY _ _)
    intro D C ys m nw h tk hJ F9 N9 hk9 hD0 _ hlt
    obtain ⟨rfl, hY⟩ := hJ
    rw [List.take_of_length_le (by rw [List.size_toArray, List.length_map]; omega), ← hrw] at hY
    rw [List.nil_append] at N9
    (try dsimp only)
    (try k_fold)
    k_steps
    unfold Stop
    subst eTL
    refine ne_texts (xs := rowOf W) (ys := rowOf W) (N9.isList (a := R) (by wtm_at "mem")) (N9.isList (a := D) (.head _)) hR hY hrc hrc (by (first | exact room3 (by assumption) (by decide) | exact room2 (by assumption) (by decide) | omega | (dsimp only [Ar, Around.deeper]; omega) | (simp only [depth_deeper, units_deeper]; dsimp only [Ar]; omega))) ?_
    rw [decide_eq_true rfl]
    (try k_fold)
    k_steps
    refine hP' _ ?_
    refine' .mk _ _ _ ?F (news_sub ‹News g L' h _› ?sb)
    (case F => wtm_at "frq")
    (case sb => wtm_at "sub")
    --}}H
  rintro _ ⟨u8, h8, tk8, F8, N8⟩
  clear F7 N7
  dsimp only [List.drop]
  refine cutO (PV1_8 g L' I R DU dtp kU l tps nl rv kR dI hsh th n₁ cK s) 3 ?_ ?_
  ·
    --{{I
    intro P' hP'; dsimp only [List.take]
    have hofs : ∀ x ∈ tps ++ dtp, x.2.cls = .type "tuple" ∧ E2 fun xs n => x.2.data = .seq xs n := fun x hx => (List.mem_append.mp hx).elim (hT.isTup x) (hD.isTup x)
    have lAd : @LT.lt Nat _ (L' + 1 + 1 + 1 + 1 + 1) dI := Nat.lt_trans lA ld
    have lAI : @LT.lt Nat _ (L' + 1 + 1 + 1 + 1 + 1) I := Nat.lt_trans lAd lI
    have lAl : @LT.lt Nat _ (L' + 1 + 1 + 1 + 1 + 1) l := Nat.lt_trans lAI ll
    have lAR : @LT.lt Nat _ (L' + 1 + 1 + 1 + 1 + 1) R := Nat.lt_trans lAl lR
    have iW := ne_cell N8 (a := DU) (b := L' + 1 + 1 + 1) (by wtm_at "mem") rfl (by wtm_at "mem") hcW
    have iR := ne_cell N8 (a := DU) (b := L' + 1 + 1 + 1 + 1) (by wtm_at "mem") rfl (by wtm_at "mem") hcR
    have oW2 := tup_off N8 hofs (by wtm_at "sub" : ∀ q ∈ tps ++ dtp, q ∈ _) (a := L' + 1 + 1 + 1) (by wtm_at "mem") (.inr ⟨_, hcW⟩)
    have oR2 := tup_off N8 hofs (by wtm_at "sub" : ∀ q ∈ tps ++ dtp, q ∈ _) (a := L' + 1 + 1 + 1 + 1) (by wtm_at "mem") (.inr ⟨_, hcR⟩)
    have offW : ∀ q ∈ (DU, listOf (dtp.map fun q => Value.ref q.1).toArray kU) :: (l, listOf (tps.map fun q => Value.ref q.1).toArray nl) :: (R, listOf rv.toArray kR) :: (I, instObj 212 dI) :: (dI, PySem.W.dictOf [⟨hsh, .str (Str.ofString "_headers") th, .ref l⟩] n₁) :: (L' + 1 + 1 + 1 + 1 + 1, cK) :: (tps ++ dtp), q.1 ≠ L' + 1 + 1 + 1 := by k_all
    have offR : ∀ q ∈ (DU, listOf (dtp.map fun q => Value.ref q.1).toArray kU) :: (l, listOf (tps.map fun q => Value.ref q.1).toArray nl) :: (R, listOf rv.toArray kR) :: (I, instObj 212 dI) :: (dI, PySem.W.dictOf [⟨hsh, .str (Str.ofString "_headers") th, .ref l⟩] n₁) :: (L' + 1 + 1 + 1 + 1 + 1, cK) :: (tps ++ dtp), q.1 ≠ L' + 1 + 1 + 1 + 1 := by k_all
    obtain ⟨TL, eTL, M8⟩ := hideTT (news_sub N8 (n₂ := (L' + 1 + 1 + 1, cW) :: (L' + 1 + 1 + 1 + 1, cR) :: (DU, listOf (dtp.map fun q => Value.ref q.1).toArray kU) :: (l, listOf (tps.map fun q => Value.ref q.1).toArray nl) :: (R, listOf rv.toArray kR) :: (I, instObj 212 dI) :: (dI, PySem.W.dictOf [⟨hsh, .str (Str.ofString "_headers") th, .ref l⟩] n₁) :: (L' + 1 + 1 + 1 + 1 + 1, cK) :: (tps ++ dtp)) (by wtm_at "sub"))
    rw [← eTL] at offW offR
    clear N8
    (try k_fold)
    k_steps
    have X2 := X'.keeps F8.keep
    have T2 := T'.keeps F8.keep
    have hl2 : h8.IsList a vs.toArray := stays_list F8.keep hlg
    refine' CompX.list hl2 ?hzI (fun _ i ys _ nw => nw = [] ∧ IntsAre ys ((ns.take i).map fun x => x.fmod 1024)) ?h0I ?stI (doneL2 F8 M8 ?finI)
    (case hzI => exact hz_le (by first | omega | (simp; omega)))
    (case h0I => intro C cells hC hcl; cases hcl; exact ⟨rfl, .nil⟩)
    (case stI =>
      intro C i v ys m nw rest h tk hi hJ hv F N hoff
      dsimp only at F N hi
      obtain ⟨rfl, hY⟩ := hJ
      obtain ⟨hi2, tv, rfl⟩ := ints_get hI (by simpa using hv)
      refine cmp_store F (fun h9 F9 hk9 => ?_) rfl rfl
      have N9 := news_but N hk9
      refine wpAny_tests_nil ?_
      simp only [if_true]
      k_steps
      refine ⟨_, _, _, [], rfl, F9, N9, fun _ h => (nomatch h), rfl, ?_⟩
      rw [map_step _ _ hi2]
      exact IntsAre.snoc hY _ _)
    intro D C ys m nw h tk hJ F9 N9 hk9 hD0 _ hlt
    obtain ⟨rfl, hY⟩ := hJ
    rw [List.take_of_length_le (by simp; omega)] at hY
    (try dsimp only)
    (try k_fold)
    k_steps
    rw [show ((ns.map fun x => x.fmod 1024).sum + 538) = ((drN ns : Nat) : Int) from drN_eq ns]
    have Fz := ‹Fr g L' _ _›
    have Nz := news_sub ‹News g L' _ _› (n₂ := (L' + 1 + 1 + 1, cW) :: (L' + 1 + 1 + 1 + 1, cR) :: TL) (by wtm_at "sub")
    refine' (word_pure ((drN ns : Nat) : Int) _).use Fz X' Nz T' trivial ?rmI ?unI ?_
    (case rmI => (first | exact room3 (by assumption) (by decide) | exact room2 (by assumption) (by decide) | omega | (dsimp only [Ar, Around.deeper]; omega) | (simp only [depth_deeper, units_deeper]; dsimp only [Ar]; omega)))
    (case unI => (first | exact room3 (by assumption) (by decide) | exact room2 (by assumption) (by decide) | omega | (dsimp only [Ar, Around.deeper]; omega) | (simp only [depth_deeper, units_deeper]; dsimp only [Ar]; omega)))
    rintro _ h9 tk9 G9 M9 _ ⟨t9, rfl⟩
    have hwo := word_ok (((drN ns : Nat) : Int) % 256).toNat
    generalize wordOf (((drN ns : Nat) : Int) % 256).toNat = wd at hwo
    dsimp only
    (try k_fold)
    k_steps
    have dW := ‹Obj.data _ = Data.cell (some (Value.str (sl wd) t9))›
    have dR := ‹Obj.data _ = Data.cell (some (Value.int _ _))›
    rw [drN_eq, rad_eq] at dR
    subst eTL
    refine hP' _ ?_
    refine' .mk _ wd (drN ns / 256 % 4) _ _ _ _ _ _ ?F (news_sub ‹News g L' _ _› ?sb) dW dR (fun c hc => by have := hwo.1 c hc; omega) (hwo.2) (by omega)
    (case F => wtm_at "frq")
    (case sb => wtm_at "sub")
    --}}I
  rintro _ ⟨u9, wd, rad, tw, tr, oW, oR, h9, tk9, F9, N9, hoW, hoR, hwd, hwdl, hrad⟩
  clear F8 N8
  dsimp only [List.drop]
  have hca : ∀ e ∈ prt W, costAt wd W e.1 = cost wd e.2 := fun e he => by
    obtain ⟨h1, h2⟩ := (hpm e.1 e.2).mp he
    exact costAt_of hWn hWs h1 h2.symm
  refine cutO (PV1_9 g L' I R DU dtp kU l tps nl rv kR dI hsh th n₁ oR oW w W wd s) 1 ?_ ?_
  ·
    --{{J
    intro P' hP'; dsimp only [List.take]
    have hk9 : ∀ q ∈ dtp, h9.get? q.1 = some q.2 := fun q hq => (N9 q ((by wtm_at "sub" : ∀ q ∈ dtp, q ∈ _) q hq)).1
    have hPr := hD.prs hk9
    have hc3 := (N9 (L' + 1 + 1 + 1, oW) (by wtm_at "mem")).1
    dsimp only at hc3
    have hlU := N9.isList (a := DU) (by wtm_at "mem")
    have iK := ne_cell N9 (a := DU) (b := L' + 1 + 1 + 1 + 1 + 1) (by wtm_at "mem") rfl (by wtm_at "mem") hcK
    have oK2 := tup_off N9 (fun x hx => (List.mem_append.mp hx).elim (hT.isTup x) (hD.isTup x)) (by wtm_at "sub" : ∀ q ∈ tps ++ dtp, q ∈ _) (a := L' + 1 + 1 + 1 + 1 + 1) (by wtm_at "mem") (.inr ⟨_, hcK⟩)
    have lAd : @LT.lt Nat _ (L' + 1 + 1 + 1 + 1 + 1) dI := Nat.lt_trans lA ld
    have lAI : @LT.lt Nat _ (L' + 1 + 1 + 1 + 1 + 1) I := Nat.lt_trans lAd lI
    have lAl : @LT.lt Nat _ (L' + 1 + 1 + 1 + 1 + 1) l := Nat.lt_trans lAI ll
    have lAR : @LT.lt Nat _ (L' + 1 + 1 + 1 + 1 + 1) R := Nat.lt_trans lAl lR
    have offK : ∀ q ∈ (DU, listOf (dtp.map fun q => Value.ref q.1).toArray kU) :: (l, listOf (tps.map fun q => Value.ref q.1).toArray nl) :: (R, listOf rv.toArray kR) :: (I, instObj 212 dI) :: (dI, PySem.W.dictOf [⟨hsh, .str (Str.ofString "_headers") th, .ref l⟩] n₁) :: (L' + 1 + 1 + 1 + 1, oR) :: (L' + 1 + 1 + 1, oW) :: (tps ++ dtp), q.1 ≠ L' + 1 + 1 + 1 + 1 + 1 := by k_all
    obtain ⟨TL, eTL, M9'⟩ := hideT (news_sub N9 (n₂ := (L' + 1 + 1 + 1 + 1 + 1, cK) :: (DU, listOf (dtp.map fun q => Value.ref q.1).toArray kU) :: (l, listOf (tps.map fun q => Value.ref q.1).toArray nl) :: (R, listOf rv.toArray kR) :: (I, instObj 212 dI) :: (dI, PySem.W.dictOf [⟨hsh, .str (Str.ofString "_headers") th, .ref l⟩] n₁) :: (L' + 1 + 1 + 1 + 1, oR) :: (L' + 1 + 1 + 1, oW) :: (tps ++ dtp)) (by wtm_at "sub"))
    rw [← eTL] at offK
    clear N9
    (try k_fold)
    k_steps
    have X2 := X'.keeps F9.keep
    have T2 := T'.keeps F9.keep
    refine' ⟨DU, (dtp.map fun q => Value.ref q.1).toArray, (fun _ i kvs _ nw => nw = [] ∧ kvs.length ≤ i ∧ ∀ j, j < i → ∀ (hj : j < (prt W).length), ∃ t, valueAt kvs (sl (prt W)[j].1) = some (.int ((costAt wd W (prt W)[j].1 : Nat) : Int) t)), rfl, hlU, ?hzJ, ?h0J, ?hlJ, ?stJ, doneLD F9 M9' ?finJ⟩
    (case hzJ => rw [sizeLine_eq, List.size_toArray, List.length_map]; omega)
    (case h0J => intro C cells hC hcl; cases hcl; exact ⟨rfl, Nat.le_refl _, fun j hj => absurd hj (Nat.not_lt_zero _)⟩)
    (case hlJ => intro C i kvs m nw hJ; exact hJ.2.1)
    (case stJ =>
      intro C i v kvs m nw rst h tk hi hJ hv F N hoff
      dsimp only at F N hi
      obtain ⟨rfl, hkl, hY⟩ := hJ
      obtain ⟨hi2, T5, tk5', tv5, rfl, hT5⟩ := hPr.get (by simpa using hv)
      refine cmp_store2 rfl F (hT5.at fun o e => F.keep _ _ e) (fun h10 tk10 F10 hk10 => ?_) rfl rfl rfl
      have N10 := news_but N hk10
      have hm := List.getElem_mem hi2
      have o2 := hWok _ (hpok _ hm).2.2.2
      k_steps
      refine' (lcost_pure wd (prt W)[i].2 _ _ hwd (fun c hc => by have := o2.1 c hc; omega) (by omega) (by omega)).use ?F X2 ?N T2 trivial ?rm ?un ?_
      (case F => assumption)
      (case N => assumption)
      (case rm => (first | exact room3 (by assumption) (by decide) | exact room2 (by assumption) (by decide) | omega | (dsimp only [Ar, Around.deeper]; omega) | (simp only [depth_deeper, units_deeper]; dsimp only [Ar]; omega)))
      (case un => (first | exact room3 (by assumption) (by decide) | exact room2 (by assumption) (by decide) | omega | (dsimp only [Ar, Around.deeper]; omega) | (simp only [depth_deeper, units_deeper]; dsimp only [Ar]; omega)))
      rintro _ h11 tk11 F11 N11 hk11 ⟨t11, rfl⟩
      dsimp only
      (try k_fold)
      k_steps
      refine ⟨_, _, _, [], rfl, F11, N11, fun _ h => (nomatch h), rfl, Nat.le_trans (stored_length_le _ _ _) (Nat.succ_le_succ hkl), fun j hj hj2 => ?_⟩
      rw [valueAt_stored]
      by_cases hs : sl (prt W)[j].1 = sl (prt W)[i].1
      · rw [if_pos hs, sl_inj.mp hs, hca _ hm]
        exact ⟨_, rfl⟩
      · rw [if_neg hs]
        exact hY j (Nat.lt_of_le_of_ne (Nat.le_of_lt_succ hj) fun e => hs (by subst e; rfl)) hj2)
    intro D C kvs o m nw h tk hJ ho G9 M9 hk10 hlt
    obtain ⟨rfl, hkl, hY⟩ := hJ
    rw [List.nil_append] at M9
    (try dsimp only)
    (try k_fold)
    have lP : @LT.lt Nat _ (L' + 1 + 1 + 1 + 1 + 1) D := hlt (L' + 1 + 1 + 1 + 1 + 1, cK) (.head _)
    k_lt2 lP
    k_steps
    subst eTL
    refine hP' _ ?_
    refine' .mk _ D o kvs _ _ _ ?F (news_sub ‹News g L' _ _› ?sb) (‹Obj.data _ = Data.cell (some (Value.ref D))›) ho ?Y
    (case F => wtm_at "frq")
    (case sb => wtm_at "sub")
    (case Y =>
      intro e he
      obtain ⟨j, hj, rfl⟩ := List.getElem_of_mem he
      exact hY j (by rw [List.size_toArray, List.length_map, hDl]; exact hj) hj)
    --}}J
  rintro _ ⟨u10, DK, oDK, kvc, oK, h10, tk10, F10, N10, hoK, hDK, hKC⟩
  clear F9 N9
  dsimp only [List.drop]
  have hps : (prt W).Pairwise fun a b => a.1 < b.1 := List.pairwise_map.mp (part_sorted W.length W [114] (Nat.le_refl _) hWn hWs)
  have hNn : (nearL wd rad (prt W)).Nodup := by
    unfold nearL
    refine List.pairwise_map.mpr ((hps.filter _).imp fun {a b} hab e => ?_)
    injection e with _ e
    rw [e] at hab
    exact List.lt_irrefl _ hab
  have hNl : (nearL wd rad (prt W)).length ≤ 10 := by
    unfold nearL
    rw [List.length_map]
    exact Nat.le_trans (List.length_filter_le _ _) (by omega)
  refine cutO (PV1_10 g L' I R DU DK oDK dtp kU l tps nl rv kR dI hsh th n₁ oK oR oW wd rad W s) 1 ?_ ?_
  ·
    --{{K
    intro P' hP'; dsimp only [List.take]
    have hk10 : ∀ q ∈ dtp, h10.get? q.1 = some q.2 := fun q hq => (N10 q ((by wtm_at "sub" : ∀ q ∈ dtp, q ∈ _) q hq)).1
    have hPr := hD.prs hk10
    have hc5 := (N10 (L' + 1 + 1 + 1 + 1 + 1, oK) (by wtm_at "mem")).1
    have hc4 := (N10 (L' + 1 + 1 + 1 + 1, oR) (by wtm_at "mem")).1
    have hdK := (N10 (DK, oDK) (by wtm_at "mem")).1
    dsimp only at hc5 hc4 hdK
    have hlU := N10.isList (a := DU) (by wtm_at "mem")
    obtain ⟨TL, eTL, M10⟩ := hideL N10
    clear N10
    (try k_fold)
    k_steps
    refine' CompX.list (items := (dtp.map fun q => Value.ref q.1).toArray) hlU ?hzK (fun _ i ys _ nw => ∃ cts, A3 (nw = cts) (ys = cts.map (fun q => Value.ref q.1)) (CtsAre cts (nearL wd rad ((prt W).take i)))) ?h0K ?stK (doneL2 F10 M10 ?finK)
    (case hzK => rw [sizeLine_eq, List.size_toArray, List.length_map]; omega)
    (case h0K => intro C cells hC hcl; cases hcl; exact ⟨[], rfl, rfl, .nil⟩)
    (case stK =>
      intro C i v ys m nw rst h tk hi hJ hv F N hoff
      dsimp only at F N hi
      obtain ⟨cts, rfl, rfl, hC⟩ := hJ
      obtain ⟨hi2, T5, tk5', tv5, rfl, hT5⟩ := hPr.get (by simpa using hv)
      refine cmp_store2 rfl F (hT5.at fun o e => F.keep _ _ e) (fun h11 tk11 F11 hk11 => ?_) rfl rfl rfl
      have N11 := news_but N hk11
      have hm := List.getElem_mem hi2
      obtain ⟨t5, e5⟩ := hKC _ hm
      rw [hca _ hm] at e5
      refine wpAny_tests_one ?_
      k_steps
      unfold Stop
      refine item_dict (Heap.dictOf_iff.mpr ⟨oDK, F11.keep _ _ hdK, hDK⟩) e5 ?_
      k_steps
      · have hle := ‹((cost wd (prt W)[i].2 : Nat) : Int) ≤ ((rad : Nat) : Int)›
        unfold Stop
        refine item_dict (Heap.dictOf_iff.mpr ⟨oDK, F11.keep _ _ hdK, hDK⟩) e5 ?_
        k_steps
        have l8 := ‹∀ p ∈ nw ++ rst, p.1 < _›
        have N8 := ‹News _ C _ (_ :: (nw ++ rst))›
        refine' ⟨_, _, _, nw ++ [_], rfl, ‹Fr _ C _ _›, news_sub N8 ?sb, ?off, nw ++ [_], rfl, ?ys, ?C⟩
        (case sb => rw [List.append_assoc]; wtm_at "sub")
        (case off =>
          intro q hq r hr
          rcases List.mem_append.mp hq with hq | hq
          · exact hoff q hq r hr
          · rw [List.mem_singleton.mp hq]; exact Nat.ne_of_gt (l8 r (List.mem_append_right _ hr)))
        (case ys => rw [List.map_append]; rfl)
        (case C =>
          rw [show nearL wd rad ((prt W).take (i + 1)) = nearL wd rad ((prt W).take i) ++ [(cost wd (prt W)[i].2, (prt W)[i].1)] from by unfold nearL; rw [filt_yes _ _ hi2 (by simpa using hle), List.map_append]; rfl]
          exact hC.append (.cons (p := (cost wd (prt W)[i].2, (prt W)[i].1)) .nil))
      · have hle := ‹¬((cost wd (prt W)[i].2 : Nat) : Int) ≤ ((rad : Nat) : Int)›
        refine ⟨_, _, _, nw, rfl, F11, N11, hoff, nw, rfl, rfl, ?_⟩
        rw [show nearL wd rad ((prt W).take (i + 1)) = nearL wd rad ((prt W).take i) from by unfold nearL; rw [filt_no _ _ hi2 (by simpa using hle)]]
        exact hC)
    intro D C ys m nw h tk hJ G9 M9 hk11 hD0 _ hlt
    obtain ⟨cts, rfl, rfl, hC⟩ := hJ
    rw [List.take_of_length_le (by rw [List.size_toArray, List.length_map]; omega)] at hC
    (try dsimp only)
    (try k_fold)
    k_steps
    unfold Stop
    refine sorted_cts G9 M9 (.head _) hC (by wtm_at "sub") hNn (by omega) fun D2 c2 h12 gts gs G12 M12 hlt2 hsub hG hGp hGm => ?_
    (try dsimp only)
    (try k_fold)
    k_steps
    subst eTL
    refine hP' _ ?_
    refine' .mk _ D2 c2 gts gs _ _ ?F (news_sub ‹News g L' _ _› ?sb) hG hGp hGm
    (case F => wtm_at "frq")
    (case sb =>
      refine sub_cons (by wtm_at "mem") (sub_cons (by wtm_at "mem") (sub_cons (by wtm_at "mem") (sub_cons (by wtm_at "mem") (sub_cons (by wtm_at "mem") (sub_cons (by wtm_at "mem") (sub_cons (by wtm_at "mem") (sub_cons (by wtm_at "mem") (sub_cons (by wtm_at "mem") (sub_cons (by wtm_at "mem") (sub_app ?_ ?_))))))))))
      · wtm_at "sub"
      · exact fun q hq => (by wtm_at "sub" : ∀ q ∈ nw, q ∈ _) q (hsub q hq))
    --}}K
  rintro _ ⟨u11, DN, kN, gts, gs, h11, tk11, F11, N11, hG, hGp, hGm⟩
  clear F10 N10
  dsimp only [List.drop]
  have hpre : ∀ e ∈ prt W, ∀ k, 1 ≤ k → k ≤ e.1.length → ∃ t, valueAt kvc (sl (e.1.take k)) = some (.int ((costAt wd W (e.1.take k) : Nat) : Int) t) := fun e he k h1 h2 => by
    obtain ⟨e', he', e2⟩ := part_prefix W.length W [114] e he k h1 h2
    rw [← e2]; exact hKC e' he'
  have hfig : ∀ e ∈ prt W, ∀ k, 1 ≤ k → k < e.1.length → 48 ≤ e.1.getD k 0 ∧ e.1.getD k 0 < 58 := fun e he k h1 h2 => by
    obtain ⟨h3, h4⟩ := (hpm e.1 e.2).mp he
    rw [h4] at h2 ⊢
    exact path_fig hWs h3 h1 h2
  have hp1 : ∀ e ∈ prt W, 1 ≤ e.1.length := fun e he => part_len W.length W [114] e he
  have hcb : ∀ e ∈ prt W, ∀ k, 1 ≤ k → k ≤ e.1.length → costAt wd W (e.1.take k) < 10 := fun e he k h1 h2 => by
    obtain ⟨e', he', e2⟩ := part_prefix W.length W [114] e he k h1 h2
    rw [← e2, hca e' he']
    have h3 := cost_bound wd e'.2
    have h4 := (hWok _ (hpok e' he').2.2.2).2
    omega
  refine cutO (PV1_11 g L' I R DN gts kN l tps nl rv kR dI hsh th n₁ oR oW W wd rad s) 1 ?_ ?_
  ·
    --{{L
    intro P' hP'; dsimp only [List.take]
    have X2 := X'.keeps F11.keep
    have T2 := T'.keeps F11.keep
    have hk11 : ∀ q ∈ dtp, h11.get? q.1 = some q.2 := fun q hq => (N11 q ((by wtm_at "sub" : ∀ q ∈ dtp, q ∈ _) q hq)).1
    have hPr := hD.prs hk11
    have hc5 := (N11 (L' + 1 + 1 + 1 + 1 + 1, oK) (by wtm_at "mem")).1
    have hc4 := (N11 (L' + 1 + 1 + 1 + 1, oR) (by wtm_at "mem")).1
    have hdK := (N11 (DK, oDK) (by wtm_at "mem")).1
    dsimp only at hc5 hc4 hdK
    have hlU := N11.isList (a := DU) (by wtm_at "mem")
    obtain ⟨TL, eTL, M11⟩ := hideL N11
    clear N11
    (try k_fold)
    k_steps
    refine' CompX.list (items := (dtp.map fun q => Value.ref q.1).toArray) hlU ?hzL (fun C i ys _ nw => E2 fun ok vk => A3 (nw = [(C + 1, ok)]) (ok.data = .cell vk) (StrsAre ys (((((prt W).take i).filter fun e => okFrom wd rad W 1 e.1).map (·.1)).map sl))) ?h0L ?stL (doneS2 F11 M11 rfl rfl ?finL)
    (case hzL => rw [sizeLine_eq, List.size_toArray, List.length_map]; omega)
    (case h0L => intro C cells hC hcl; obtain ⟨ok, rfl, hok⟩ := hcl.one; exact ⟨ok, _, rfl, hok, .nil⟩)
    (case stL =>
      intro C i v ys m nw rst h tk hi hJ hv F N hoff
      dsimp only at F N hi
      obtain ⟨ok, vk, rfl, hok, hY⟩ := hJ
      obtain ⟨hi2, T5, tk5', tv5, rfl, hT5⟩ := hPr.get (by simpa using hv)
      have hm := List.getElem_mem hi2
      have hq1 := hp1 _ hm
      have hq13 := (hpok _ hm).2.1
      have hpre1 := hpre _ hm
      have hfig1 := hfig _ hm
      have hcb1 := hcb _ hm
      refine cmp_store2C (c := C + 1) rfl F N (fun p hp => Ne.symm (hoff _ (.head _) p hp)) rfl hok (hT5.at fun o e => F.keep _ _ e) (fun h12 ok12 tk12 F12 N12 hok12 => ?_) rfl rfl rfl
      generalize hq : (prt W)[i].1 = q at hq1 hq13 hpre1 hfig1 hcb1 hok12 F12
      have hql : (sl q).length = q.length := sl_length _
      have hck := (N12 (C + 1, ok12) (.head _)).1
      dsimp only at hck
      refine wpAny_tests_one ?_
      k_steps
      have G1 := ‹Fr h11 C _ _›
      have M1 := ‹News h11 C _ ((C + 1, ok12) :: _)›
      have hck1 := (M1 (C + 1, ok12) (.head _)).1
      have hc5b := G1.keep _ _ hc5
      have hc4b := G1.keep _ _ hc4
      have hdKb := G1.keep _ _ hdK
      have X3 := X2.keeps G1.keep
      have T3 := T2.keeps G1.keep
      dsimp only at hck1
      refine' CompX.range (n := q.length - 1) ‹IsRange _ _ _ _ _ _ _ _› ?sm2 ?rs2 ?hz2 (fun _ j ys2 _ nw2 => nw2 = [] ∧ IntsAre ys2 (((List.range j).filter fun k => bad wd rad W q (k + 1)).map fun k : Nat => (1 : Int) + (k : Int))) ?h02 ?st2 (doneL2 G1 M1 ?finL2)
      (case sm2 => exact small_any ⟨by omega, by omega⟩ ⟨by omega, by omega⟩ (.inl rfl))
      (case rs2 => unfold Builtin.Range.rangeSize; rw [if_pos (by decide)]; split <;> omega)
      (case hz2 => exact line_le (by omega))
      (case h02 => intro C2 cells hC hcl; cases hcl; exact ⟨rfl, .nil⟩)
      (case st2 =>
        intro C2 j v ys2 m2 nw2 rst2 h2 tk2 hj hJ2 hv2 F2 N2 hoff2
        dsimp only at F2 N2 hj
        obtain ⟨rfl, hY2⟩ := hJ2
        obtain ⟨tv2, rfl⟩ := hv2
        refine cmp_store F2 (fun h5 F5 hk5 => ?_) rfl rfl
        have N5 := news_but N2 hk5
        have hjq : j + 1 < q.length := by omega
        have hf1 := hfig1 (j + 1) (by omega) hjq
        have hc1 := hcb1 (j + 1) (by omega) (by omega)
        obtain ⟨t6, e6⟩ := hpre1 (j + 1) (by omega) (by omega)
        have e1j : (1 : Int) + (j : Int) = ((j + 1 : Nat) : Int) := by omega
        have hit : Txt.item (sl q) (1 + (j : Int)) = Str.ofString (toString ((q.getD (j + 1) 0 - 48 : Nat) : Int)) := by
          rw [e1j, item_sl q (j + 1) hjq, dig_sl _ (by omega), getD_at hjq, Nat.add_sub_of_le hf1.1]
        refine wpAny_tests_one ?_
        k_steps
        unfold Stop
        rw [hit]
        refine KIN.call_num (by omega) (by omega) ?_
        k_steps
        unfold Stop
        rw [show Txt.slice (sl q) none (some (1 + (j : Int))) = sl (q.take (j + 1)) from by rw [e1j]; exact slice_to q (j + 1) (by omega)]
        have Fq := ‹Fr _ C2 _ _›
        refine item_dict (Heap.dictOf_iff.mpr ⟨oDK, Fq.keep _ _ hdKb, hDK⟩) e6 ?_
        k_steps
        · have e := ‹((rad : Nat) : Int) < if _ then _ else _›
          refine ⟨_, _, _, [], rfl, Fq, ‹News _ C2 _ ([] ++ rst2)›, fun _ h => (nomatch h), rfl, ?_⟩
          rw [range_bad (show bad wd rad W q (j + 1) = true from by unfold bad; rw [decide_eq_false (abs_bad.mp e)]; rfl), List.map_append]
          exact IntsAre.snoc hY2 _ _
        · have e := ‹¬((rad : Nat) : Int) < if _ then _ else _›
          refine ⟨_, _, _, [], rfl, Fq, ‹News _ C2 _ ([] ++ rst2)›, fun _ h => (nomatch h), rfl, ?_⟩
          rw [range_ok (show bad wd rad W q (j + 1) = false from by unfold bad; rw [decide_eq_true (Decidable.byContradiction fun c => e (abs_bad.mpr c))]; rfl)]
          exact hY2)
      intro D2 C2 ys2 m2 nw2 h2 tk2 hJ2 F2 N2 hk2 _ _ _
      obtain ⟨rfl, hY2⟩ := hJ2
      (try dsimp only)
      k_steps
      unfold Stop
      have M3 := ‹News h11 C _ ((_, listOf #[] 0) :: _)›
      have F3' := ‹Fr h11 C _ _›
      refine eq_none_ints M3 (a := D2) (vs := ys2) (by wtm_at "mem") hY2 (.head _) (by (first | exact room3 (by assumption) (by decide) | exact room2 (by assumption) (by decide) | omega | (dsimp only [Ar, Around.deeper]; omega) | (simp only [depth_deeper, units_deeper]; dsimp only [Ar]; omega))) ?_
      rw [show decide ((((List.range (q.length - 1)).filter fun k => bad wd rad W q (k + 1)).map fun k : Nat => (1 : Int) + (k : Int)) = []) = okFrom wd rad W 1 q from by rw [okFrom_bad _ _ _ _ hq1]; exact decide_eq_decide.mpr (by rw [List.map_eq_nil_iff])]
      have hck3 := (M3 (C + 1, ok12) (by wtm_at "mem")).1
      dsimp only at hck3
      cases hokq : okFrom wd rad W 1 q with
      | true =>
        k_steps
        refine ⟨_, _, _, [(C + 1, ok12)], rfl, F3', news_sub M3 (by wtm_at "sub"), fun p hp q' hq' => by rw [List.mem_singleton.mp hp]; exact hoff _ (.head _) q' hq', ok12, _, rfl, hok12, ?_⟩
        rw [filt_yes _ _ hi2 (by rw [hq]; exact hokq), List.map_append, List.map_append]
        show StrsAre _ (_ ++ [sl (prt W)[i].1])
        rw [hq]
        exact StrsAre.snoc ‹StrsAre ys _› _ _
      | false =>
        k_steps
        refine ⟨_, _, _, [(C + 1, ok12)], rfl, F3', news_sub M3 (by wtm_at "sub"), fun p hp q' hq' => by rw [List.mem_singleton.mp hp]; exact hoff _ (.head _) q' hq', ok12, _, rfl, hok12, ?_⟩
        rw [filt_no _ _ hi2 (by rw [hq]; exact hokq)]
        exact ‹StrsAre ys _›)
    intro D C ys m nw h tk hJ G9 M9 hk12 hD0 _ hlt
    obtain ⟨ok, vk, rfl, hok, hY⟩ := hJ
    rw [List.take_of_length_le (by rw [List.size_toArray, List.length_map]; omega)] at hY
    (try dsimp only)
    (try k_fold)
    k_steps
    subst eTL
    refine hP' _ ?_
    refine' .mk _ D ys _ _ _ ?F (news_sub M9 ?sb) hY
    (case F => wtm_at "frq")
    (case sb =>
      refine sub_cons (by wtm_at "mem") (sub_cons (by wtm_at "mem") (sub_cons (by wtm_at "mem") (sub_cons (by wtm_at "mem") (sub_cons (by wtm_at "mem") (sub_cons (by wtm_at "mem") (sub_cons (by wtm_at "mem") (sub_cons (by wtm_at "mem") (sub_app ?_ ?_))))))))
      · wtm_at "sub"
      · wtm_at "sub")
    --}}L
  rintro _ ⟨u12, DS, vS, kS, h12, tk12, F12, N12, hS⟩
  clear F11 N11
  dsimp only [List.drop]
  obtain ⟨rest, hxe, hx2⟩ := seen_first wd rad hW0
  have hseen : (part W.length W [114]).filter (fun e => okFrom wd rad W 1 e.1) = seenT wd rad W.length W [114] := seen_filter hWn hWs W.length W [114] .refl
  have hxl : (((prt W).filter fun e => okFrom wd rad W 1 e.1).map (·.1)).length ≤ 10 := by
    rw [List.length_map]; exact Nat.le_trans (List.length_filter_le _ _) (by omega)
  have hxr : (((prt W).filter fun e => okFrom wd rad W 1 e.1).map (·.1)).Pairwise (· < ·) := List.pairwise_map.mpr (hps.filter _)
  have hx200 : ∀ x ∈ ((prt W).filter fun e => okFrom wd rad W 1 e.1).map (·.1), x.length ≤ 200 := fun x hx => by
    obtain ⟨e, he, rfl⟩ := List.mem_map.mp hx
    have := (hpok e (List.mem_filter.mp he).1).2.1
    omega
  have hxc : ∀ x ∈ ((prt W).filter fun e => okFrom wd rad W 1 e.1).map (·.1), ∀ c ∈ x, c < 128 := fun x hx => by
    obtain ⟨e, he, rfl⟩ := List.mem_map.mp hx
    exact (hpok e (List.mem_filter.mp he).1).1
  have hxm : ∀ x, x ∈ ((prt W).filter fun e => okFrom wd rad W 1 e.1).map (·.1) ↔ x ∈ (seenT wd rad W.length W [114]).map (·.1) := fun x => by rw [← hseen]; exact Iff.rfl
  have hx0 : ∀ j, 0 < j → j < (((prt W).filter fun e => okFrom wd rad W 1 e.1).map (·.1)).length → ((((prt W).filter fun e => okFrom wd rad W 1 e.1).map (·.1)).getD 0 []).length < ((((prt W).filter fun e => okFrom wd rad W 1 e.1).map (·.1)).getD j []).length := by
    show ∀ j, 0 < j → j < (((part W.length W [114]).filter fun e => okFrom wd rad W 1 e.1).map (·.1)).length → ((((part W.length W [114]).filter fun e => okFrom wd rad W 1 e.1).map (·.1)).getD 0 []).length < ((((part W.length W [114]).filter fun e => okFrom wd rad W 1 e.1).map (·.1)).getD j []).length
    rw [hxe]
    intro j hj hjl
    obtain ⟨j, rfl⟩ : ∃ i, j = i + 1 := ⟨j - 1, by omega⟩
    have hjl : j < rest.length := by simpa using hjl
    have e : ([114] :: rest).getD (j + 1) [] = rest[j] := by
      rw [List.getD_eq_getElem?_getD]
      show (rest[j]?).getD [] = _
      rw [List.getElem?_eq_getElem hjl]; rfl
    rw [e]
    exact hx2 _ (List.getElem_mem hjl)
  generalize ((prt W).filter fun e => okFrom wd rad W 1 e.1).map (·.1) = xs at hS hxl hxr hx200 hxm hx0 hxc
  --{{M
  have hPrs := hT.prs (h := h12) (fun q hq => (N12 q ((by wtm_at "sub" : ∀ q ∈ tps, q ∈ _) q hq)).1)
  have hTab : TabG 212 h12 I dI l (tps.map fun q => Value.ref q.1) (tabOf W) := ⟨hsh, th, n₁, (N12 (I, _) (by wtm_at "mem")).1, (N12 (dI, _) (by wtm_at "mem")).1, N12.isList (a := l) (by wtm_at "mem"), hPrs⟩
  have hlR := N12.isList (a := R) (by wtm_at "mem")
  obtain ⟨TL, eTL, M12⟩ := hideTT (news_sub N12 (n₂ := (L' + 1 + 1 + 1 + 1, oR) :: (L' + 1 + 1 + 1, oW) :: (DS, listOf vS.toArray kS) :: (DN, listOf (gts.map fun q => Value.ref q.1).toArray kN) :: (l, listOf (tps.map fun q => Value.ref q.1).toArray nl) :: (R, listOf rv.toArray kR) :: (I, instObj 212 dI) :: (dI, PySem.W.dictOf [⟨hsh, .str (Str.ofString "_headers") th, .ref l⟩] n₁) :: (tps ++ gts)) (by wtm_at "sub"))
  have mDS : (DS, listOf vS.toArray kS) ∈ TL := by rw [eTL]; exact .head _
  clear N12
  (try k_fold)
  k_steps
  refine' (search_mut I dI l R (tps.map fun q => Value.ref q.1) rv W wd rad tw tr hW0 hWn hWs (by omega) (fun v hv => ⟨fun c hc => by have := (hWok v hv).1 c hc; omega, (hWok v hv).2⟩) ⟨hwd, hwdl⟩ hrad hR).use2 TL ‹Fr g L' _ _› X' ‹News g L' _ _› T' (fun _ h => nomatch h) (fun q hq => ⟨.tail _ (.tail _ hq), List.not_mem_nil⟩) ?tabM ?rmM ?unM ?_
  (case tabM => exact ⟨hTab, hlR⟩)
  (case rmM => (first | exact room3 (by assumption) (by decide) | exact room2 (by assumption) (by decide) | omega | (dsimp only [Ar, Around.deeper]; omega) | (simp only [depth_deeper, units_deeper]; dsimp only [Ar]; omega)))
  (case unM => (first | exact room3 (by assumption) (by decide) | exact room2 (by assumption) (by decide) | omega | (dsimp only [Ar, Around.deeper]; omega) | (simp only [depth_deeper, units_deeper]; dsimp only [Ar]; omega)))
  rintro _ h13 tk13 S13 F13 N13 hk13 hnew ⟨TT, AA, DD, kt, ka, kd, av, fts, dn, fs, rfl, hQ, hAV, hFT, hFS, hFA, rfl⟩
  (try dsimp only)
  (try k_fold)
  k_steps
  unfold Stop
  refine sorted_len F13 N13 (N13.isList (a := DS) (List.mem_append_right _ mDS)) hS hx200 hxr (by omega) hx0 fun D2 c2 h14 tk14 gv gl F14 N14 hlt hGv hGl hGlm => ?_
  (try dsimp only)
  (try k_fold)
  k_steps
  unfold Stop
  have N15 := ‹News g L' _ _›
  subst eTL
  have hask : dn.map (·.2) = gl := asked_eq hWs hQ hGl fun x => (hGlm x).trans (hxm x)
  have hfnd : fs = gs := found_eq hWs hQ hFA hFS hGp hGm
  subst hfnd
  rw [hask] at hAV
  refine eq_datT N15 (vs := [.ref AA, .ref DD]) (us := [.ref D2, .ref DN]) (ds := [Dat.list (gl.map fun x => Dat.str (sl x)), Dat.list (fs.map fun p => Dat.tuple [Dat.int (p.1 : Int), Dat.str (sl p.2)])]) (ka := kt) (kb := 0) (by wtm_at "mem") ?d1 (by wtm_at "mem") ?d2 ?dk (by (first | exact room3 (by assumption) (by decide) | exact room2 (by assumption) (by decide) | omega | (dsimp only [Ar, Around.deeper]; omega) | (simp only [depth_deeper, units_deeper]; dsimp only [Ar]; omega))) ?_
  (case d1 => exact .cons (.list (n := ka) (by wtm_at "mem") (dat_strs hAV _)) (.cons (.list (n := kd) (by wtm_at "mem") (dat_cts hFT (by wtm_at "sub"))) .nil))
  (case d2 => exact .cons (.list (n := c2) (by wtm_at "mem") (dat_strs hGv _)) (.cons (.list (n := kN) (by wtm_at "mem") (dat_cts hG (by wtm_at "sub"))) .nil))
  (case dk =>
    intro d hd
    rcases List.mem_cons.mp hd with rfl | hd
    · show (gl.map fun x => Dat.str (sl x)).all (kqdOk 7) = true
      rw [List.all_eq_true]
      intro d hd
      obtain ⟨x, hx, rfl⟩ := List.mem_map.mp hd
      exact strOk_sl (hxc x ((hGlm x).mp hx))
    · rw [List.mem_singleton.mp hd]
      show (fs.map fun p => Dat.tuple [Dat.int (p.1 : Int), Dat.str (sl p.2)]).all (kqdOk 7) = true
      rw [List.all_eq_true]
      intro d hd
      obtain ⟨p, hp, rfl⟩ := List.mem_map.mp hd
      obtain ⟨e, he, rfl⟩ := List.mem_map.mp ((hGm p).mp hp)
      have := strOk_sl (hpok e (List.mem_filter.mp he).1).1
      simp [kqdOk, this])
  (try k_fold)
  k_steps
  exact hret _ _ _ (by (refine' stays_of ?h1 ?h2; (case h1 => assumption); (case h2 => assumption))) rfl
  --}}M

end
noncomputable section
theorem law_top (LP : ∀ (a : Addr) (vs : List Value) (ns : List Int), IntsAre vs ns → ns.length ≤ 63 → Pure Mine.hd1.heap_1 PySem.Challenge.rw_pe0272_01.row.prog 248 400 ⟨[.ref a], []⟩ (fun _ h => h.IsList a vs.toArray) (fun r _ => r = .bool true)) : PySem.Challenge.rw_pe0272_01.Holds := hd1 (by
  intro w s₀ s₁ mg mb G Y fa o pm cd doc dV kV ho hd hcd hD hmg hg args vals as hpre hlay hrd hwl hlo
  have KX := kIn_of Y
  refine Ground.open G ?_
  intro T B D TE TW
  have e1 : mg (Str.ofString "law") = some (.ref 248) := mg_of KX T.g (by kernel_rfl)
  have hfa : fa = 248 := Value.ref.inj (Option.some.inj (hmg.symm.trans e1))
  subst hfa
  clear hmg e1
  wrow_args hpre hlay hrd hwl hlo
  refine LP _ _ _ ‹IntsAre _ _› (by omega) w _ _ _ mg mb (1 + claimMargin) 4 (some []) (some []) s₁ _ _ KX T ‹Heap.IsList _ _ _› (by decide) (by decide) (fun r h' tk' hk hr => ?_)
  subst hr
  refine GoodW.toG ⟨.inl ⟨_, _, _, rfl, raisesW_false ?hn, .bool true, ?hp, unshared_nil⟩, hk, rfl, hg⟩
  (case hn => wrow_none_raised)
  (case hp => exact postW_of (by wrow_shape) (by wtm_val) rfl))

end

end Mine
theorem PySem.Challenge.cw_pe0272_01_holds : PySem.Challenge.rw_pe0272_01.Holds :=
  Mine.law_top fun a vs ns hI hl => Mine.law_pure a vs ns hI hl
