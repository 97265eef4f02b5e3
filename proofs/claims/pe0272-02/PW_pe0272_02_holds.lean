import PyProof.Rows.All
import Wide.All
import OpenK.AllK
import Wide.FinOn
import Lean
import PySem.Challenge.RW_pe0272_02
set_option compiler.extract_closed false
open PySem PySem.W PyProof.Rows PySem.Spec PySem.Calls
set_option Elab.async false
set_option maxRecDepth 100000
set_option maxHeartbeats 4000000
namespace Mine
noncomputable section
noncomputable def lowc (c : Nat) : Nat := if 65 ≤ c ∧ c ≤ 90 then c + 32 else c
noncomputable def subc (c d : Nat) : Nat := if c = d then 0 else if lowc c = lowc d then 1 else 2

noncomputable def costRow (x : Nat) (ca : List Nat → Nat) : List Nat → Nat
  | [] => 2 + ca []
  | y :: b => min (subc x y + ca b) (min (2 + ca (y :: b)) (2 + costRow x ca b))
noncomputable def cost : List Nat → List Nat → Nat
  | [], b => 2 * b.length
  | x :: a, b => costRow x (cost a) b

theorem subc_self (x : Nat) : subc x x = 0 := by simp [subc]
theorem subc_comm (x y : Nat) : subc x y = subc y x := by
  unfold subc
  by_cases h : x = y
  · subst h; simp
  · have h' : ¬ y = x := fun e => h e.symm
    rw [if_neg h, if_neg h']
    by_cases h2 : lowc x = lowc y
    · rw [if_pos h2, if_pos h2.symm]
    · have h2' : ¬ lowc y = lowc x := fun e => h2 e.symm
      rw [if_neg h2, if_neg h2']
theorem subc_le (x y : Nat) : subc x y ≤ 2 := by unfold subc; split <;> (try split) <;> omega
theorem subc_tri (x y z : Nat) : subc x z ≤ subc x y + subc y z := by
  unfold subc
  by_cases h1 : x = y
  · subst h1; simp
  · by_cases h2 : y = z
    · subst h2; simp
    · rw [if_neg h1, if_neg h2]
      by_cases h3 : lowc x = lowc y
      · by_cases h4 : lowc y = lowc z
        · rw [if_pos h3, if_pos h4]
          rw [if_pos (h3.trans h4)]
          split <;> omega
        · rw [if_pos h3, if_neg h4]
          split <;> (try split) <;> omega
      · rw [if_neg h3]
        split <;> (try split) <;> omega

theorem cost_nil (b : List Nat) : cost [] b = 2 * b.length := by simp [cost]
theorem cost_nil_r : ∀ a : List Nat, cost a [] = 2 * a.length
  | [] => by simp [cost]
  | x :: a => by simp only [cost, costRow, cost_nil_r a, List.length_cons]; omega
theorem cost_cons (x y : Nat) (a b : List Nat) : cost (x :: a) (y :: b) = min (subc x y + cost a b) (min (2 + cost a (y :: b)) (2 + cost (x :: a) b)) := by
  simp only [cost, costRow]

/-- an alignment of two texts and what it costs -/
inductive Al : List Nat → List Nat → Nat → Prop where
  | nil : Al [] [] 0
  | sub (x y : Nat) {a b : List Nat} {n : Nat} : Al a b n → Al (x :: a) (y :: b) (subc x y + n)
  | del (x : Nat) {a b : List Nat} {n : Nat} : Al a b n → Al (x :: a) b (2 + n)
  | ins (y : Nat) {a b : List Nat} {n : Nat} : Al a b n → Al a (y :: b) (2 + n)

theorem al_ins_all : ∀ b : List Nat, Al [] b (2 * b.length)
  | [] => .nil
  | y :: b => by
    have h := Al.ins y (al_ins_all b)
    have e : 2 * (y :: b).length = 2 + 2 * b.length := by simp only [List.length_cons]; omega
    rw [e]; exact h

theorem al_cost : ∀ a b : List Nat, Al a b (cost a b) := by
  intro a
  induction a with
  | nil => intro b; rw [cost_nil]; exact al_ins_all b
  | cons x a iha =>
    intro b
    induction b with
    | nil =>
      have e : cost (x :: a) [] = 2 + cost a [] := by simp only [cost, costRow]
      rw [e]; exact .del x (iha [])
    | cons y b ihb =>
      rw [cost_cons]
      by_cases h1 : subc x y + cost a b ≤ min (2 + cost a (y :: b)) (2 + cost (x :: a) b)
      · rw [Nat.min_eq_left h1]; exact .sub x y (iha b)
      · rw [Nat.min_eq_right (by omega)]
        by_cases h2 : 2 + cost a (y :: b) ≤ 2 + cost (x :: a) b
        · rw [Nat.min_eq_left h2]; exact .del x (iha (y :: b))
        · rw [Nat.min_eq_right (by omega)]; exact .ins y ihb

theorem cost_del (x : Nat) (a b : List Nat) : cost (x :: a) b ≤ 2 + cost a b := by
  cases b with
  | nil => simp only [cost, costRow]; omega
  | cons y b => rw [cost_cons]; omega
theorem cost_ins (y : Nat) (a b : List Nat) : cost a (y :: b) ≤ 2 + cost a b := by
  cases a with
  | nil => simp only [cost_nil, List.length_cons]; omega
  | cons x a => rw [cost_cons]; omega
theorem cost_sub (x y : Nat) (a b : List Nat) : cost (x :: a) (y :: b) ≤ subc x y + cost a b := by rw [cost_cons]; omega

theorem cost_le {a b : List Nat} {n : Nat} (h : Al a b n) : cost a b ≤ n := by
  induction h with
  | nil => simp [cost]
  | @sub x y a b n _ ih => have := cost_sub x y a b; omega
  | @del x a b n _ ih => have := cost_del x a b; omega
  | @ins y a b n _ ih => have := cost_ins y a b; omega

theorem Al.comm {a b : List Nat} {n : Nat} (h : Al a b n) : Al b a n := by
  induction h with
  | nil => exact .nil
  | sub x y _ ih => rw [subc_comm]; exact .sub y x ih
  | del x _ ih => exact .ins x ih
  | ins y _ ih => exact .del y ih
theorem cost_comm (a b : List Nat) : cost a b = cost b a :=
  Nat.le_antisymm (cost_le (al_cost b a).comm) (cost_le (al_cost a b).comm)

theorem Al.append {a b c d : List Nat} {n m : Nat} (h : Al a b n) (k : Al c d m) : Al (a ++ c) (b ++ d) (n + m) := by
  induction h with
  | nil => simpa using k
  | sub x y _ ih => have := Al.sub x y ih; rw [Nat.add_assoc]; exact this
  | del x _ ih => have := Al.del x ih; rw [Nat.add_assoc]; exact this
  | ins y _ ih => have := Al.ins y ih; rw [Nat.add_assoc]; exact this
theorem Al.rev {a b : List Nat} {n : Nat} (h : Al a b n) : Al a.reverse b.reverse n := by
  induction h with
  | nil => exact .nil
  | @sub x y a b n _ ih =>
    have := ih.append (Al.sub x y .nil)
    rw [List.reverse_cons, List.reverse_cons]
    have e : subc x y + n = n + (subc x y + 0) := by omega
    rw [e]; exact this
  | del x _ ih =>
    have := ih.append (Al.del x .nil)
    rw [List.reverse_cons]
    rw [Nat.add_comm]; simpa using this
  | ins y _ ih =>
    have := ih.append (Al.ins y .nil)
    rw [List.reverse_cons]
    rw [Nat.add_comm]; simpa using this
theorem cost_rev (a b : List Nat) : cost a.reverse b.reverse = cost a b := by
  refine Nat.le_antisymm (cost_le (al_cost a b).rev) (cost_le ?_)
  have := (al_cost a.reverse b.reverse).rev
  simpa using this

theorem cost_snoc (x y : Nat) (a b : List Nat) : cost (a ++ [x]) (b ++ [y]) = min (subc x y + cost a b) (min (2 + cost a (b ++ [y])) (2 + cost (a ++ [x]) b)) := by
  have e := cost_cons x y a.reverse b.reverse
  have e1 : cost (a ++ [x]) (b ++ [y]) = cost (x :: a.reverse) (y :: b.reverse) := by rw [← cost_rev]; simp
  have e2 : cost a.reverse (y :: b.reverse) = cost a (b ++ [y]) := by rw [← cost_rev a (b ++ [y])]; simp
  have e3 : cost (x :: a.reverse) b.reverse = cost (a ++ [x]) b := by rw [← cost_rev (a ++ [x]) b]; simp
  rw [e1, e, cost_rev, e2, e3]

theorem tri_al {a b : List Nat} {n : Nat} (h : Al a b n) : ∀ {c : List Nat} {m : Nat}, Al b c m → cost a c ≤ n + m := by
  induction h with
  | nil => intro c m k; have := cost_le k; omega
  | @sub x y a b n h1 ih =>
    intro c m k
    generalize hb : y :: b = bb at k
    induction k with
    | nil => cases hb
    | @sub y' z b' c m' k' _ =>
      cases hb
      have := ih k'
      have h2 := cost_sub x z a c
      have h3 := subc_tri x y z
      omega
    | @del y' b' c m' k' _ =>
      cases hb
      have := ih k'
      have h2 := cost_del x a c
      omega
    | @ins z b' c m' k' ihk =>
      have := ihk hb
      have h2 := cost_ins z (x :: a) c
      omega
  | @del x a b n h1 ih =>
    intro c m k
    have := ih k
    have h2 := cost_del x a c
    omega
  | @ins y a b n h1 ih =>
    intro c m k
    generalize hb : y :: b = bb at k
    induction k with
    | nil => cases hb
    | @sub y' z b' c m' k' _ =>
      cases hb
      have := ih k'
      have h2 := cost_ins z a c
      omega
    | @del y' b' c m' k' _ =>
      cases hb
      have := ih k'
      omega
    | @ins z b' c m' k' ihk =>
      have := ihk hb
      have h2 := cost_ins z a c
      omega
theorem cost_tri (a b c : List Nat) : cost a c ≤ cost a b + cost b c := tri_al (al_cost a b) (al_cost b c)

theorem cost_self : ∀ a : List Nat, cost a a = 0
  | [] => by simp [cost]
  | x :: a => by have := cost_sub x x a a; rw [subc_self, cost_self a] at this; omega
theorem cost_pre : ∀ p a b : List Nat, cost (p ++ a) (p ++ b) = cost a b
  | [], _, _ => rfl
  | x :: p, a, b => by
    have ih := cost_pre p a b
    show cost (x :: (p ++ a)) (x :: (p ++ b)) = _
    have h := cost_cons x x (p ++ a) (p ++ b)
    have h1 := cost_tri (p ++ a) (x :: (p ++ b)) (p ++ b)
    have h2 := cost_tri (p ++ a) (x :: (p ++ a)) (p ++ b)
    have h3 : cost (x :: (p ++ b)) (p ++ b) ≤ 2 := by have := cost_del x (p ++ b) (p ++ b); rw [cost_self] at this; omega
    have h4 : cost (p ++ a) (x :: (p ++ a)) ≤ 2 := by have := cost_ins x (p ++ a) (p ++ a); rw [cost_self] at this; omega
    rw [subc_self] at h
    omega
theorem cost_suf (q a b : List Nat) : cost (a ++ q) (b ++ q) = cost a b := by
  rw [← cost_rev]
  simp only [List.reverse_append]
  rw [cost_pre, cost_rev]

theorem cost_bound : ∀ a b : List Nat, cost a b ≤ 2 * max a.length b.length
  | [], b => by simp [cost_nil]
  | x :: a, [] => by rw [cost_nil_r]; simp
  | x :: a, y :: b => by
    have h := cost_sub x y a b
    have h2 := cost_bound a b
    have h3 := subc_le x y
    simp only [List.length_cons]
    omega
end
noncomputable section
-- small facts of order by name: their proofs are short
theorem om_lo (n j : Nat) : -(n : Int) ≤ 0 + (j : Int) := by omega
theorem om_lo1 (n j : Nat) : -(n : Int) ≤ (j : Int) := by omega
theorem om_z (j : Nat) : (0 : Int) ≤ 0 + (j : Int) := by omega
theorem om_hi1 {n j : Nat} (h : j < n) : (j : Int) < (n : Int) := by omega
theorem om_hi3 {n m j : Nat} (h : j < n) (e : m = n) : (j : Int) < (m : Int) := by omega
theorem om_le {a b c : Nat} (h : a ≤ b) (k : b ≤ c) : a ≤ c := Nat.le_trans h k
theorem om_le2 {a b c d : Nat} (e : a = b) (h : b ≤ c) (k : c ≤ d) : a ≤ d := by omega
theorem om_leI {a b : Nat} {c : Int} (h : a ≤ b) (k : (b : Int) < c) : (a : Int) < c := by omega
theorem om_leI2 {a b d : Nat} {c : Int} (e : a = d) (h : d ≤ b) (k : (b : Int) < c) : (a : Int) < c := by omega
theorem om_leJ {a b : Nat} {c : Int} (h : a ≤ b) (k : (b : Int) ≤ c) : (a : Int) ≤ c := by omega
theorem om_negL {a : Nat} {c : Int} (k : c < 0) : c < (a : Int) := by omega
theorem om_nat (q : Nat) : (0 + (q : Int)).toNat = q := by omega
/-- a text by its signs -/
noncomputable def sl (l : List Nat) : Str := ⟨l.toArray⟩
theorem sl_cps (l : List Nat) : (sl l).cps.toList = l := by simp [sl]
theorem sl_length (l : List Nat) : (sl l).length = l.length := by simp [sl, Str.length]
theorem sl_inj {a b : List Nat} : sl a = sl b ↔ a = b := ⟨fun h => by have := congrArg (fun x => x.cps.toList) h; simpa [sl] using this, fun h => by rw [h]⟩
theorem sl_beq (a b : List Nat) : (sl a == sl b) = decide (a = b) := by
  by_cases h : a = b
  · subst h; simp
  · simp [h, sl_inj]
theorem sl_append (a b : List Nat) : sl a ++ sl b = sl (a ++ b) := by
  apply Str.ext'; simp [sl, Str.cps_append]
theorem slice_from (l : List Nat) (i : Nat) (h : i ≤ l.length) : Txt.slice (sl l) (some (i : Int)) none = sl (l.drop i) := by
  rw [slice_from_eq (b := (l.length : Int)) (by omega) (by rw [sl_length]; omega) (by rw [sl_length])]
  rw [sl_cps]
  have : ((l.length : Int) - (i : Int)).toNat = l.length - i := by omega
  simp only [this, Int.toNat_natCast, sl]
  congr 2
  rw [List.take_of_length_le]; simp
theorem slice_neg (l : List Nat) (k : Nat) (h : k ≤ l.length) (h1 : 1 ≤ k) : Txt.slice (sl l) none (some (-(k : Int))) = sl (l.take (l.length - k)) := by
  have e : Txt.slice (sl l) none (some (-(k : Int))) = Txt.slice (sl l) none (some ((l.length - k : Nat) : Int)) := by
    unfold Txt.slice
    rw [sl_length]
    have h2 : (-(k : Int)) < 0 := by omega
    have h3 : ¬ (((l.length - k : Nat) : Int) < 0) := by omega
    have h4 : -(k : Int) + (l.length : Int) = ((l.length - k : Nat) : Int) := by omega
    simp only [Builtin.Str.strSliceIndices, h2, h3, h4, if_true, if_false]
  rw [e]
  have := slice_closes_to (x := sl l) (j := ((l.length - k : Nat) : Int)) ⟨by omega, by rw [sl_cps]; omega⟩
  rw [beq_iff_eq.mp this]
  simp [sl]
theorem slice_none (l : List Nat) : Txt.slice (sl l) none none = sl l := by
  have e : Txt.slice (sl l) none none = Txt.slice (sl l) none (some (l.length : Int)) := by
    unfold Txt.slice
    rw [sl_length]
    have h3 : ¬ ((l.length : Int) < 0) := by omega
    have h5 : (1 : Int) > 0 := by decide
    simp only [Builtin.Str.strSliceIndices, h3, h5, if_true, if_false, Int.min_self]
    rw [Int.max_eq_right (by omega)]
  rw [e]
  have := slice_closes_to (x := sl l) (j := (l.length : Int)) ⟨by omega, by rw [sl_cps]; omega⟩
  rw [beq_iff_eq.mp this]
  simp [sl]
theorem lower_one {c : Nat} (h : c < 128) : Txt.lower (sl [c]) = sl [lowc c] := by
  rw [lower_ascii (by intro d hd; simp [sl] at hd; omega)]
  simp [sl, lo1, lowc]

theorem item_sl (l : List Nat) (i : Nat) (h : i < l.length) : Txt.item (sl l) (i : Int) = sl [l[i]] := by
  have h2 : seqIndex? (i : Int) l.length = some i := by
    unfold seqIndex?
    have h0 : ¬ ((i : Int) < 0) := by omega
    simp only [h0, if_false]
    simp; omega
  unfold Txt.item Txt.charAt
  rw [sl_length, h2]
  simp [sl, h]
theorem item_neg (l : List Nat) (k : Nat) (h1 : 1 ≤ k) (h : k ≤ l.length) (j : Int) (hj : j = -(k : Int)) : Txt.item (sl l) j = sl [l[l.length - k]] := by
  subst hj
  have h2 : seqIndex? (-(k : Int)) l.length = some (l.length - k) := by
    unfold seqIndex?
    have h0 : (-(k : Int)) < 0 := by omega
    simp only [h0, if_true]
    have h3 : (0 : Int) ≤ -(k : Int) + (l.length : Int) := by omega
    have h4 : -(k : Int) + (l.length : Int) < (l.length : Int) := by omega
    simp only [h3, h4, decide_true, Bool.and_self, if_true]
    congr 1; omega
  unfold Txt.item Txt.charAt
  rw [sl_length, h2]
  have h5 : l.length - k < l.length := by omega
  simp [sl, h5]

/-- a frame's names and values, written -/
noncomputable def mp (l : List (Str × Value)) : Str → Option Value := fun y => l.lookup y
noncomputable def put (x : Str) (v : Value) : List (Str × Value) → List (Str × Value)
  | [] => [(x, v)]
  | p :: r => if x == p.1 then (x, v) :: r else p :: put x v r
theorem lookup_put (x : Str) (v : Value) : ∀ (l : List (Str × Value)) (y : Str), (put x v l).lookup y = if y = x then some v else l.lookup y
  | [], y => by
    simp only [put, List.lookup]
    by_cases h : y = x
    · subst h; simp
    · have : (y == x) = false := beq_eq_false_iff_ne.mpr h
      simp [h, this]
  | (n, u) :: r, y => by
    unfold put
    by_cases hx : x = n
    · subst hx
      rw [if_pos (beq_self_eq_true _), List.lookup_cons, List.lookup_cons]
      by_cases h : y = x
      · subst h; simp
      · have h1 : (y == x) = false := beq_eq_false_iff_ne.mpr h
        simp [h, h1]
    · have hb : ¬ ((x == n) = true) := fun e => hx (beq_iff_eq.mp e)
      rw [if_neg hb, List.lookup_cons, List.lookup_cons, lookup_put x v r y]
      by_cases h : y = n
      · subst h
        have h2 : ¬ y = x := fun e => hx e.symm
        simp [h2]
      · have h1 : (y == n) = false := beq_eq_false_iff_ne.mpr h
        simp only [h1]
theorem mp_put {x : Str} {v : Value} {m : Str → Option Value} {l : List (Str × Value)} (h : ∀ y, m y = mp l y) : ∀ y, (if y = x then some v else m y) = mp (put x v l) y := fun y => by
  show _ = (put x v l).lookup y
  rw [lookup_put, h]; rfl
theorem Fr_eqv {h₀ : Heap} {L : Addr} {h : Heap} {m m' : Str → Option Value} (F : Fr h₀ L h m) (e : ∀ y, m y = m' y) : Fr h₀ L h m' := by
  have : m = m' := funext e
  exact this ▸ F

theorem Fr_as {h₀ : Heap} {L : Addr} {h : Heap} {m : Str → Option Value} {l l' : List (Str × Value)} (F : Fr h₀ L h m) (e : ∀ y, m y = mp l y) (e2 : l = l') : Fr h₀ L h (mp l') := Fr_eqv F (e2 ▸ e)

/-- a cut behind the first statements -/
noncomputable def Hit (P : Shared → Prop) (s : Shared) : Prop := P s
/-- here the walk stops -/
noncomputable def Stop (P : Prop) : Prop := P
theorem Stop.out {P : Prop} (h : Stop P) : P := h
noncomputable def Hit2 (P : Value → Shared → Prop) (v : Value) (s : Shared) : Prop := P v s
noncomputable def CutP (P : Shared → Prop) (Q : Flow → Shared → Prop) (f : Flow) (s : Shared) : Prop := match f with
  | .next => Hit P s
  | f => Q f s
theorem execs_append (env : Env) (r : List Stmt) : ∀ l : List Stmt, execs (l ++ r) env = (execs l env >>= fun f => match f with | .next => execs r env | f => pure f)
  | [] => by rw [execs_nil, pure_bind]; rfl
  | st :: l => by
    rw [List.cons_append, execs_cons, execs_cons, bind_assoc]
    congr 1; funext f
    cases f with
    | next => exact execs_append env r l
    | ret v => rfl
    | brk => rfl
    | cont => rfl
theorem cut {M : Model} {A : Around} {E : Value → Shared → Prop} {env : Env} {Q : Flow → Shared → Prop} {s : Shared} (P : Shared → Prop) (k : Nat) {l : List Stmt}
    (h1 : wpAny M A (execs (l.take k) env) (CutP P Q) E s) (h2 : ∀ s', P s' → wpAny M A (execs (l.drop k) env) Q E s') : wpAny M A (execs l env) Q E s := by
  have e : execs l env = execs (l.take k ++ l.drop k) env := by rw [List.take_append_drop]
  rw [e, execs_append]
  refine wpAny_bind (wpAny_mono h1 (fun f s' h => ?_) fun _ _ x => x)
  cases f with
  | next => exact h2 s' h
  | ret v => exact wpAny_pure h
  | brk => exact wpAny_pure h
  | cont => exact wpAny_pure h
/-- the same, where the block does not leave: what holds behind it stands under a name (the proof's terms stay small) -/
theorem cutO {M : Model} {A : Around} {E : Value → Shared → Prop} {env : Env} {Q : Flow → Shared → Prop} {s : Shared} (P : Shared → Prop) (k : Nat) {l : List Stmt}
    (h1 : ∀ P' : Shared → Prop, (∀ s', P s' → P' s') → wpAny M A (execs (l.take k) env) (CutP P' (fun _ _ => False)) E s) (h2 : ∀ s', P s' → wpAny M A (execs (l.drop k) env) Q E s') : wpAny M A (execs l env) Q E s :=
  cut P k (wpAny_mono (h1 P fun _ h => h) (fun f s' h => by
    cases f with
    | next => exact h
    | ret v => exact h.elim
    | brk => exact h.elim
    | cont => exact h.elim) fun _ _ x => x) h2
theorem room3 {a i c b X : Nat} (h : a + b < X) (k : i + c ≤ b) : a + i + c < X := by omega
end
noncomputable section
/-- X[:post or None], where post is nought or below -/
theorem cutTo {prog : Program} {w : World} {A : Around} {E : Value → Shared → Prop} {s : Shared} {name : Str} {scope : Scope} {L a : Addr} {cd : Value} {h₀ : Heap} {m : Str → Option Value} {news : List (Addr × Obj)}
    {x y : Str} {p1 p2 p3 p4 p5 p6 : Pos} {n0 : Nat} {l : List Nat} {t u : Tok} {v : Int} {k : Nat} {Q : Value → Shared → Prop}
    (F : Fr h₀ L s.heap m) (N : News h₀ L s.heap news) (hx : m x = some (.str (sl l) t)) (hy : m y = some (.int v u)) (hv : v = -(k : Int)) (hk : k ≤ l.length) (hl : l.length ≤ 20)
    (h : ∀ h' t' tk, Fr h₀ L h' m → News h₀ L h' news → (sl (l.take (l.length - k))).length = l.length - k → Q (.str (sl (l.take (l.length - k))) t') { s with heap := h', toks := tk })
    (hsk : scope.kind = .function := by rfl) (hxl : (envOf name scope L a cd).kindOf x = some .local := by rfl) (hyl : (envOf name scope L a cd).kindOf y = some .local := by rfl)
    (hxd : (x == ("__debug__" : Str)) = false := by decide) (hyd : (y == ("__debug__" : Str)) = false := by decide) :
    wpAny (model prog w) A (eval (.Subscript (.Name x p1) (.Slice none (some (.BoolOp .Or [.Name y p2, .Constant .none n0 p3] p4)) none p5) p6) (envOf name scope L a cd)) Q E s := by
  obtain ⟨hh, g, d, tk, os⟩ := s
  refine Subscript_ (ld F hx ?_ hsk hxl hxd)
  refine wpAny_Slice (wpAny_evalPart_none (wpAny_evalPart_some (BoolOp_or (ld F hy (PyProof.Rows.truthy_int ?_) hsk hyl hyd))))
  have hlen : (sl (l.take (l.length - k))).length = l.length - k := by rw [sl_length, List.length_take]; omega
  have hsz : (sl l).length ≤ sizeLine := by rw [sl_length, sizeLine_eq]; omega
  by_cases h0 : v = 0
  · subst h0
    have hk0 : k = 0 := by omega
    subst hk0
    rw [if_neg (by decide)]
    refine BoolOp_one ?_
    show wpAny _ _ (pure Value.none) _ _ _
    refine wpAny_pure (wpAny_evalPart_none ?_)
    refine slice_strN_nn (s := ⟨hh, g, d, tk, os⟩) F N (fun h' t' tk' F' N' => ?_) (hsz := hsz)
    rw [slice_none]
    have := h h' t' tk' F' N' hlen
    simpa using this
  · rw [if_pos (by simpa using h0)]
    refine wpAny_evalPart_none ?_
    refine slice_strN_ns (s := ⟨hh, g, d, tk, os⟩) F N (fun h' t' tk' F' N' => ?_) (hsz := hsz)
    rw [hv, slice_neg l k hk (by omega)]
    exact h h' t' tk' F' N' hlen

end
noncomputable section
/-- a caller that handles nothing -/
noncomputable abbrev Ar (dp un : Nat) (fr : Option (List Env)) (gd : Option (List Code)) : Around := { handled := none, depth := dp, frames := fr, guards := gd, units := un }

theorem News_hide {s : Shared} {S : List (Addr × Obj)} {h₁ : Heap} {L : Addr} (hS : ∀ p ∈ S, s.heap.get? p.1 = some p.2) (hL : s.heap.objs.size = L) (hk : ∀ b o, s.heap.get? b = some o → h₁.get? b = some o) :
    News (hideAll s.heap (S.map (·.1))) L h₁ S := fun p hp =>
  ⟨hk _ _ (hS p hp), hL ▸ Nat.ne_of_lt (Heap.lt_size (hS p hp)), hideAll_none _ (List.mem_map_of_mem hp)⟩

section
variable {prog : Program} {w : World} {A : Around} {s : Shared} {K : Frag} {p : Program} {loose : List Str} {mean : ExcName → Option Value} {mg mb : Str → Option Value} {Q E : Value → Shared → Prop}
  {name qual : Str} {params : Arguments} {body : List Stmt} {scope : Scope} {dV kV doc pm cdv ct oc : Value} {an od : Option Addr} {osl : Array (Option Value)} {f : Addr} {args : Args} {binds : List (Str × Value)}

/-- into a def's body: S are the objects that it may change, all else stands in g -/
theorem enterS (S : List (Addr × Obj)) (hS : ∀ q ∈ S, s.heap.get? q.1 = some q.2) (X : K.In (hideAll s.heap (S.map (·.1)))) (T : Top p loose mean mg mb (hideAll s.heap (S.map (·.1))))
    (ho : K.lookup f = some ⟨oc, od, .func (fnOf name qual params body scope dV kV doc pm an cdv ct), osl⟩) (hcd : codeIn K cdv qual = true) (hroom : A.depth < recursionLimit)
    (hbind : BindsTo s (fnOf name qual params body scope dV kV doc pm an cdv ct) args binds) (hloc : ∀ y ∈ binds, scope.names.lookup y.1 = some .local)
    (h : ∀ g L' h₁, (∀ b o, s.heap.get? b = some o → b ∉ S.map (·.1) → g.get? b = some o) → Fr g L' h₁ (fun y => binds.reverse.lookup y) → News g L' h₁ S → K.In g → Top p loose mean mg mb g → (∀ q ∈ S, q.1 < L') →
      wpAny (model prog w) (A.deeper (envOf qual scope L' f cdv)) (execs body (envOf qual scope L' f cdv)) (fun fl s' => Q (match fl with | .ret v => v | _ => .none) s') (fun _ _ => False) { s with heap := h₁, toks := s.toks + binds.length })
    (hco : scope.isCoroutine = false) (hgen : scope.isGenerator = false) (hk : scope.kind = .function) (hcell : ∀ x ∈ scope.names, x.2 ≠ .cell) :
    wpAny (model prog w) A (call (.ref f) args.pos args.kw) Q E s := by
  have keep : ∀ b o, (hideAll s.heap (S.map (·.1))).get? b = some o → s.heap.get? b = some o := fun b o e => of_hideAll _ e
  refine wpAny_call ?_
  refine codeAny_call_def (fd := fnOf name qual params body scope dV kV doc pm an cdv ct) (body := body) (binds := binds) hroom ((X.keeps keep) _ _ ho) rfl (T.nolimit.keeps keep) (codeRec_of (X.keeps keep) hcd) rfl hbind hcell hloc (fun h₁ hns hk₁ => ?_) hco hgen hk
  refine wpAny_mono (h _ s.heap.objs.size h₁ (fun b o e hb => hideAll_get _ e hb) ⟨hns, fun b o e => hk₁ b o (of_hideAll _ e), Nat.le_of_eq (hideAll_size _ _)⟩ (News_hide hS rfl hk₁) X T fun q hq => Heap.lt_size (hS q hq)) (fun fl s' hl => hl) fun _ _ x => x.elim

/-- the same, where the call is a code: S are the objects that it may change, all else stands in g -/
theorem enterK {R : Result → Shared → Prop} (S : List (Addr × Obj)) (hS : ∀ q ∈ S, s.heap.get? q.1 = some q.2) (X : K.In (hideAll s.heap (S.map (·.1)))) (T : Top p loose mean mg mb (hideAll s.heap (S.map (·.1))))
    (ho : K.lookup f = some ⟨oc, od, .func (fnOf name qual params body scope dV kV doc pm an cdv ct), osl⟩) (hcd : codeIn K cdv qual = true) (hroom : A.depth < recursionLimit)
    (hbind : BindsTo s (fnOf name qual params body scope dV kV doc pm an cdv ct) args binds) (hloc : ∀ y ∈ binds, scope.names.lookup y.1 = some .local)
    (h : ∀ g L' h₁, (∀ b o, s.heap.get? b = some o → b ∉ S.map (·.1) → g.get? b = some o) → Fr g L' h₁ (fun y => binds.reverse.lookup y) → News g L' h₁ S → K.In g → Top p loose mean mg mb g → (∀ q ∈ S, q.1 < L') →
      wpAny (model prog w) (A.deeper (envOf qual scope L' f cdv)) (execs body (envOf qual scope L' f cdv)) (fun fl s' => R (.ok (.ret (match fl with | .ret v => v | _ => .none))) s') (fun _ _ => False) { s with heap := h₁, toks := s.toks + binds.length })
    (hco : scope.isCoroutine = false) (hgen : scope.isGenerator = false) (hk : scope.kind = .function) (hcell : ∀ x ∈ scope.names, x.2 ≠ .cell) :
    codeAny (model prog w) A (.call (.ref f) args) R s := by
  have keep : ∀ b o, (hideAll s.heap (S.map (·.1))).get? b = some o → s.heap.get? b = some o := fun b o e => of_hideAll _ e
  refine codeAny_call_def (fd := fnOf name qual params body scope dV kV doc pm an cdv ct) (body := body) (binds := binds) hroom ((X.keeps keep) _ _ ho) rfl (T.nolimit.keeps keep) (codeRec_of (X.keeps keep) hcd) rfl hbind hcell hloc (fun h₁ hns hk₁ => ?_) hco hgen hk
  refine wpAny_mono (h _ s.heap.objs.size h₁ (fun b o e hb => hideAll_get _ e hb) ⟨hns, fun b o e => hk₁ b o (of_hideAll _ e), Nat.le_of_eq (hideAll_size _ _)⟩ (News_hide hS rfl hk₁) X T fun q hq => Heap.lt_size (hS q hq)) (fun fl s' hl => hl) fun _ _ x => x.elim

theorem enterC (S : List (Addr × Obj)) (hS : ∀ q ∈ S, s.heap.get? q.1 = some q.2) (X : K.In (hideAll s.heap (S.map (·.1)))) (T : Top p loose mean mg mb (hideAll s.heap (S.map (·.1))))
    (ho : K.lookup f = some ⟨oc, od, .func (fnOf name qual params body scope dV kV doc pm an cdv ct), osl⟩) (hcd : codeIn K cdv qual = true) (hroom : A.depth < recursionLimit)
    (hbind : BindsTo s (fnOf name qual params body scope dV kV doc pm an cdv ct) args binds) (hkind : (binds.all fun y => scope.names.lookup y.1 == some .local || scope.names.lookup y.1 == some .cell) = true)
    (hnd : ((cellsFrom 0 scope.names []).map (·.1)).Nodup)
    (h : ∀ g L' h₁ tk cells, (∀ b o, s.heap.get? b = some o → b ∉ S.map (·.1) → g.get? b = some o) → Fr g L' h₁ (bindL (envOfC qual scope L' f cdv).kindOf binds fun _ => none) → News g L' h₁ (cells ++ S) →
      CellsAre (bindC (envOfC qual scope L' f cdv).kindOf binds fun _ => none) (cellsFrom (L' + 1) scope.names []) cells → K.In g → Top p loose mean mg mb g → (∀ q ∈ S, q.1 < L') →
      wpAny (model prog w) (A.deeper (envOfC qual scope L' f cdv)) (execs body (envOfC qual scope L' f cdv)) (fun fl s' => Q (match fl with | .ret v => v | _ => .none) s') (fun _ _ => False) { s with heap := h₁, toks := tk })
    (hco : scope.isCoroutine = false) (hgen : scope.isGenerator = false) (hk : scope.kind = .function) :
    wpAny (model prog w) A (call (.ref f) args.pos args.kw) Q E s := by
  have keep : ∀ b o, (hideAll s.heap (S.map (·.1))).get? b = some o → s.heap.get? b = some o := fun b o e => of_hideAll _ e
  refine wpAny_call ?_
  refine codeAny_call_function hroom ((X.keeps keep) _ _ ho) rfl hco hgen rfl (codeRec_of (X.keeps keep) hcd) (hbind _ _ _ _ ?_)
  refine wpAny_newFunctionEnv_cells hk (kindsX hkind _) fun env' he s' x => ?_
  subst he
  refine ⟨(T.nolimit.keeps keep).keeps x.toInCall.keep, codeAny_func ?_⟩
  obtain ⟨h₁, tk, rfl, _⟩ := x.done
  have hk₁ := x.toInCall.keep
  obtain ⟨cells, NC, Y⟩ := Cl.news (h₀ := s.heap) (Nat.le_refl _) fun n c hm => ⟨x.cell n c (lookup_of_mem_nodup (cellsFrom_names scope.names 0 (s.heap.objs.size + 1) [] [] rfl ▸ hnd) hm), x.above n c hm⟩
  refine wpAny_mono (h _ s.heap.objs.size h₁ tk cells (fun b o e hb => hideAll_get _ e hb) ⟨x.toInCall.ns, fun b o e => hk₁ b o (of_hideAll _ e), Nat.le_of_eq (hideAll_size _ _)⟩ (fun q hp => ?_) Y X T fun q hq => Heap.lt_size (hS q hq)) (fun fl s' hl => hl) fun _ _ x => x.elim
  rcases List.mem_append.mp hp with hp | hp
  · refine ⟨(NC q hp).1, (NC q hp).2.1, ?_⟩
    cases e : (hideAll s.heap (S.map (·.1))).get? q.1 with
    | none => rfl
    | some o => have := of_hideAll _ e; rw [(NC q hp).2.2] at this; cases this
  · exact ⟨hk₁ _ _ (hS q hp), Nat.ne_of_lt (Heap.lt_size (hS q hp)), hideAll_none _ (List.mem_map_of_mem hp)⟩
end

/-- what a call binds -/
noncomputable def BindsF (K : Params → Frag) (f : Addr) (args : Args) (binds : List (Str × Value)) : Prop :=
  ∀ (P : Params) (oc : Value) (od : Option Addr) (osl : Array (Option Value)) (fd : FuncData), (K P).lookup f = some ⟨oc, od, .func fd, osl⟩ → ∀ s : Shared, (K P).In s.heap → BindsTo s fd args binds

/-- what a def gives back that changes nothing that stands -/
noncomputable def Pure (K : Params → Frag) (prog : Program) (f need : Nat) (args : Args) (pre : World → Heap → Prop) (R : Value → Heap → Prop) : Prop :=
  ∀ (w : World) (p : Program) (loose : List Str) (mean : ExcName → Option Value) (mg mb : Str → Option Value) (dp un : Nat) (fr : Option (List Env)) (gd : Option (List Code)) (s : Shared) (Q E : Value → Shared → Prop),
    (K w.params).In s.heap → Top p loose mean mg mb s.heap → pre w s.heap → dp + need < recursionLimit → un + 8 * need < cLine →
    (∀ r h' tk', s.heap.StaysIn h' → R r h' → Q r { s with heap := h', toks := tk' }) →
    wpAny (model prog w) (Ar dp un fr gd) (call (.ref f) args.pos args.kw) Q E s
theorem Pure.use {K : Params → Frag} {prog : Program} {f need : Nat} {args : Args} {pre : World → Heap → Prop} {R : Value → Heap → Prop} (C : Pure K prog f need args pre R) {w : World} {p : Program} {loose : List Str} {mean : ExcName → Option Value} {mg mb : Str → Option Value}
    {dp un : Nat} {fr : Option (List Env)} {gd : Option (List Code)} {s : Shared} {Q E : Value → Shared → Prop} {h₀ : Heap} {L : Addr} {m : Str → Option Value} {news : List (Addr × Obj)}
    (F : Fr h₀ L s.heap m) (X : (K w.params).In h₀) (N : News h₀ L s.heap news) (T : Top p loose mean mg mb h₀) (hp : pre w s.heap) (hd : dp + need < recursionLimit) (hu : un + 8 * need < cLine)
    (hret : ∀ r h' tk', Fr h₀ L h' m → News h₀ L h' news → s.heap.StaysIn h' → R r h' → Q r { s with heap := h', toks := tk' }) :
    wpAny (model prog w) (Ar dp un fr gd) (call (.ref f) args.pos args.kw) Q E s :=
  C w p loose mean mg mb dp un fr gd s Q E (X.keeps F.keep) (T.keeps F.keep) hp hd hu fun r h' tk' hk hr => hret r h' tk' (F.keeps hk) (fun p hp => ⟨hk _ _ (N p hp).1, (N p hp).2⟩) hk hr
-- what stood stands
theorem stays_of {h g h' : Heap} {L : Addr} {m : Str → Option Value} (hg : ∀ b o, h.get? b = some o → b ∉ ([] : List Addr) → g.get? b = some o) (F : Fr g L h' m) : h.StaysIn h' := fun b o e => F.keep b o (hg b o e List.not_mem_nil)
theorem ret_int {s : Shared} {Q : Value → Shared → Prop} {x y : Int} {t : Tok} {h' : Heap} {tk' : Nat} (hret : ∀ r h' tk', s.heap.StaysIn h' → (∃ t, r = Value.int x t) → Q r { s with heap := h', toks := tk' }) (e : y = x) (k : s.heap.StaysIn h') :
    Q (.int y t) { s with heap := h', toks := tk' } := hret _ _ _ k ⟨t, by rw [e]⟩
theorem ret_str {s : Shared} {Q : Value → Shared → Prop} {x y : Str} {t : Tok} {h' : Heap} {tk' : Nat} (hret : ∀ r h' tk', s.heap.StaysIn h' → (∃ t, r = Value.str x t) → Q r { s with heap := h', toks := tk' }) (e : y = x) (k : s.heap.StaysIn h') :
    Q (.str y t) { s with heap := h', toks := tk' } := hret _ _ _ k ⟨t, by rw [e]⟩
theorem om_pred : ∀ n : Nat, ((-1 : Int) + (n : Nat)).toNat = n - 1
  | 0 => rfl
  | n + 1 => by rw [Int.natCast_add, Int.add_comm, Int.add_assoc]; rfl
theorem om_take {k n : Nat} (h : k ≤ n) (e : ((min (n - k) n : Nat) : Int) ≠ 0) : k < n := Nat.lt_of_le_of_ne h fun q => e (by rw [q, Nat.sub_self, Nat.zero_min]; rfl)
theorem om_sub {k n : Nat} (h : k < n) : n - (k + 1) < n - k := Nat.sub_lt_sub_left h (Nat.lt_succ_self k)
theorem om_negs {k : Nat} {v : Int} (h : v = -(k : Int)) : v - 1 = -((k + 1 : Nat) : Int) := by rw [h, Int.natCast_add, Int.neg_add]; rfl
theorem om_app {a b c : Nat} (h : c = a + b) (k : c ≤ 20) : b ≤ 20 := Nat.le_trans (h ▸ Nat.le_add_left b a) k
theorem om_4 {i x : Nat} (h : i < x % 4 + 1) : i = 0 ∨ i = 1 ∨ i = 2 ∨ i = 3 := by
  match i, Nat.lt_of_lt_of_le h (Nat.mod_lt x (by decide : 0 < 4)) with
  | 0, _ => exact .inl rfl
  | 1, _ => exact .inr (.inl rfl)
  | 2, _ => exact .inr (.inr (.inl rfl))
  | 3, _ => exact .inr (.inr (.inr rfl))
theorem om_hi4 {n m j : Nat} (e : m = n) (h : j < n) : 0 + (j : Int) < (m : Int) := by rw [Int.zero_add, e]; exact Int.ofNat_lt.mpr h
theorem om_hi5 {n m j : Nat} (e : m = n) (h : j < n) : (j : Int) < (m : Int) := by rw [e]; exact Int.ofNat_lt.mpr h

end
noncomputable section
/-- the end of a turn -/
noncomputable def TurnEnd (h₀ : Heap) (L : Addr) (s : Shared) (It : Addr) (o : Obj) (J : (Str → Option Value) → List (Addr × Obj) → Prop) (Q : Flow → Shared → Prop) (f : Flow) (s' : Shared) : Prop := match f with
  | .ret v => Q (.ret v) s'
  | .brk => Q .next s'
  | _ => ∃ h' tk' m' nw', s' = { s with heap := h', toks := tk' } ∧ Fr h₀ L h' m' ∧ News h₀ L h' ((It, o) :: nw') ∧ (∀ p ∈ nw', p.1 ≠ It) ∧ J m' nw'

section
variable {prog : Program} {w : World} {A : Around} {s : Shared} {env : Env} {h₀ : Heap} {Q : Flow → Shared → Prop} {target iter : Expr} {body : List Stmt} {pos : Pos}

theorem letOwned_list {M : Model} {It l : Addr} {i : Nat} {v : Value} {P : Unit → Shared → Prop} {E : Value → Shared → Prop} {s : Shared} (hI : s.heap.IsListIter It l i) (h : P () s) : wpAny M A (letOwnedTupleGo target (.ref It) v) P E s := by
  obtain ⟨o, ho, hc, hd⟩ := hI
  unfold letOwnedTupleGo
  split
  · split
    · rename_i r a e
      cases e
      refine wpAny_bind (wpAny_load ho ?_)
      rw [hc, hd]
      dsimp only
      rw [if_neg (by simp)]
      exact wpAny_pure h
    · exact wpAny_pure h
  · split
    · rename_i r a e
      cases e
      refine wpAny_bind (wpAny_load ho ?_)
      rw [hc, hd]
      dsimp only
      rw [if_neg (by simp)]
      exact wpAny_pure h
    · exact wpAny_pure h
  · exact wpAny_pure h

theorem for_listX {L : Addr} (hL : env.locals = L) (hh : A.handled = none)
    (h : wpAny (model prog w) A (eval iter env) (Hit2 fun x s₁ => ∃ (l : Addr) (items : Array Value) (J : Nat → (Str → Option Value) → List (Addr × Obj) → Prop) (h1 : Heap) (tk1 : Nat) (m1 : Str → Option Value) (nw1 : List (Addr × Obj)), x = .ref l ∧ s₁ = { s with heap := h1, toks := tk1 } ∧ Fr h₀ L h1 m1 ∧ News h₀ L h1 nw1 ∧ J 0 m1 nw1 ∧
      (∀ i m nw h, J i m nw → Fr h₀ L h m → News h₀ L h nw → h.IsList l items) ∧
      (∀ i v m nw It o h tk, items[i]? = some v → J i m nw → (∀ p ∈ nw, p.1 ≠ It) → Fr h₀ L h m → News h₀ L h ((It, o) :: nw) →
        wpAny (model prog w) A (assign target env v) (fun _ s₂ => wpAny (model prog w) A (execs body env) (TurnEnd h₀ L s It o (J (i + 1)) Q) (fun _ _ => False) s₂) (fun _ _ => False) { s with heap := h, toks := tk }) ∧
      (∀ m nw h tk, J items.size m nw → Fr h₀ L h m → News h₀ L h nw → Q .next { s with heap := h, toks := tk })) (fun _ _ => False) s)
    (hs : ∀ x, foldedSetIterable iter env x = pure x := by intro _; rfl) :
    wpAny (model prog w) A (exec (.For target iter body [] pos) env) Q (fun _ _ => False) s := by
  subst hL
  refine wpAny_For (wpAny_mono h (fun x s₁ h₁ => ?_) fun _ _ x => x) hs
  obtain ⟨l, items, J, h1, tk1, m1, nw1, rfl, rfl, F1, N1, J1, hl, turn, done⟩ := h₁
  have hl1 : h1.IsList l items := hl _ _ _ _ J1 F1 N1
  refine wpAny_pyIter_list hl1 ?_
  have hne : l ≠ h1.objs.size := by obtain ⟨ol, hol, _⟩ := hl1; exact Nat.ne_of_lt (Heap.lt_size hol)
  have W := Walks.list (prog := prog) (w := w) hh h1.objs.size l hne items
  refine codeAny_forLoop_any (fun k s' => ∃ i h tk m nw o, s' = { s with heap := h, toks := tk } ∧ Fr h₀ env.locals h m ∧ News h₀ env.locals h ((h1.objs.size, o) :: nw) ∧ (∀ p ∈ nw, p.1 ≠ h1.objs.size) ∧ J i m nw ∧
    h.IsListIter h1.objs.size l i ∧ i ≤ items.size ∧ k = items.size - i) ?_ items.size ⟨0, _, _, m1, nw1, _, rfl, F1.push _, N1.push F1 _, fun p hp => Nat.ne_of_lt (Heap.lt_size (N1 p hp).1), J1, ⟨_, Heap.get?_push_size _ rfl, rfl, rfl⟩, Nat.zero_le _, rfl⟩
  rintro k s' ⟨i, h, tk, m, nw, o, rfl, F, N, hf, hJ, hI, hi, rfl⟩
  have hl2 : h.IsList l items := hl _ _ _ _ hJ F (fun p hp => N p (.tail _ hp))
  by_cases hlt : i < items.size
  · refine W.item i _ _ _ hlt ⟨hI, hl2⟩ fun v h' tk' hv st hk => ?_
    obtain ⟨o', ho', hc', hd'⟩ := st.1
    have hIL : h1.objs.size ≠ env.locals := (N _ (.head _)).2.1
    have hI0 : h₀.get? h1.objs.size = none := (N _ (.head _)).2.2
    have F' : Fr h₀ env.locals h' m := by
      obtain ⟨oL, es, ep, hL, hLd, hLk, hLf⟩ := F.ns
      refine ⟨⟨oL, es, ep, hk _ _ (by simpa using Ne.symm hIL) hL, hLd, hLk, hLf⟩, fun b ob e => hk b ob (fun hb => ?_) (F.keep b ob e), F.above⟩
      rw [List.mem_singleton.mp hb, hI0] at e; cases e
    have N' : News h₀ env.locals h' ((h1.objs.size, o') :: nw) := by
      intro p hp
      rcases List.mem_cons.mp hp with rfl | hp
      · exact ⟨ho', hIL, hI0⟩
      · exact ⟨hk _ _ (by simpa using hf p hp) (N p (.tail _ hp)).1, (N p (.tail _ hp)).2⟩
    refine letOwned_list st.1 ?_
    refine wpAny_mono (turn i v m nw h1.objs.size o' h' tk' hv hJ hf F' N') (fun _ s₂ h₂ => ?_) fun _ _ x => x.elim
    refine wpAny_mono h₂ (fun f s₃ h₃ => ?_) fun _ _ x => x.elim
    have fin : (∃ h' tk' m' nw', s₃ = { s with heap := h', toks := tk' } ∧ Fr h₀ env.locals h' m' ∧ News h₀ env.locals h' ((h1.objs.size, o') :: nw') ∧ (∀ p ∈ nw', p.1 ≠ h1.objs.size) ∧ J (i + 1) m' nw') →
        ∃ k', k' < items.size - i ∧ ∃ i h tk m nw o, s₃ = { s with heap := h, toks := tk } ∧ Fr h₀ env.locals h m ∧ News h₀ env.locals h ((h1.objs.size, o) :: nw) ∧ (∀ p ∈ nw, p.1 ≠ h1.objs.size) ∧ J i m nw ∧
          h.IsListIter h1.objs.size l i ∧ i ≤ items.size ∧ k' = items.size - i := by
      rintro ⟨h9, tk9, m9, nw9, rfl, F9, N9, hf9, J9⟩
      exact ⟨items.size - (i + 1), by omega, i + 1, h9, tk9, m9, nw9, o', rfl, F9, N9, hf9, J9, ⟨o', (N9 _ (.head _)).1, hc', hd'⟩, hlt, rfl⟩
    cases f with
    | next => exact fin h₃
    | cont => exact fin h₃
    | brk => exact h₃
    | ret v => exact h₃
  · have hie : i = items.size := by omega
    subst hie
    refine W.done _ _ _ ⟨hI, hl2⟩ fun h' tk' hk => ?_
    have hIL : h1.objs.size ≠ env.locals := (N _ (.head _)).2.1
    have hI0 : h₀.get? h1.objs.size = none := (N _ (.head _)).2.2
    refine wpAny_execs_nil (done m nw h' tk' hJ ?_ ?_)
    · obtain ⟨oL, es, ep, hL, hLd, hLk, hLf⟩ := F.ns
      refine ⟨⟨oL, es, ep, hk _ _ (by simpa using Ne.symm hIL) hL, hLd, hLk, hLf⟩, fun b ob e => hk b ob (fun hb => ?_) (F.keep b ob e), F.above⟩
      rw [List.mem_singleton.mp hb, hI0] at e; cases e
    · exact fun p hp => ⟨hk _ _ (by simpa using hf p hp) (N p (.tail _ hp)).1, (N p (.tail _ hp)).2⟩
/-- for .. in a list that stands as it is while the loop goes -/
theorem for_list {l : Addr} {items : Array Value} {L : Addr} (J : Nat → (Str → Option Value) → List (Addr × Obj) → Prop) (hL : env.locals = L) (hh : A.handled = none)
    (hl : ∀ i m nw h, J i m nw → Fr h₀ L h m → News h₀ L h nw → h.IsList l items)
    (h : wpAny (model prog w) A (eval iter env) (Hit2 fun x s₁ => x = .ref l ∧ ∃ h1 tk1 m1 nw1, s₁ = { s with heap := h1, toks := tk1 } ∧ Fr h₀ L h1 m1 ∧ News h₀ L h1 nw1 ∧ J 0 m1 nw1) (fun _ _ => False) s)
    (turn : ∀ i v m nw It o h tk, items[i]? = some v → J i m nw → (∀ p ∈ nw, p.1 ≠ It) → Fr h₀ L h m → News h₀ L h ((It, o) :: nw) →
      wpAny (model prog w) A (assign target env v) (fun _ s₂ => wpAny (model prog w) A (execs body env) (TurnEnd h₀ L s It o (J (i + 1)) Q) (fun _ _ => False) s₂) (fun _ _ => False) { s with heap := h, toks := tk })
    (done : ∀ m nw h tk, J items.size m nw → Fr h₀ L h m → News h₀ L h nw → Q .next { s with heap := h, toks := tk })
    (hs : ∀ x, foldedSetIterable iter env x = pure x := by intro _; rfl) :
    wpAny (model prog w) A (exec (.For target iter body [] pos) env) Q (fun _ _ => False) s :=
  for_listX hL hh (wpAny_mono h (fun _ _ z => by
    obtain ⟨e, h1, tk1, m1, nw1, e2, F, N, j⟩ := z
    exact ⟨l, items, J, h1, tk1, m1, nw1, e, e2, F, N, j, hl, turn, done⟩) fun _ _ x => x) hs
end

end
noncomputable section
section
variable {prog : Program} {w : World} {A : Around} {s : Shared} {env : Env} {h₀ : Heap} {Q : Flow → Shared → Prop} {iter : Expr} {body : List Stmt} {pos px : Pos} {x : Str}

/-- for x in .., over an iterator of its own -/
theorem for_gen {n : Nat} {P : Nat → Value → Prop} (J : Nat → (Str → Option Value) → List (Addr × Obj) → Prop)
    (hx : env.kindOf x = some .local) (hp : (env.scope.kind == .class || (env.scope.kind == .module && env.locals != env.globals)) = false)
    (h : wpAny (model prog w) A (eval iter env) (fun xv s₁ => wpAny (model prog w) A (pyIter xv) (fun it s₂ => ∃ (It : Addr) (St : Nat → Heap → Prop) (h2 : Heap) (tk2 : Nat) (o : Obj) (m1 : Str → Option Value) (nw1 : List (Addr × Obj)),
      it = .ref It ∧ s₂ = { s with heap := h2, toks := tk2 } ∧ Walks prog w A It [It] [It] n P St ∧ (∀ i h, St i h → ∃ o, h.get? It = some o) ∧ St 0 h2 ∧ Fr h₀ env.locals h2 m1 ∧ News h₀ env.locals h2 ((It, o) :: nw1) ∧ (∀ p ∈ nw1, p.1 ≠ It) ∧ J 0 m1 nw1) (fun _ _ => False) s₁) (fun _ _ => False) s)
    (turn : ∀ i v m nw It o h tk, i < n → P i v → J i m nw → (∀ p ∈ nw, p.1 ≠ It) → Fr h₀ env.locals h (fun y => if y = x then some v else m y) → News h₀ env.locals h ((It, o) :: nw) →
      wpAny (model prog w) A (execs body env) (TurnEnd h₀ env.locals s It o (J (i + 1)) Q) (fun _ _ => False) { s with heap := h, toks := tk })
    (done : ∀ m nw h tk, J n m nw → Fr h₀ env.locals h m → News h₀ env.locals h nw → Q .next { s with heap := h, toks := tk })
    (hs : ∀ x, foldedSetIterable iter env x = pure x := by intro _; rfl) :
    wpAny (model prog w) A (exec (.For (.Name x px) iter body [] pos) env) Q (fun _ _ => False) s := by
  refine wpAny_For (wpAny_mono h (fun x s₁ h₁ => wpAny_mono h₁ (fun it s₂ h₂ => ?_) fun _ _ x => x.elim) fun _ _ x => x.elim) hs
  obtain ⟨It, St, h2, tk2, o, m1, nw1, rfl, rfl, W, hSt, st0, F1, N1, hf1, J1⟩ := h₂
  have push : ∀ {h h' : Heap} {m : Str → Option Value} {nw : List (Addr × Obj)} {o : Obj}, Fr h₀ env.locals h m → News h₀ env.locals h ((It, o) :: nw) → (∀ p ∈ nw, p.1 ≠ It) → (∀ b o, b ∉ [It] → h.get? b = some o → h'.get? b = some o) →
      Fr h₀ env.locals h' m ∧ ∀ p ∈ nw, h'.get? p.1 = some p.2 ∧ p.1 ≠ env.locals ∧ h₀.get? p.1 = none := by
    intro h h' m nw o F N hf hk
    have hIL : It ≠ env.locals := (N _ (.head _)).2.1
    have hI0 : h₀.get? It = none := (N _ (.head _)).2.2
    obtain ⟨oL, es, ep, hL, hLd, hLk, hLf⟩ := F.ns
    refine ⟨⟨⟨oL, es, ep, hk _ _ (by simpa using Ne.symm hIL) hL, hLd, hLk, hLf⟩, fun b ob e => hk b ob (fun hb => ?_) (F.keep b ob e), F.above⟩, fun p hp => ⟨hk _ _ (by simpa using hf p hp) (N p (.tail _ hp)).1, (N p (.tail _ hp)).2⟩⟩
    rw [List.mem_singleton.mp hb, hI0] at e; cases e
  refine codeAny_forLoop_any (fun k s' => ∃ i h tk m nw o, s' = { s with heap := h, toks := tk } ∧ Fr h₀ env.locals h m ∧ News h₀ env.locals h ((It, o) :: nw) ∧ (∀ p ∈ nw, p.1 ≠ It) ∧ J i m nw ∧ St i h ∧ i ≤ n ∧ k = n - i) ?_ n
    ⟨0, _, _, m1, nw1, _, rfl, F1, N1, hf1, J1, st0, Nat.zero_le _, rfl⟩
  rintro k s' ⟨i, h, tk, m, nw, o, rfl, F, N, hf, hJ, hI, hi, rfl⟩
  have hIL : It ≠ env.locals := (N _ (.head _)).2.1
  have hI0 : h₀.get? It = none := (N _ (.head _)).2.2
  by_cases hlt : i < n
  · refine W.item i _ _ _ hlt hI fun v h' tk' hv st hk => ?_
    obtain ⟨o', ho'⟩ := hSt _ _ st
    obtain ⟨F', N'⟩ := push F N hf hk
    refine wpAny_pure (wpAny_assign_Name (wpAny_storeName_local hx F'.ns (fun h'' hn hsb => ?_) hp))
    have N'' : News h₀ env.locals h'' ((It, o') :: nw) := by
      intro p hp
      rcases List.mem_cons.mp hp with rfl | hp
      · exact ⟨(hsb.2 _ hIL).trans ho', hIL, hI0⟩
      · exact ⟨(hsb.2 _ (N' p hp).2.1).trans (N' p hp).1, (N' p hp).2⟩
    refine wpAny_mono (turn i v m nw It o' h'' _ hlt hv hJ hf (F'.set hn hsb) N'') (fun f s₃ h₃ => ?_) fun _ _ x => x.elim
    have fin : (∃ h' tk' m' nw', s₃ = { s with heap := h', toks := tk' } ∧ Fr h₀ env.locals h' m' ∧ News h₀ env.locals h' ((It, o') :: nw') ∧ (∀ p ∈ nw', p.1 ≠ It) ∧ J (i + 1) m' nw') →
        ∃ k', k' < n - i ∧ ∃ i h tk m nw o, s₃ = { s with heap := h, toks := tk } ∧ Fr h₀ env.locals h m ∧ News h₀ env.locals h ((It, o) :: nw) ∧ (∀ p ∈ nw, p.1 ≠ It) ∧ J i m nw ∧ St i h ∧ i ≤ n ∧ k' = n - i := by
      rintro ⟨h9, tk9, m9, nw9, rfl, F9, N9, hf9, J9⟩
      refine ⟨n - (i + 1), by omega, i + 1, h9, tk9, m9, nw9, o', rfl, F9, N9, hf9, J9, W.frame _ _ _ st fun b hb ob e => ?_, hlt, rfl⟩
      rw [List.mem_singleton.mp hb] at e ⊢
      rw [ho'] at e
      exact e ▸ (N9 _ (.head _)).1
    cases f with
    | next => exact fin h₃
    | cont => exact fin h₃
    | brk => exact h₃
    | ret v => exact h₃
  · have hie : i = n := by omega
    subst hie
    refine W.done _ _ _ hI fun h' tk' hk => ?_
    obtain ⟨F', N'⟩ := push F N hf hk
    exact wpAny_execs_nil (done m nw h' tk' hJ F' N')

/-- for x in range(..) -/
theorem for_range {a b c : Int} {n : Nat} {L : Addr} (J : Nat → (Str → Option Value) → List (Addr × Obj) → Prop) (hL : env.locals = L) (hh : A.handled = none) (hsmall : Builtin.Range.small a b c = true) (hn : Builtin.Range.rangeSize a b c = (n : Int))
    (hx : env.kindOf x = some .local) (hp : (env.scope.kind == .class || (env.scope.kind == .module && env.locals != env.globals)) = false)
    (h : wpAny (model prog w) A (eval iter env) (Hit2 fun xv s₁ => ∃ r t u v h1 tk1 m1 nw1, xv = .ref r ∧ s₁ = { s with heap := h1, toks := tk1 } ∧ IsRange h1 r a b c t u v ∧ Fr h₀ L h1 m1 ∧ News h₀ L h1 nw1 ∧ J 0 m1 nw1) (fun _ _ => False) s)
    (turn : ∀ i v t m nw It o h tk, i < n → v = a + (i : Nat) * c → J i m nw → (∀ p ∈ nw, p.1 ≠ It) → Fr h₀ L h (fun y => if y = x then some (.int v t) else m y) → News h₀ L h ((It, o) :: nw) →
      wpAny (model prog w) A (execs body env) (TurnEnd h₀ L s It o (J (i + 1)) Q) (fun _ _ => False) { s with heap := h, toks := tk })
    (done : ∀ m nw h tk, J n m nw → Fr h₀ L h m → News h₀ L h nw → Q .next { s with heap := h, toks := tk })
    (hs : ∀ x, foldedSetIterable iter env x = pure x := by intro _; rfl) :
    wpAny (model prog w) A (exec (.For (.Name x px) iter body [] pos) env) Q (fun _ _ => False) s := by
  subst hL
  refine for_gen (n := n) (P := fun i v => ∃ t, v = .int (a + (i : Nat) * c) t) J hx hp (wpAny_mono h (fun xv s₁ h₁ => ?_) fun _ _ x => x.elim) (fun i v m nw It o h tk hi hv hJ hf F N => ?_) done hs
  · obtain ⟨r, t, u, v, h1, tk1, m1, nw1, rfl, rfl, hr, F1, N1, J1⟩ := h₁
    refine wpAny_pyIter_range hr hsmall ?_
    refine ⟨_, _, _, _, _, m1, nw1, rfl, rfl, Walks.range hh _ a c n, fun i h st => ⟨_, st⟩, (by show IsRangeIter _ _ _ _ _; rw [hn]; simpa using Heap.get?_push_size _ rfl), F1.push _, N1.push F1 _, fun p hp => Nat.ne_of_lt (Heap.lt_size (N1 p hp).1), J1⟩
  · obtain ⟨t, rfl⟩ := hv
    exact turn i _ t m nw It o h tk hi rfl hJ hf F N

end

end
noncomputable section
/-- a frame of which some names are known -/
noncomputable def mq (l : List (Str × Value)) (u : Str → Option Value) : Str → Option Value := fun y => match l.lookup y with
  | some v => some v
  | none => u y
theorem mq_self {m : Str → Option Value} : ∀ {l : List (Str × Value)}, (∀ p ∈ l, m p.1 = some p.2) → ∀ y, m y = mq l m y
  | [], _, y => rfl
  | (n, v) :: r, h, y => by
    unfold mq
    rw [List.lookup_cons]
    by_cases e : y = n
    · subst e
      simp only [beq_self_eq_true]
      exact h _ (.head _)
    · have e' : (y == n) = false := beq_eq_false_iff_ne.mpr e
      rw [e']
      exact mq_self (l := r) (fun p hp => h p (.tail _ hp)) y
theorem Fr_mq {h₀ : Heap} {L : Addr} {h : Heap} {m : Str → Option Value} {l : List (Str × Value)} (F : Fr h₀ L h m) (e : ∀ p ∈ l, m p.1 = some p.2) : Fr h₀ L h (mq l m) := Fr_eqv F (mq_self e)

theorem ints_of : ∀ (vs : List Value) (rs : List Int), vs.length = rs.length → (∀ (j : Nat) (v : Value), vs[j]? = some v → ∃ t, v = .int (rs.getD j 0) t) → IntsAre vs rs
  | [], [], _, _ => .nil
  | v :: vs, r :: rs, e, h => by
    obtain ⟨t, ht⟩ := h 0 v rfl
    have : v = .int r t := ht
    subst this
    exact .cons _ _ (ints_of vs rs (by simpa using e) fun j v hj => h (j + 1) v hj)
section
variable {prog : Program} {w : World} {A : Around} {E : Value → Shared → Prop} {s : Shared} {h₀ : Heap} {L r : Addr} {m : Str → Option Value} {news : List (Addr × Obj)} {a b c : Int} {t₀ u₀ v₀ : Tok} {n : Nat} {Q : Value → Shared → Prop}
/-- list(range(..)) of any step -/
theorem list_range_any (hh : A.handled = none) (F : Fr h₀ L s.heap m) (N : News h₀ L s.heap news) (hr : IsRange s.heap r a b c t₀ u₀ v₀) (hsmall : Builtin.Range.small a b c = true) (hn : Builtin.Range.rangeSize a b c = (n : Int)) (hz : n ≤ 2 ^ 24)
    (h : ∀ D us k h' tk, Fr h₀ L h' m → News h₀ L h' ((D, listOf (List.toArray us) k) :: news) → (∀ p ∈ news, p.1 < D) → IntsAre us ((List.range n).map fun i => a + (i : Nat) * c) → Q (.ref D) { s with heap := h', toks := tk }) :
    wpAny (model prog w) A (call (.type "list") [.ref r]) Q E s := by
  refine call_list_range hh hr hsmall hn hz fun h' tk acc k hk hD hI => ?_
  have hD' : h'.get? s.heap.objs.size = some (listOf (List.toArray acc.toList) k) := by
    rw [Array.toArray_toList]
    exact hD
  refine h _ acc.toList k h' tk (F.keeps hk) (news_pushed F N hk hD' rfl) (fun p hp => Heap.lt_size (N p hp).1) (ints_of _ _ (by rw [Array.length_toList, List.length_map, List.length_range]; exact hI.1) fun j v hj => ?_)
  obtain ⟨t, ht⟩ := hI.2 j v (by rw [← hj, Array.getElem?_toList])
  have hjn : j < n := by
    have := (List.getElem?_eq_some_iff.mp hj).1
    rw [Array.length_toList, hI.1] at this; exact this
  refine ⟨t, ht.trans ?_⟩
  congr 1
  simp [List.getD_eq_getElem?_getD, hjn]
end
theorem small_any {a b c : Int} (ha : -1000 ≤ a ∧ a ≤ 1000) (hb : -1000 ≤ b ∧ b ≤ 1000) (hc : c = 1 ∨ c = 2 ∨ c = -1) : Builtin.Range.small a b c = true := by
  have hs : -4000 ≤ Builtin.Range.rangeSize a b c ∧ Builtin.Range.rangeSize a b c ≤ 4000 := by
    unfold Builtin.Range.rangeSize
    have e : -(-1 : Int) = 1 := rfl
    rcases hc with rfl | rfl | rfl <;> (repeat' split) <;> (try simp only [e, Int.ediv_one]) <;> omega
  unfold Builtin.Range.small
  generalize Builtin.Range.rangeSize a b c = z at *
  have p62 : (2 : Int) ^ 63 = 9223372036854775808 := by decide
  simp only [Builtin.Range.rangeFitsLong, p62, Bool.and_eq_true, Bool.or_eq_true, decide_eq_true_eq, beq_iff_eq]
  rcases hc with rfl | rfl | rfl <;> simp <;> omega

theorem small_nat {n : Nat} (h : n ≤ 1000) : Builtin.Range.small 0 (n : Int) 1 = true := small_any ⟨by omega, by omega⟩ ⟨by omega, by omega⟩ (.inl rfl)
theorem size_nat {m n : Nat} (e : m = n) : Builtin.Range.rangeSize 0 (m : Int) 1 = (n : Int) := by
  subst e
  unfold Builtin.Range.rangeSize
  rw [if_pos (by decide)]
  split <;> omega
theorem line_le {n : Nat} (h : n ≤ 1000) : n ≤ sizeLine := Nat.le_trans h (by rw [sizeLine_eq]; decide)
theorem hz_le {α : Type} {l : List α} (h : l.length ≤ 1000) : l.toArray.size ≤ sizeLine := by rw [List.size_toArray]; exact line_le h

end
noncomputable section
/-- what a def does that may change the objects S, and nothing else that stands -/
noncomputable def Mut (K : Params → Frag) (prog : Program) (f need : Nat) (args : Args) (S : List (Addr × Obj)) (pre : World → Heap → Prop) (R : Value → List (Addr × Obj) → Prop) : Prop :=
  ∀ (w : World) (p : Program) (loose : List Str) (mean : ExcName → Option Value) (mg mb : Str → Option Value) (dp un : Nat) (fr : Option (List Env)) (gd : Option (List Code)) (s : Shared) (Q E : Value → Shared → Prop),
    (∀ q ∈ S, s.heap.get? q.1 = some q.2) → (K w.params).In (hideAll s.heap (S.map (·.1))) → Top p loose mean mg mb (hideAll s.heap (S.map (·.1))) → pre w s.heap → dp + need < recursionLimit → un + 8 * need < cLine →
    (∀ r h' tk' S', (∀ b o, s.heap.get? b = some o → b ∉ S.map (·.1) → h'.get? b = some o) → (∀ q ∈ S', h'.get? q.1 = some q.2 ∧ (q.1 ∈ S.map (·.1) ∨ s.heap.get? q.1 = none)) → R r S' → Q r { s with heap := h', toks := tk' }) →
    wpAny (model prog w) (Ar dp un fr gd) (call (.ref f) args.pos args.kw) Q E s
theorem Mut.use {K : Params → Frag} {prog : Program} {f need : Nat} {args : Args} {S : List (Addr × Obj)} {pre : World → Heap → Prop} {R : Value → List (Addr × Obj) → Prop} (C : Mut K prog f need args S pre R) (rest : List (Addr × Obj)) {w : World} {p : Program} {loose : List Str} {mean : ExcName → Option Value} {mg mb : Str → Option Value}
    {dp un : Nat} {fr : Option (List Env)} {gd : Option (List Code)} {s : Shared} {Q E : Value → Shared → Prop} {h₀ : Heap} {L : Addr} {m : Str → Option Value} {news : List (Addr × Obj)}
    (F : Fr h₀ L s.heap m) (X : (K w.params).In h₀) (N : News h₀ L s.heap news) (T : Top p loose mean mg mb h₀) (hS : ∀ q ∈ S, q ∈ news) (hr : ∀ q ∈ rest, q ∈ news ∧ q.1 ∉ S.map (·.1)) (hp : pre w s.heap) (hd : dp + need < recursionLimit) (hu : un + 8 * need < cLine)
    (hret : ∀ r h' tk' S', Fr h₀ L h' m → News h₀ L h' (S' ++ rest) → (∀ b o, s.heap.get? b = some o → b ∉ S.map (·.1) → h'.get? b = some o) → R r S' → Q r { s with heap := h', toks := tk' }) :
    wpAny (model prog w) (Ar dp un fr gd) (call (.ref f) args.pos args.kw) Q E s := by
  have nm : ∀ b o, h₀.get? b = some o → b ∉ S.map (·.1) := fun b o e q => by
    obtain ⟨x, hx, rfl⟩ := List.mem_map.mp q
    rw [(N x (hS x hx)).2.2] at e; cases e
  have st : h₀.StaysIn (hideAll s.heap (S.map (·.1))) := fun b o e => hideAll_get _ (F.keep b o e) (nm b o e)
  have nL : L ∉ S.map (·.1) := fun q => by
    obtain ⟨x, hx, e⟩ := List.mem_map.mp q
    exact (N x (hS x hx)).2.1 e
  refine C w p loose mean mg mb dp un fr gd s Q E (fun q hq => (N q (hS q hq)).1) (X.keeps st) (T.keeps st) hp hd hu fun r h' tk' S' hk hS' hR => hret r h' tk' S' ?_ (fun q hq => ?_) hk hR
  · obtain ⟨oL, es, ep, hL, hLd, hLk, hLf⟩ := F.ns
    exact ⟨⟨oL, es, ep, hk _ _ hL nL, hLd, hLk, hLf⟩, fun b o e => hk b o (F.keep b o e) (nm b o e), F.above⟩
  · rcases List.mem_append.mp hq with hq | hq
    · have h1 := hS' q hq
      refine ⟨h1.1, ?_, ?_⟩
      · rintro rfl
        rcases h1.2 with h2 | h2
        · exact nL h2
        · obtain ⟨oL, es, ep, hL, _⟩ := F.ns
          rw [hL] at h2; cases h2
      · rcases h1.2 with h2 | h2
        · obtain ⟨x, hx, e⟩ := List.mem_map.mp h2
          rw [← e]; exact (N x (hS x hx)).2.2
        · cases e : h₀.get? q.1 with
          | none => rfl
          | some o => rw [F.keep _ _ e] at h2; cases h2
    · have h1 := hr q hq
      exact ⟨hk _ _ (N q h1.1).1 h1.2, (N q h1.1).2⟩
/-- the end of such a def: what stands in its base and its ledger -/
theorem Mut.end {s : Shared} {S S' news : List (Addr × Obj)} {g h' : Heap} {L : Addr} {m : Str → Option Value} (hg : ∀ b o, s.heap.get? b = some o → b ∉ S.map (·.1) → g.get? b = some o) (F : Fr g L h' m) (N : News g L h' news) (h : ∀ q ∈ S', q ∈ news) :
    (∀ b o, s.heap.get? b = some o → b ∉ S.map (·.1) → h'.get? b = some o) ∧ (∀ q ∈ S', h'.get? q.1 = some q.2 ∧ (q.1 ∈ S.map (·.1) ∨ s.heap.get? q.1 = none)) := by
  refine ⟨fun b o e hb => F.keep b o (hg b o e hb), fun q hq => ⟨(N q (h q hq)).1, ?_⟩⟩
  cases e : s.heap.get? q.1 with
  | none => exact .inr rfl
  | some o =>
    refine .inl (Decidable.byContradiction fun hb => ?_)
    have := hg q.1 o e hb
    rw [(N q (h q hq)).2.2] at this; cases this
theorem ret_mut {s : Shared} {S news : List (Addr × Obj)} {g h' : Heap} {L : Addr} {m : Str → Option Value} {Q : Value → Shared → Prop} {R : Value → List (Addr × Obj) → Prop} {r : Value} {tk' : Nat}
    (hret : ∀ r h' tk' S', (∀ b o, s.heap.get? b = some o → b ∉ S.map (·.1) → h'.get? b = some o) → (∀ q ∈ S', h'.get? q.1 = some q.2 ∧ (q.1 ∈ S.map (·.1) ∨ s.heap.get? q.1 = none)) → R r S' → Q r { s with heap := h', toks := tk' })
    (hg : ∀ b o, s.heap.get? b = some o → b ∉ S.map (·.1) → g.get? b = some o) (F : Fr g L h' m) (N : News g L h' news) (hR : R r news) : Q r { s with heap := h', toks := tk' } :=
  hret r h' tk' news (Mut.end hg F N fun q hq => hq).1 (Mut.end hg F N fun q hq => hq).2 hR
section
variable {h h' h₀ : Heap} {L : Addr} {m : Str → Option Value} {news S S' rest : List (Addr × Obj)}
theorem mut_fore (F : Fr h₀ L h m) (N : News h₀ L h news) (hS : ∀ q ∈ S, q ∈ news) : h₀.StaysIn (hideAll h (S.map (·.1))) := fun b o e => hideAll_get _ (F.keep b o e) (fun q => by
    obtain ⟨x, hx, rfl⟩ := List.mem_map.mp q
    rw [(N x (hS x hx)).2.2] at e; cases e)
theorem mut_back (F : Fr h₀ L h m) (N : News h₀ L h news) (hS : ∀ q ∈ S, q ∈ news) (hr : ∀ q ∈ rest, q ∈ news ∧ q.1 ∉ S.map (·.1))
    (hk : ∀ b o, h.get? b = some o → b ∉ S.map (·.1) → h'.get? b = some o) (hS' : ∀ q ∈ S', h'.get? q.1 = some q.2 ∧ (q.1 ∈ S.map (·.1) ∨ h.get? q.1 = none)) : Fr h₀ L h' m ∧ News h₀ L h' (S' ++ rest) := by
  have nm : ∀ b o, h₀.get? b = some o → b ∉ S.map (·.1) := fun b o e q => by
    obtain ⟨x, hx, rfl⟩ := List.mem_map.mp q
    rw [(N x (hS x hx)).2.2] at e; cases e
  have nL : L ∉ S.map (·.1) := fun q => by
    obtain ⟨x, hx, e⟩ := List.mem_map.mp q
    exact (N x (hS x hx)).2.1 e
  refine ⟨?_, fun q hq => ?_⟩
  · obtain ⟨oL, es, ep, hL, hLd, hLk, hLf⟩ := F.ns
    exact ⟨⟨oL, es, ep, hk _ _ hL nL, hLd, hLk, hLf⟩, fun b o e => hk b o (F.keep b o e) (nm b o e), F.above⟩
  · rcases List.mem_append.mp hq with hq | hq
    · have h1 := hS' q hq
      refine ⟨h1.1, ?_, ?_⟩
      · rintro rfl
        rcases h1.2 with h2 | h2
        · exact nL h2
        · obtain ⟨oL, es, ep, hL, _⟩ := F.ns
          rw [hL] at h2; cases h2
      · rcases h1.2 with h2 | h2
        · obtain ⟨x, hx, e⟩ := List.mem_map.mp h2
          rw [← e]; exact (N x (hS x hx)).2.2
        · cases e : h₀.get? q.1 with
          | none => rfl
          | some o => rw [F.keep _ _ e] at h2; cases h2
    · have h1 := hr q hq
      exact ⟨hk _ _ (N q h1.1).1 h1.2, (N q h1.1).2⟩
end

section
variable {prog : Program} {w : World} {A : Around} {s : Shared} {K : Frag} {p : Program} {loose : List Str} {mean : ExcName → Option Value} {mg mb : Str → Option Value} {Q E : Value → Shared → Prop}
  {name qual : Str} {params : Arguments} {body : List Stmt} {scope : Scope} {dV kV doc pm cdv ct oc : Value} {an od : Option Addr} {osl : Array (Option Value)} {f : Addr} {args : Args} {binds : Addr → List (Str × Value)}
/-- into a def's body that gathers keywords, of which there are none -/
theorem enterW (S : List (Addr × Obj)) (hS : ∀ q ∈ S, s.heap.get? q.1 = some q.2) (X : K.In (hideAll s.heap (S.map (·.1)))) (T : Top p loose mean mg mb (hideAll s.heap (S.map (·.1))))
    (ho : K.lookup f = some ⟨oc, od, .func (fnOf name qual params body scope dV kV doc pm an cdv ct), osl⟩) (hcd : codeIn K cdv qual = true) (hroom : A.depth < recursionLimit)
    (hbind : bindArgs (fnOf name qual params body scope dV kV doc pm an cdv ct) args = (alloc (PySem.W.dictOf [] 0) >>= fun D => pure (binds D))) (hloc : ∀ D, ∀ y ∈ binds D, scope.names.lookup y.1 = some .local)
    (h : ∀ D g L' h₁, (∀ b o, s.heap.get? b = some o → b ∉ S.map (·.1) → g.get? b = some o) → Fr g L' h₁ (fun y => (binds D).reverse.lookup y) → News g L' h₁ ((D, PySem.W.dictOf [] 0) :: S) → K.In g → Top p loose mean mg mb g → (∀ q ∈ S, q.1 < D) → D < L' → (D == sysModules) = false →
      wpAny (model prog w) (A.deeper (envOf qual scope L' f cdv)) (execs body (envOf qual scope L' f cdv)) (fun fl s' => Q (match fl with | .ret v => v | _ => .none) s') (fun _ _ => False) { s with heap := h₁, toks := s.toks + (binds D).length })
    (hco : scope.isCoroutine = false) (hgen : scope.isGenerator = false) (hk : scope.kind = .function) (hcell : ∀ x ∈ scope.names, x.2 ≠ .cell) :
    wpAny (model prog w) A (call (.ref f) args.pos args.kw) Q E s := by
  have keep : ∀ b o, (hideAll s.heap (S.map (·.1))).get? b = some o → s.heap.get? b = some o := fun b o e => of_hideAll _ e
  refine wpAny_call ?_
  refine codeAny_call_function (fd := fnOf name qual params body scope dV kV doc pm an cdv ct) (body := body) hroom ((X.keeps keep) _ _ ho) rfl hco hgen rfl (codeRec_of (X.keeps keep) hcd) ?_
  rw [hbind]
  have up : s.heap.StaysIn (s.heap.push (PySem.W.dictOf [] 0)) := fun b o e => Heap.get?_push_of_some _ e
  refine wpAny_bind (wpAny_alloc (wpAny_pure (wpAny_newFunctionEnv hcell (hloc _) (fun h₁ hns hsb => ⟨((T.nolimit.keeps keep).keeps up).fresh _ hsb, ?_⟩) hk)))
  dsimp only at hns hsb ⊢
  have hk₁ : s.heap.StaysIn h₁ := fun b o e => hsb.extBut b o (Nat.ne_of_lt (Heap.lt_size (up b o e))) (Heap.get?_push_of_some _ (up b o e))
  have hD : h₁.get? s.heap.objs.size = some (PySem.W.dictOf [] 0) := hsb.extBut _ _ (by rw [Heap.size_push]; exact Nat.ne_of_lt (Nat.lt_succ_self _)) (Heap.get?_push_of_some _ (Heap.get?_push_size _ rfl))
  have hle : (hideAll s.heap (S.map (·.1))).objs.size ≤ (s.heap.push (PySem.W.dictOf [] 0)).objs.size := by rw [Heap.size_push, hideAll_size]; exact Nat.le_succ _
  refine codeAny_func (wpAny_mono (h s.heap.objs.size _ _ h₁ (fun b o e hb => hideAll_get _ e hb) ⟨hns, fun b o e => hk₁ b o (of_hideAll _ e), hle⟩ (fun q hq => ?_) X T (fun q hq => Heap.lt_size (hS q hq)) (by rw [Heap.size_push]; exact Nat.lt_succ_self _) (beq_eq_false_iff_ne.mpr (Nat.ne_of_gt (modules_low (T.nolimit.keeps keep))))) (fun fl s' hl => ?_) fun _ _ x => x.elim)
  · rcases List.mem_cons.mp hq with rfl | hq
    · exact ⟨hD, by rw [Heap.size_push]; exact Nat.ne_of_lt (Nat.lt_succ_self _), Heap.get?_none_of_le (by rw [hideAll_size]; exact Nat.le_refl _)⟩
    · exact ⟨hk₁ _ _ (hS q hq), by rw [Heap.size_push]; exact Nat.ne_of_lt (Nat.lt_succ_of_lt (Heap.lt_size (hS q hq))), hideAll_none _ (List.mem_map_of_mem hq)⟩
  · exact hl
end

end
noncomputable section
namespace Re
open PySem.Builtin.Re
theorem slot_search : Slot "re.Pattern" "search" "re.Pattern.search" :=
  .of (owner := "re.Pattern") (n := "search") (by rw [typeLookup_type, builtinLookup_eq_fast]; kernel_rfl) (by decide +kernel) (by decide +kernel) (by decide +kernel)
    (by first | exact .inl (by decide +kernel) | exact .inr (by decide +kernel)) (by rw [isSubtype_type]; kernel_rfl)
theorem type_search : typeOf (.builtin "re.Pattern.search") = pure (.type "method_descriptor") := by show builtinType _ = _; rw [builtinType_eq_fast]; kernel_rfl
theorem entry_search : entryFor table "re.Pattern.search" = some Builtin.«re.Pattern.search» := entryFor_of_tree (by kernel_rfl)
theorem args_search (a b : Value) : argsOk "re.Pattern.search" ⟨[a, b], []⟩ := by unfold argsOk; kernel_rfl

theorem admitted_none (m : Sre.M) (hset : ∀ s, s < m.lim → ∀ seen, ∃ seen', Sre.inSet m.code (m.text.getD s 0) m.code.size 5 true seen = .ok (false, seen')) : ∀ fuel s seen, ∃ seen', Sre.M.admitted m fuel s seen = .ok (none, seen')
  | 0, s, seen => ⟨seen, rfl⟩
  | fuel + 1, s, seen => by
    unfold Sre.M.admitted
    by_cases h : s ≥ m.lim
    · rw [if_pos h]; exact ⟨seen, rfl⟩
    · rw [if_neg h]
      obtain ⟨s1, e1⟩ := hset s (by omega) seen
      obtain ⟨s2, e2⟩ := admitted_none m hset fuel (s + 1) s1
      exact ⟨s2, by rw [e1]; exact e2⟩
theorem not_else {code text : Array Nat} (hset : ∀ s, s < text.size → ∀ seen, ∃ seen', Sre.inSet code (text.getD s 0) code.size 5 true seen = .ok (false, seen')) {m : Sre.M} {fuel s : Nat} {seen : Sre.Seen} {r : Except String (Option Nat × Sre.Seen)}
    (e : Sre.M.admitted m fuel s seen = r) (hc : m.code = code) (ht : m.text = text) (hl : m.lim = text.size) : ∃ seen', r = .ok (none, seen') := by
  obtain ⟨s', e'⟩ := admitted_none m (by rw [hc, ht, hl]; exact hset) fuel s seen
  exact ⟨s', by rw [← e, e']⟩
theorem say_run (m : Sre.M) (ha : m.answer = some false) (hf : m.frames = []) (ho : m.outcome = none) : (m.runFor 4).outcome = some .failed := by
  have e : m.step = { m with outcome := some .failed } := by
    unfold Sre.M.step
    rw [ho]
    simp only [Option.isSome_none, Bool.false_eq_true, if_false, ha, hf]
  show (if m.outcome.isSome then m else Sre.M.runFor 3 m.step).outcome = _
  rw [ho, if_neg (by simp), e]
  rfl
theorem search_none (code text : Array Nat) (h0 : code.getD 0 0 = 14) (h2 : code.getD 2 0 = 4) (h3 : code.getD 3 0 = 1)
    (hset : ∀ s, s < text.size → ∀ seen, ∃ seen', Sre.inSet code (text.getD s 0) code.size 5 true seen = .ok (false, seen')) :
    ((Sre.forSearch code text 0 0 text.size false).runFor 4).outcome = some .failed := by
  have e0 : Sre.ops[code.getD 0 0]? = some .INFO := by rw [h0]; rfl
  have eh : Sre.header code = (1, 1 + code.getD 1 0) := by unfold Sre.header; rw [e0]; simp only [h3]
  unfold Sre.forSearch
  simp only [eh]
  split
  · exact say_run _ rfl rfl rfl
  · have ef : ∀ m : Sre.M, m.code = code → m.hasFirstSet = true := by
      intro m hm; unfold Sre.M.hasFirstSet; rw [hm, e0, h2]; rfl
    unfold Sre.M.attemptFrom
    rw [ef _ rfl]
    simp only [Bool.not_true, Bool.false_eq_true, if_false]
    split
    · rename_i s seen e
      obtain ⟨_, e'⟩ := not_else hset e rfl rfl rfl
      cases e'
    · exact say_run _ rfl rfl rfl
    · rename_i why e
      obtain ⟨_, e'⟩ := not_else hset e rfl rfl rfl
      cases e'
theorem drive_of (m : Sre.M) (h : (m.runFor 4).outcome = some .failed) : ∀ n, n ≠ 0 → reDrive n m = pure (m.runFor 4)
  | 0, h0 => absurd rfl h0
  | n + 1, _ => by
    unfold reDrive
    show (if (m.runFor 4).outcome.isSome then pure (m.runFor 4) else _) = _
    rw [h]; rfl
section
variable {prog : Program} {w : World} {A : Around} {E : Value → Shared → Prop} {s : Shared}
theorem run_none {m : Sre.M} {Q : Option Sre.M → Shared → Prop} (h : (m.runFor 4).outcome = some .failed) (hQ : Q none s) : wpAny (model prog w) A (reRunToEnd m) Q E s := by
  unfold reRunToEnd
  rw [drive_of m h (2 ^ 64) (by decide)]
  refine wpAny_bind (wpAny_pure (wpAny_bind ?_))
  refine wpAny_forIn_list _ (fun _ _ s' => s' = s) _ (fun i rest b s' hs => ?_) (fun b s' hs => ?_) _ _ rfl
  · subst hs
    split
    · exact wpAny_bind (wpAny_rule (wpAny_pure rfl))
    · exact wpAny_pure rfl
  · subst hs
    rw [h]
    exact wpAny_pure hQ
theorem search_rule {P T : Addr} {dP dT : Option Addr} {sP sT : Array (Option Value)} {v0 v1 v3 v4 : Value} {t2 t6 : Tok} {items : Array Value} {n : Nat} {x : List Nat} {t : Tok} {code : Array Nat} {Q : Value → Shared → Prop}
    (hP : s.heap.get? P = some ⟨.type "re.Pattern", dP, .fields #[v0, v1, .int 0 t2, v3, v4, .ref T, .int 0 t6], sP⟩) (hT : s.heap.get? T = some ⟨.type "tuple", dT, .seq items n, sT⟩)
    (hc : (items.map reRawOf).map (·.toNat) = code) (h0 : code.getD 0 0 = 14) (h2 : code.getD 2 0 = 4) (h3 : code.getD 3 0 = 1)
    (hset : ∀ c ∈ x, ∀ seen, ∃ seen', Sre.inSet code c code.size 5 true seen = .ok (false, seen')) (hx : x.length ≤ 1000) (hQ : Q .none s) :
    wpAny (model prog w) A (call (.builtin "re.Pattern.search") [.ref P, .str (sl x) t]) Q E s := by
  refine wpAny_call_entry slot_search ⟨_, hP, rfl⟩ entry_search ?_ (args_search _ _)
  have hn : reNamed "re.Pattern.search" "search" ["string", "pos", "endpos"] 1 [.str (sl x) t] [] = pure [some (.str (sl x) t), none, none] := by rfl
  unfold Builtin.«re.Pattern.search»
  refine wpAny_bind ?_
  unfold reTarget
  dsimp only
  rw [hn]
  refine wpAny_bind (wpAny_pure ?_)
  dsimp only
  refine wpAny_bind (wpAny_pure (wpAny_bind (wpAny_pure (wpAny_bind (wpAny_fieldsOf hP rfl ?_)))))
  have ht : reTextOf (.str (sl x) t) = pure ((sl x).cps, 0) := rfl
  rw [ht]
  refine wpAny_bind (wpAny_pure ?_)
  dsimp only
  refine wpAny_ite ?_
  rw [if_neg (by simp)]
  refine wpAny_bind (wpAny_pure ?_)
  have hi : wpAny (model prog w) A.in1 (reRawItems (.ref T)) (fun v s' => v = items.map reRawOf ∧ s' = s) E s := by
    unfold reRawItems
    exact wpAny_bind (wpAny_seqItems hT rfl (wpAny_pure ⟨rfl, rfl⟩))
  refine wpAny_bind (wpAny_mono hi (fun v s' ⟨hv, hs⟩ => ?_) fun _ _ x => x)
  subst hv hs
  refine wpAny_pure ?_
  rw [hc]
  have hl : min (2 ^ 63 - 1 : Int).toNat (sl x).cps.size = (sl x).cps.size := by
    have : (sl x).cps.size = x.length := by simp [sl]
    omega
  have h00 : min (0 : Int).toNat (sl x).cps.size = 0 := by simp
  rw [hl, h00]
  unfold reAnswer
  refine wpAny_bind (run_none (search_none code (sl x).cps h0 h2 h3 fun i hi seen => ?_) ?_)
  · have hi' : i < x.length := by simpa [sl] using hi
    have e : (sl x).cps.getD i 0 = x[i] := by simp [sl, hi']
    rw [e]
    exact hset _ (List.getElem_mem _) seen
  · exact wpAny_pure ⟨_, rfl, hQ⟩
end
end Re
namespace Re
noncomputable def nameCode : Array Nat := #[14, 10, 4, 1, 1, 22, 0, 31, 16, 127, 0, 13, 7, 22, 0, 31, 16, 127, 0, 1]
noncomputable def valueCode : Array Nat := #[14, 14, 4, 1, 1, 9, 4294966783, 0, 0, 2147483648, 0, 0, 0, 0, 0, 13, 11, 9, 4294966783, 0, 0, 2147483648, 0, 0, 0, 0, 0, 1]
theorem name_ok (c : Nat) (h1 : 32 ≤ c) (h2 : c < 127) (seen : Sre.Seen) : ∃ seen', Sre.inSet nameCode c nameCode.size 5 true seen = .ok (false, seen') := by
  have e1 : (decide (0 ≤ c) && decide (c ≤ 31)) = false := by simp; omega
  have e2 : (c == 127) = false := by simp; omega
  refine ⟨((seen.add 22).add 16).add 0, ?_⟩
  show (if (decide (0 ≤ c) && decide (c ≤ 31)) = true then _ else if (c == 127) = true then _ else _) = _
  rw [e1, e2]; rfl
theorem value_ok (c : Nat) (h1 : 32 ≤ c) (h2 : c < 127) (seen : Sre.Seen) : ∃ seen', Sre.inSet valueCode c valueCode.size 5 true seen = .ok (false, seen') := by
  have e1 : (valueCode.getD (5 + (1 + c / 32)) 0).testBit (c % 32) = false := by
    have h3 : c / 32 = 1 ∨ c / 32 = 2 ∨ c / 32 = 3 := by omega
    rcases h3 with e | e | e
    · rw [e]; show Nat.testBit 0 _ = false; exact Nat.zero_testBit _
    · rw [e]; show Nat.testBit 0 _ = false; exact Nat.zero_testBit _
    · rw [e]
      show Nat.testBit (2 ^ 31) _ = false
      rw [Nat.testBit_two_pow_of_ne]
      omega
  refine ⟨(seen.add 9).add 0, ?_⟩
  show (if (decide (c < 256) && (valueCode.getD (5 + (1 + c / 32)) 0).testBit (c % 32)) = true then _ else _) = _
  rw [e1, Bool.and_false]; rfl
end Re
namespace Re
open PySem.Builtin.Re
theorem plainAttrs_re : PlainAttrs "re.Pattern" :=
  ⟨⟨"object.__getattribute__", by rw [typeLookup_type, builtinLookup_eq_fast]; kernel_rfl, by decide +kernel⟩, by rw [typeLookup_type, builtinLookup_eq_fast]; kernel_rfl⟩
section
variable {prog : Program} {w : World} {A : Around} {E : Value → Shared → Prop} {s : Shared}
theorem method_K {K : Frag} {P : Addr} {sP : Array (Option Value)} {pl : Data} {Q : Value × List Value → Shared → Prop} {more : Sem Bool} (X : K.In s.heap) (hk : K.lookup P = some ⟨.type "re.Pattern", none, pl, sP⟩)
    (h : Q (.builtin "re.Pattern.search", [.ref P]) s) : wpAny (model prog w) A (getMethod (.ref P) (Str.ofString "search") more) Q E s :=
  getMethod_builtin ⟨_, X _ _ hk, rfl⟩ plainAttrs_re slot_search type_search (fun a e => by cases e; exact ⟨_, X _ _ hk, rfl⟩) h
theorem search_K {K : Frag} {P T : Addr} {dP dT : Option Addr} {sP sT : Array (Option Value)} {v0 v1 v3 v4 : Value} {t2 t6 : Tok} {items : Array Value} {n : Nat} {x : List Nat} {t : Tok} {Q : Value → Shared → Prop} (X : K.In s.heap)
    (hP : K.lookup P = some ⟨.type "re.Pattern", dP, .fields #[v0, v1, .int 0 t2, v3, v4, .ref T, .int 0 t6], sP⟩) (hT : K.lookup T = some ⟨.type "tuple", dT, .seq items n, sT⟩)
    (hc' : (items.toList.map fun v => (reRawOf v).toNat) = nameCode.toList ∨ (items.toList.map fun v => (reRawOf v).toNat) = valueCode.toList)
    (hset : ∀ c ∈ x, 32 ≤ c ∧ c < 127) (hx : x.length ≤ 1000) (hQ : Q .none s) :
    wpAny (model prog w) A (call (.builtin "re.Pattern.search") [.ref P, .str (sl x) t]) Q E s := by
  have hc : (items.map reRawOf).map (·.toNat) = nameCode ∨ (items.map reRawOf).map (·.toNat) = valueCode := by
    rcases hc' with h | h
    · exact .inl (Array.toList_inj.mp (by simp only [Array.toList_map, List.map_map]; exact h))
    · exact .inr (Array.toList_inj.mp (by simp only [Array.toList_map, List.map_map]; exact h))
  rcases hc with hc | hc
  · exact search_rule (X _ _ hP) (X _ _ hT) hc rfl rfl rfl (fun c h => name_ok c (hset c h).1 (hset c h).2) hx hQ
  · exact search_rule (X _ _ hP) (X _ _ hT) hc rfl rfl rfl (fun c h => value_ok c (hset c h).1 (hset c h).2) hx hQ
end
end Re

end
noncomputable section
/-- what a block's turns go through: the iterator I, what it changes (wr), what it reads (fp) -/
structure Wk (prog : Program) (w : World) (A : Around) (target : Expr) (I : Addr) (fp wr : List Addr) (n : Nat) (P : Nat → Value → Heap → Prop) (St : Nat → Heap → Prop) : Prop where
  frame : ∀ i h h', St i h → (∀ b ∈ fp, ∀ o, h.get? b = some o → h'.get? b = some o) → St i h'
  own : ∀ i h, St i h → ∀ b ∈ wr, ∃ o, h.get? b = some o
  item : ∀ i (s : Shared) (Q : Value → Shared → Prop) (Z : Shared → Prop) (E : Value → Shared → Prop), i < n → St i s.heap →
    (∀ v h' tk, P i v h' → St (i + 1) h' → (∀ b o, b ∉ wr → s.heap.get? b = some o → h'.get? b = some o) → Q v { s with heap := h', toks := tk }) →
    wpAny (model prog w) A (pyNext (.ref I)) (fun r s₁ => match r with | none => Z s₁ | some v => wpAny (model prog w) A (letOwnedTupleGo target (.ref I) v) (fun _ s₂ => Q v s₂) E s₁) E s
  done : ∀ (s : Shared) (Q : Option Value → Shared → Prop) (E : Value → Shared → Prop), St n s.heap →
    (∀ h' tk, (∀ b o, b ∉ wr → s.heap.get? b = some o → h'.get? b = some o) → Q none { s with heap := h', toks := tk }) → wpAny (model prog w) A (pyNext (.ref I)) Q E s
  self : ∀ i (s : Shared) (Q : Value → Shared → Prop) (E : Value → Shared → Prop), St i s.heap → Q (.ref I) s → wpAny (model prog w) A (pyIter (.ref I)) Q E s

section
variable {prog : Program} {w : World} {A : Around} {E : Value → Shared → Prop} {R : Result → Shared → Prop} {s : Shared}
noncomputable abbrev testsOf (ifs : List Expr) (env : Env) : Sem Bool := forIn ifs true fun c r => if r = true then do let ok ← isTrue c env (eval c env); pure (ForInStep.yield ok) else pure (ForInStep.yield r)

theorem compLoop_any {elt target iter : Expr} {ifs : List Expr} {scope : Scope} {pos : Pos} {it acc : Value} {env : Env} (I : Nat → Shared → Prop)
    (turn : ∀ n s, I n s → wpAny (model prog w) A (pyNext it) (fun r s₁ => match r with
      | none => R (.ok .next) s₁
      | some v => wpAny (model prog w) A (letOwnedTupleGo target it v) (fun _ s₁' => wpAny (model prog w) A (assign target env v) (fun _ s₂ =>
          wpAny (model prog w) A (testsOf ifs env) (fun ok s₃ =>
            if ok = true then wpAny (model prog w) A (eval elt env) (fun x s₄ =>
              wpAny (model prog w) A (call (.builtin "list.append") [acc, x]) (fun _ s₅ => ∃ m, m < n ∧ I m s₅) (fun _ _ => False) s₄) (fun _ _ => False) s₃
            else ∃ m, m < n ∧ I m s₃) (fun _ _ => False) s₂) (fun _ _ => False) s₁') (fun _ _ => False) s₁) (fun _ _ => False) s)
    (n : Nat) (h : I n s) : codeAny (model prog w) A (.compLoop (.ListComp elt [⟨target, iter, ifs, 0⟩] scope pos) 0 it acc env) R s := by
  refine codeAny_loop rfl I (fun n s hI => ?_) n h
  show wpAny _ A ((compTurn (.ListComp elt [⟨target, iter, ifs, 0⟩] scope pos) 0 it acc env).onRaise (fun x => do noteFrame x env; theTreesLotGoes x)) _ _ s
  refine wpAny_noted ?_
  rw [compTurn_list]
  refine wpAny_bind (wpAny_standAt (wpAny_bind (wpAny_mono (turn n s hI) (fun r s₁ h₁ => ?_) fun _ _ h' => h'.elim)))
  cases r with
  | none => exact wpAny_pure h₁
  | some v =>
    refine wpAny_bind (wpAny_mono h₁ (fun _ s₁' h₁' => ?_) fun _ _ h' => h'.elim)
    refine wpAny_bind (wpAny_mono h₁' (fun _ s₂ h₂ => wpAny_bind (wpAny_mono h₂ (fun ok s₃ h₃ => ?_) fun _ _ h' => h'.elim)) fun _ _ h' => h'.elim)
    cases ok with
    | false => exact wpAny_pure ⟨rfl, h₃⟩
    | true =>
      exact wpAny_bind (wpAny_bind (wpAny_mono h₃ (fun x s₄ h₄ => wpAny_bind (wpAny_mono h₄ (fun _ s₅ h₅ => wpAny_pure (wpAny_pure ⟨rfl, h₅⟩)) fun _ _ h' => h'.elim)) fun _ _ h' => h'.elim))

/-- a block's frame with its cells -/
theorem newEnv_cells {scope : Scope} {globals : Addr} {cl : List (Str × Addr)} {qual : Str} {env : Env} {Q : Env → Shared → Prop}
    (hQ : ∀ h', s.heap.StaysIn h' → h'.Ns s.heap.objs.size (fun _ => none) → (∀ n c, (n, c) ∈ cellsFrom (s.heap.objs.size + 1) scope.names [] → h'.IsCell c none ∧ s.heap.objs.size < c) →
      Q { scope, locals := s.heap.objs.size, globals, cells := cellsFrom (s.heap.objs.size + 1) scope.names cl, qual, func := none, code := env.code, frame := env.frame, builtins := env.builtins } { s with heap := h' }) :
    wpAny (model prog w) A (newFunctionEnv scope globals cl [] qual none .none (some env)) Q E s := by
  simp only [newFunctionEnv, Option.isSome_some, if_true]
  refine wpAny_bind (wpAny_alloc ?_)
  refine wpAny_bind (wpAny_layCells _ (fun name kind cells => by cases hkc : kind == NameKind.cell <;> simp [hkc]) _ _ _ _ ?_)
  have ok := cellsFrom_ok scope.names (s.heap.push { cls := .type "dict", data := .dict #[] }) (s.heap.objs.size + 1) [] ⟨fun _ _ hm => (nomatch hm), List.Pairwise.nil⟩ (by rw [Heap.size_push]; exact Nat.le_refl _)
  rw [Heap.size_push] at ok
  rw [show ({ s with heap := s.heap.push { cls := .type "dict", data := .dict #[] } } : Shared).heap.objs.size = s.heap.objs.size + 1 from Heap.size_push ..]
  refine wpAny_bind ?_
  rw [List.forIn_nil]
  refine wpAny_pure (wpAny_pure (hQ _ ?_ ?_ ?_))
  · exact fun b o e => pushCells_keeps _ _ b o (Heap.get?_push_of_some _ e)
  · exact (Heap.Ns.new s.heap (.type "dict")).keeps (pushCells_keeps _ _)
  · exact fun n c hm => ⟨(ok.empty n c hm).1, (ok.empty n c hm).2⟩
end

/-- the end of a block's turn -/
noncomputable def CEnd (g : Heap) (C : Addr) (s : Shared) (rest : List (Addr × Obj)) (J : (Str → Option Value) → List (Addr × Obj) → Prop) (s' : Shared) : Prop :=
  ∃ h' tk' m' nw', s' = { s with heap := h', toks := tk' } ∧ Fr g C h' m' ∧ News g C h' (nw' ++ rest) ∧ (∀ p ∈ nw', ∀ q ∈ rest, p.1 ≠ q.1) ∧ J m' nw'

section
variable {prog : Program} {w : World} {A : Around} {E : Value → Shared → Prop} {s : Shared}
theorem objs_of {h : Heap} : ∀ {wr : List Addr}, (∀ b ∈ wr, ∃ o, h.get? b = some o) → ∃ ws : List (Addr × Obj), ws.map (·.1) = wr ∧ ∀ p ∈ ws, h.get? p.1 = some p.2
  | [], _ => ⟨[], rfl, fun _ h => nomatch h⟩
  | b :: r, hx => by
    obtain ⟨o, e⟩ := hx b (.head _)
    obtain ⟨ws, e1, e2⟩ := objs_of (wr := r) fun c hc => hx c (.tail _ hc)
    refine ⟨(b, o) :: ws, by simp [e1], fun p hp => ?_⟩
    rcases List.mem_cons.mp hp with rfl | hp
    · exact e
    · exact e2 p hp
theorem cellsAre_mem {cm : Str → Option Value} {cs : List (Str × Addr)} {cells : List (Addr × Obj)} (Y : CellsAre cm cs cells) : ∀ p ∈ cells, ∃ n, (n, p.1) ∈ cs := by
  induction Y with
  | nil => intro p h; cases h
  | cons _ _ ih =>
    intro p h
    rcases List.mem_cons.mp h with rfl | h
    · exact ⟨_, .head _⟩
    · obtain ⟨n', h'⟩ := ih p h
      exact ⟨n', .tail _ h'⟩
/-- a list comprehension's block, by turns; g is what stands -/
theorem comp_block {elt target iter : Expr} {ifs : List Expr} {scope : Scope} {cl : List (Str × Addr)} {pos : Pos} {env : Env} {I : Addr} {fp wr : List Addr} {n : Nat} {P : Nat → Value → Heap → Prop} {St : Nat → Heap → Prop} {g : Heap}
    {RR : Value → Addr → Result → Shared → Prop} (W : Wk prog w A target I fp wr n P St) (hsz : n ≤ sizeLine) (hst : St 0 s.heap) (hg : g.StaysIn s.heap) (hgs : g.objs.size ≤ s.heap.objs.size)
    (hwr : ∀ b ∈ wr, g.get? b = none ∧ b < s.heap.objs.size) (hfp : ∀ b ∈ fp, b ∈ wr ∨ ∃ o, g.get? b = some o) (hkind : scope.kind = .function)
    (J : Addr → Nat → List Value → (Str → Option Value) → List (Addr × Obj) → Prop) (h0 : ∀ C cells, g.objs.size ≤ C → CellsAre (fun _ => none) (cellsFrom (C + 1) scope.names []) cells → J C 0 [] (fun _ => none) cells)
    (step : ∀ C i v ys m nw rest h tk, i < n → J C i ys m nw → P i v h → Fr g C h m → News g C h (nw ++ rest) → (∀ p ∈ nw, ∀ q ∈ rest, p.1 ≠ q.1) →
      wpAny (model prog w) A (assign target (compEnvC scope (cellsFrom (C + 1) scope.names cl) C env) v) (fun _ s₂ =>
        wpAny (model prog w) A (testsOf ifs (compEnvC scope (cellsFrom (C + 1) scope.names cl) C env)) (fun ok s₃ =>
          if ok = true then wpAny (model prog w) A (eval elt (compEnvC scope (cellsFrom (C + 1) scope.names cl) C env)) (fun y => CEnd g C s rest (J C (i + 1) (ys ++ [y]))) (fun _ _ => False) s₃
          else CEnd g C s rest (J C (i + 1) ys) s₃) (fun _ _ => False) s₂) (fun _ _ => False) { s with heap := h, toks := tk })
    (hRR : ∀ D C ys m nw h tk, J C n ys m nw → Fr g C h m → News g C h (nw ++ [(D, LCg.lst ys)]) → (∀ p ∈ nw, p.1 ≠ D) → C ≠ D → s.heap.objs.size ≤ C → s.heap.objs.size ≤ D → RR (.ref D) C (.ok .next) { s with heap := h, toks := tk }) :
    wpAny (model prog w) A (newList []) (fun acc s₃ => wpAny (model prog w) A (newFunctionEnv scope env.globals cl [] env.qual none .none (some env)) (fun cenv s₄ =>
      codeAny (model prog w) A (.compStart (.ListComp elt [⟨target, iter, ifs, 0⟩] scope pos) 0 (.ref I) acc { cenv with scope := relabel scope env }) (RR acc cenv.locals) s₄) E s₃) E s := by
  have fresh : ∀ a, s.heap.objs.size ≤ a → g.get? a = none := fun a ha => Heap.get?_none_of_le (Nat.le_trans hgs ha)
  refine wpAny_newObj_type (newEnv_cells fun h₁ hk₁ hns₁ hc₁ => ?_)
  dsimp only at hk₁ hns₁ hc₁ ⊢
  have hDo : h₁.get? s.heap.objs.size = some (LCg.lst []) := hk₁ _ _ (Heap.get?_push_size _ rfl)
  have hk₀ : s.heap.StaysIn h₁ := fun b o e => hk₁ b o (Heap.get?_push_of_some _ e)
  rw [Heap.size_push] at hns₁ hc₁ ⊢
  generalize hD : s.heap.objs.size = D at *
  have hst₁ : St 0 h₁ := W.frame _ _ _ hst fun b _ o e => hk₀ b o e
  obtain ⟨cells, N₁, hcl⟩ : ∃ cells, News g (D + 1) h₁ cells ∧ CellsAre (fun _ => none) (cellsFrom (D + 1 + 1) scope.names []) cells :=
    Cl.news (h₀ := g) (cm := fun _ => none) (Nat.le_trans hgs (Nat.le_succ D)) fun n c hm => ⟨(hc₁ n c hm).1, (hc₁ n c hm).2⟩
  have hcD : ∀ p ∈ cells, D + 1 < p.1 := fun p hp => by
    obtain ⟨n', hn'⟩ := cellsAre_mem hcl p hp
    exact (hc₁ n' p.1 hn').2
  have hg₁ : g.StaysIn h₁ := fun b o e => hk₀ b o (hg b o e)
  have hDw : D ∉ wr := fun hm => Nat.lt_irrefl _ (hwr _ hm).2
  have hCw : D + 1 ∉ wr := fun hm => Nat.lt_irrefl _ (Nat.lt_trans (hwr _ hm).2 (Nat.lt_succ_self D))
  have loop : codeAny (model prog w) A (.compLoop (.ListComp elt [⟨target, iter, ifs, 0⟩] scope pos) 0 (.ref I) (.ref D) (compEnvC scope (cellsFrom (D + 1 + 1) scope.names cl) (D + 1) env)) (RR (.ref D) (D + 1)) { s with heap := h₁ } := by
    refine compLoop_any (fun k s' => ∃ i ys m nw ws h tk, s' = { s with heap := h, toks := tk } ∧ i ≤ n ∧ k = n + 1 - i ∧ ys.length ≤ i ∧ St i h ∧ ws.map (·.1) = wr ∧ Fr g (D + 1) h m ∧ News g (D + 1) h (nw ++ (ws ++ [(D, LCg.lst ys)])) ∧
      (∀ p ∈ nw, p.1 ∉ wr ∧ p.1 ≠ D) ∧ J (D + 1) i ys m nw) ?_ (n + 1) ?_
    · rintro k s' ⟨i, ys, m, nw, ws, h, tk, rfl, hi, rfl, hyl, hSt, hws, F, N, hoff, hJ⟩
      by_cases hlt : i < n
      · refine W.item i _ _ _ _ hlt hSt fun v h₂ tk₂ hP hSt₂ hk₂ => ?_
        dsimp only at hk₂
        have F₂ : Fr g (D + 1) h₂ m := by
          obtain ⟨oL, es, ep, hL, hLd, hLk, hLf⟩ := F.ns
          exact ⟨⟨oL, es, ep, hk₂ _ _ hCw hL, hLd, hLk, hLf⟩, fun b o e => hk₂ b o (fun hb => by rw [(hwr b hb).1] at e; cases e) (F.keep b o e), F.above⟩
        obtain ⟨ws₂, hws₂, hws₂e⟩ := objs_of (W.own _ _ hSt₂)
        have N₂ : News g (D + 1) h₂ (nw ++ (ws₂ ++ [(D, LCg.lst ys)])) := fun p hp => by
          rcases List.mem_append.mp hp with hp | hp
          · have z := N p (List.mem_append_left _ hp)
            exact ⟨hk₂ _ _ (hoff p hp).1 z.1, z.2⟩
          · rcases List.mem_append.mp hp with hp | hp
            · have hm : p.1 ∈ wr := hws₂ ▸ List.mem_map_of_mem hp
              exact ⟨hws₂e p hp, fun q => hCw (q ▸ hm), (hwr _ hm).1⟩
            · have z := N p (List.mem_append_right _ (List.mem_append_right _ hp))
              rw [List.mem_singleton.mp hp] at z ⊢
              exact ⟨hk₂ _ _ hDw z.1, z.2⟩
        have hoff₂ : ∀ p ∈ nw, ∀ q ∈ ws₂ ++ [(D, LCg.lst ys)], p.1 ≠ q.1 := fun p hp q hq => by
          rcases List.mem_append.mp hq with hq | hq
          · intro e; exact (hoff p hp).1 (e ▸ hws₂ ▸ List.mem_map_of_mem hq)
          · rw [List.mem_singleton.mp hq]; exact (hoff p hp).2
        refine wpAny_mono (step (D + 1) i v ys m nw (ws₂ ++ [(D, LCg.lst ys)]) h₂ tk₂ hlt hJ hP F₂ N₂ hoff₂) (fun _ s₂ h₂' => ?_) fun _ _ x => x
        refine wpAny_mono h₂' (fun ok s₃ h₃ => ?_) fun _ _ x => x
        have stepSt : ∀ h₄ m₄ nw₄, Fr g (D + 1) h₄ m₄ → News g (D + 1) h₄ (nw₄ ++ (ws₂ ++ [(D, LCg.lst ys)])) → St (i + 1) h₄ := fun h₄ m₄ nw₄ F₄ N₄ => W.frame _ _ _ hSt₂ fun b hb o e => by
          rcases hfp b hb with hb | ⟨o', ho'⟩
          · obtain ⟨q, hq, rfl⟩ := List.mem_map.mp (hws₂ ▸ hb : b ∈ ws₂.map (·.1))
            rw [hws₂e q hq] at e; cases e
            exact (N₄ q (List.mem_append_right _ (List.mem_append_left _ hq))).1
          · rw [F₂.keep b o' ho'] at e; cases e
            exact F₄.keep _ _ ho'
        have hoff₄ : ∀ nw₄ : List (Addr × Obj), (∀ p ∈ nw₄, ∀ q ∈ ws₂ ++ [(D, LCg.lst ys)], p.1 ≠ q.1) → ∀ p ∈ nw₄, p.1 ∉ wr ∧ p.1 ≠ D := fun nw₄ ho p hp =>
          ⟨fun hm => by
            obtain ⟨q, hq, e⟩ := List.mem_map.mp (hws₂ ▸ hm : p.1 ∈ ws₂.map (·.1))
            exact ho p hp q (List.mem_append_left _ hq) e.symm, ho p hp _ (List.mem_append_right _ (List.mem_singleton.mpr rfl))⟩
        cases ok with
        | false =>
          simp only [Bool.false_eq_true, if_false] at h₃ ⊢
          obtain ⟨h₄, tk₄, m₄, nw₄, rfl, F₄, N₄, o₄, J₄⟩ := h₃
          exact ⟨n + 1 - (i + 1), by omega, i + 1, ys, m₄, nw₄, ws₂, h₄, tk₄, rfl, hlt, rfl, Nat.le_succ_of_le hyl, stepSt _ _ _ F₄ N₄, hws₂, F₄, N₄, hoff₄ _ o₄, J₄⟩
        | true =>
          simp only [if_true] at h₃ ⊢
          refine wpAny_mono h₃ (fun y s₄ h₄ => ?_) fun _ _ x => x
          obtain ⟨h₄, tk₄, m₄, nw₄, rfl, F₄, N₄, o₄, J₄⟩ := h₄
          have zD := (N₄ (D, LCg.lst ys) (List.mem_append_right _ (List.mem_append_right _ (List.mem_singleton.mpr rfl)))).1
          have hD₀ : g.get? D = none := fresh D (Nat.le_refl _)
          refine append_at (hsz := by show ys.toArray.size ≤ sizeLine; rw [List.size_toArray]; omega) zD fun h₅ hs₅ hD₅ => ?_
          refine ⟨n + 1 - (i + 1), by omega, i + 1, ys ++ [y], m₄, nw₄, ws₂, h₅, tk₄, rfl, hlt, rfl, by rw [List.length_append, List.length_singleton]; omega, ?_, hws₂, F₄.change hs₅ (Nat.ne_of_lt (Nat.lt_succ_self D)) hD₀, fun p hp => ?_, hoff₄ _ o₄, J₄⟩
          · refine W.frame _ _ _ (stepSt _ _ _ F₄ N₄) fun b hb o e => hs₅.extBut b o (fun q => ?_) e
            rcases hfp b hb with hb | ⟨o', ho'⟩
            · exact hDw (q ▸ hb)
            · rw [q, hD₀] at ho'; cases ho'
          · rcases List.mem_append.mp hp with hp | hp
            · exact ⟨hs₅.extBut _ _ (hoff₄ _ o₄ p hp).2 (N₄ p (List.mem_append_left _ hp)).1, (N₄ p (List.mem_append_left _ hp)).2⟩
            · rcases List.mem_append.mp hp with hp | hp
              · have z := N₄ p (List.mem_append_right _ (List.mem_append_left _ hp))
                exact ⟨hs₅.extBut _ _ (fun q => hDw (q ▸ hws₂ ▸ List.mem_map_of_mem hp)) z.1, z.2⟩
              · rw [List.mem_singleton.mp hp]
                exact ⟨hD₅.trans (congrArg some (LCg.lst_snoc ys y)), by show D ≠ D + 1; omega, hD₀⟩
      · obtain rfl : i = n := Nat.le_antisymm hi (Nat.not_lt.mp hlt)
        refine W.done _ _ _ hSt fun h₂ tk₂ hk₂ => ?_
        dsimp only at hk₂
        refine hRR D (D + 1) ys m nw h₂ tk₂ hJ ?_ (fun p hp => ?_) (fun p hp => (hoff p hp).2) (Nat.succ_ne_self D) (Nat.le_succ D) (Nat.le_refl _)
        · obtain ⟨oL, es, ep, hL, hLd, hLk, hLf⟩ := F.ns
          exact ⟨⟨oL, es, ep, hk₂ _ _ hCw hL, hLd, hLk, hLf⟩, fun b o e => hk₂ b o (fun hb => by rw [(hwr b hb).1] at e; cases e) (F.keep b o e), F.above⟩
        · rcases List.mem_append.mp hp with hp | hp
          · have z := N p (List.mem_append_left _ hp)
            exact ⟨hk₂ _ _ (hoff p hp).1 z.1, z.2⟩
          · have z := N p (List.mem_append_right _ (List.mem_append_right _ hp))
            rw [List.mem_singleton.mp hp] at z ⊢
            exact ⟨hk₂ _ _ hDw z.1, z.2⟩
    · obtain ⟨ws, hws, hwse⟩ := objs_of (W.own _ _ hst₁)
      refine ⟨0, [], _, cells, ws, h₁, _, rfl, Nat.zero_le _, rfl, Nat.le_refl _, hst₁, hws, ⟨hns₁, hg₁, by omega⟩, fun p hp => ?_, fun p hp => ?_, h0 _ _ (by omega) hcl⟩
      · rcases List.mem_append.mp hp with hp | hp
        · exact N₁ p hp
        · rcases List.mem_append.mp hp with hp | hp
          · have hm : p.1 ∈ wr := hws ▸ List.mem_map_of_mem hp
            exact ⟨hwse p hp, fun q => hCw (q ▸ hm), (hwr _ hm).1⟩
          · rw [List.mem_singleton.mp hp]
            exact ⟨hDo, by show D ≠ D + 1; omega, fresh D (Nat.le_refl _)⟩
      · have hlt := Nat.lt_trans (Nat.lt_succ_self D) (hcD p hp)
        exact ⟨fun hm => Nat.lt_irrefl _ (Nat.lt_trans (hwr _ hm).2 hlt), Nat.ne_of_gt hlt⟩
  exact codeAny_compStart_list loop (W.self 0 _ _ _ hst₁ loop)
end

section
variable {prog : Program} {w : World} {A : Around} {E : Value → Shared → Prop} {s : Shared}
theorem Wk.list (hh : A.handled = none) (target : Expr) (I ax : Addr) (hne : ax ≠ I) (items : Array Value) :
    Wk prog w A target I [I, ax] [I] items.size (fun i v _ => items[i]? = some v) (fun i h => h.IsListIter I ax i ∧ h.IsList ax items) :=
  let W := Walks.list (prog := prog) (w := w) hh I ax hne items
  { frame := W.frame, done := W.done, self := W.self
    own := fun i h st b hb => by rw [List.mem_singleton.mp hb]; obtain ⟨o, e, _⟩ := st.1; exact ⟨o, e⟩
    item := fun i s Q Z E hi st hQ => W.item i s _ E hi st fun v h' tk hP hst hk => letOwned_list hst.1 (hQ v h' tk hP hst hk) }
theorem Wk.name {x : Str} {px : Pos} {I : Addr} {fp wr : List Addr} {n : Nat} {P : Nat → Value → Prop} {St : Nat → Heap → Prop} (W : Walks prog w A I fp wr n P St) (own : ∀ i h, St i h → ∀ b ∈ wr, ∃ o, h.get? b = some o) :
    Wk prog w A (.Name x px) I fp wr n (fun i v _ => P i v) St :=
  { frame := W.frame, done := W.done, self := W.self, own := own
    item := fun i s Q Z E hi st hQ => W.item i s _ E hi st fun v h' tk hP hst hk => wpAny_of_eq (rfl : letOwnedTupleGo (.Name x px) (.ref I) v = pure ()) (hQ v h' tk hP hst hk) }
/-- the block's turn -/
noncomputable abbrev CStep (prog : Program) (w : World) (A : Around) (env : Env) (elt target : Expr) (ifs : List Expr) (scope : Scope) (cl : List (Str × Addr)) (s₁ : Shared) (g : Heap) (n : Nat) (P : Nat → Value → Heap → Prop)
    (J : Addr → Nat → List Value → (Str → Option Value) → List (Addr × Obj) → Prop) : Prop :=
  ∀ C i v ys m nw rest h tk, i < n → J C i ys m nw → P i v h → Fr g C h m → News g C h (nw ++ rest) → (∀ p ∈ nw, ∀ q ∈ rest, p.1 ≠ q.1) →
      wpAny (model prog w) A (assign target (compEnvC scope (cellsFrom (C + 1) scope.names cl) C env) v) (fun _ s₃ =>
        wpAny (model prog w) A (testsOf ifs (compEnvC scope (cellsFrom (C + 1) scope.names cl) C env)) (fun ok s₄ =>
          if ok = true then wpAny (model prog w) A (eval elt (compEnvC scope (cellsFrom (C + 1) scope.names cl) C env)) (fun y => CEnd g C s₁ rest (J C (i + 1) (ys ++ [y]))) (fun _ _ => False) s₄
          else CEnd g C s₁ rest (J C (i + 1) ys) s₄) (fun _ _ => False) s₃) (fun _ _ => False) { s₁ with heap := h, toks := tk }
noncomputable abbrev CStart (scope : Scope) (g : Heap) (J : Addr → Nat → List Value → (Str → Option Value) → List (Addr × Obj) → Prop) : Prop :=
  ∀ C cells, g.objs.size ≤ C → CellsAre (fun _ => none) (cellsFrom (C + 1) scope.names []) cells → J C 0 [] (fun _ => none) cells
noncomputable abbrev CDone (g : Heap) (n : Nat) (J : Addr → Nat → List Value → (Str → Option Value) → List (Addr × Obj) → Prop) (Fin : Addr → Addr → Shared → Prop) (s₁ : Shared) : Prop :=
  ∀ D C ys m nw h tk, J C n ys m nw → Fr g C h m → News g C h (nw ++ [(D, LCg.lst ys)]) → (∀ p ∈ nw, p.1 ≠ D) → C ≠ D → g.objs.size ≤ D → Fin D C { s₁ with heap := h, toks := tk }

/-- a list comprehension whose source has been told: from here the block's turns -/
noncomputable def CompX (prog : Program) (w : World) (A : Around) (env : Env) (elt target : Expr) (ifs : List Expr) (scope : Scope) (cl : List (Str × Addr)) (Fin : Addr → Addr → Shared → Prop) (xv : Value) (s₁ : Shared) : Prop :=
  wpAny (model prog w) A (pyIter xv) (fun it s₂ => ∃ (I : Addr) (fp wr : List Addr) (n : Nat) (P : Nat → Value → Heap → Prop) (St : Nat → Heap → Prop) (g : Heap) (J : Addr → Nat → List Value → (Str → Option Value) → List (Addr × Obj) → Prop),
    it = .ref I ∧ Wk prog w A target I fp wr n P St ∧ n ≤ sizeLine ∧ St 0 s₂.heap ∧ g.StaysIn s₂.heap ∧ g.objs.size ≤ s₂.heap.objs.size ∧ (∀ b ∈ wr, g.get? b = none ∧ b < s₂.heap.objs.size) ∧ (∀ b ∈ fp, b ∈ wr ∨ ∃ o, g.get? b = some o) ∧
    CStart scope g J ∧ CStep prog w A env elt target ifs scope cl s₁ g n P J ∧ (∃ h₂ tk₂, s₂ = { s₁ with heap := h₂, toks := tk₂ }) ∧ CDone g n J Fin s₁) (fun _ _ => False) s₁

noncomputable def FinL (Q : Value → Shared → Prop) (D C : Addr) (s' : Shared) : Prop := (∃ m, s'.heap.Ns C m) ∧ ∀ h'', Heap.SameBut C s'.heap h'' → Q (.ref D) { s' with heap := h'' }
noncomputable def FinS (prog : Program) (w : World) (A : Around) (env : Env) (y : Str) (py : Pos) (Q : Flow → Shared → Prop) (D C : Addr) (s' : Shared) : Prop :=
  wpAny (model prog w) A (assign (.Name y py) env (.ref D)) (fun _ s'' => ∃ m, s''.heap.Ns C m ∧ ∀ h', Heap.SameBut C s''.heap h' → Q .next { s'' with heap := h' }) (fun _ _ => False) s'

theorem listComp {elt target iter : Expr} {ifs : List Expr} {scope : Scope} {cl : List (Str × Addr)} {pos : Pos} {env : Env} {Q : Value → Shared → Prop}
    (hclos : closureFor scope env = pure cl) (hkind : scope.kind = .function) (hnames : ∀ y ∈ scope.names, y.2 = .local → scope.names.lookup y.1 = some .local)
    (h : wpAny (model prog w) A (eval iter env) (CompX prog w A env elt target ifs scope cl (FinL Q)) (fun _ _ => False) s)
    (hs : ∀ x, foldedSetIterable iter env x = pure x := by intro _; rfl) :
    wpAny (model prog w) A (eval (.ListComp elt [⟨target, iter, ifs, 0⟩] scope pos) env) Q (fun _ _ => False) s := by
  rw [eval_ListComp]
  refine wpAny_comprehension_free (use := none) rfl hs hclos hkind hnames (wpAny_mono h (fun xv s₁ h₁ => wpAny_mono h₁ (fun it s₂ h₂ => ?_) fun _ _ e => e) fun _ _ e => e)
  obtain ⟨I, fp, wr, n, P, St, g, J, rfl, W, hsz, hst, hg, hgs, hwr, hfp, h0, step, ⟨h₂, tk₂, rfl⟩, fin⟩ := h₂
  refine comp_block W hsz hst hg hgs hwr hfp hkind J h0 step ?_
  intro D C ys m nw h tk hJ F N hoff hCD hC hD
  obtain ⟨⟨m', hn⟩, h'⟩ := fin D C ys m nw h tk hJ F N hoff hCD (Nat.le_trans hgs hD)
  exact ⟨m', hn, h'⟩
theorem listAssign {elt target iter : Expr} {ifs : List Expr} {scope : Scope} {cl : List (Str × Addr)} {y : Str} {py pos spos : Pos} {env : Env} {Q : Flow → Shared → Prop}
    (hsw : swapsWith (.ListComp elt [⟨target, iter, ifs, 0⟩] scope pos) (some (.Name y py)) spos.line env = pure true)
    (hclos : closureFor scope env = pure cl) (hkind : scope.kind = .function) (hnames : ∀ y ∈ scope.names, y.2 = .local → scope.names.lookup y.1 = some .local)
    (h : wpAny (model prog w) A (eval iter env) (CompX prog w A env elt target ifs scope cl (FinS prog w A env y py Q)) (fun _ _ => False) s)
    (hs : ∀ x, foldedSetIterable iter env x = pure x := by intro _; rfl) :
    wpAny (model prog w) A (exec (.Assign [.Name y py] (.ListComp elt [⟨target, iter, ifs, 0⟩] scope pos) spos) env) Q (fun _ _ => False) s := by
  rw [exec_Assign_Name_used _ _ _ _ hsw]
  refine wpAny_bind (wpAny_standAt (wpAny_bind ?_))
  show wpAny _ A (do let _ ← comprehension (.ListComp elt [⟨target, iter, ifs, 0⟩] scope pos) scope env _ (newList []) false (eval iter env) (some (assign (.Name y py) env))) _ _ s
  refine wpAny_bind (wpAny_mono (wpAny_comprehension_free (use := some (assign (.Name y py) env)) (Q := fun _ s' => Q .next s') rfl hs hclos hkind hnames
    (wpAny_mono h (fun xv s₁ h₁ => wpAny_mono h₁ (fun it s₂ h₂ => ?_) fun _ _ e => e) fun _ _ e => e)) (fun _ s' hq => wpAny_pure (wpAny_pure hq)) fun _ _ e => e)
  obtain ⟨I, fp, wr, n, P, St, g, J, rfl, W, hsz, hst, hg, hgs, hwr, hfp, h0, step, ⟨h₂, tk₂, rfl⟩, fin⟩ := h₂
  refine comp_block W hsz hst hg hgs hwr hfp hkind J h0 step ?_
  intro D C ys m nw h tk hJ F N hoff hCD hC hD
  exact fin D C ys m nw h tk hJ F N hoff hCD (Nat.le_trans hgs hD)

variable {elt target iter : Expr} {ifs : List Expr} {scope : Scope} {cl : List (Str × Addr)} {env : Env} {s₁ : Shared}
theorem CompX.list {Fin : Addr → Addr → Shared → Prop} {ax : Addr} {items : Array Value} (hl : s₁.heap.IsList ax items) (hsz : items.size ≤ sizeLine) (J : Addr → Nat → List Value → (Str → Option Value) → List (Addr × Obj) → Prop)
    (h0 : CStart scope s₁.heap J) (step : CStep prog w A env elt target ifs scope cl s₁ s₁.heap items.size (fun i v _ => items[i]? = some v) J) (fin : CDone s₁.heap items.size J Fin s₁)
    (hh : A.handled = none := by rfl) : CompX prog w A env elt target ifs scope cl Fin (.ref ax) s₁ := by
  have hlt : ax < s₁.heap.objs.size := by obtain ⟨_, e, _⟩ := hl; exact Heap.lt_size e
  refine wpAny_pyIter_list hl ?_
  have up : ∀ b o, s₁.heap.get? b = some o → (s₁.heap.push { cls := .type "list_iterator", data := .fields #[.ref ax, .int 0 0] }).get? b = some o := fun b o e => Heap.get?_push_of_some _ e
  refine ⟨_, _, _, _, _, _, s₁.heap, J, rfl, Wk.list hh target s₁.heap.objs.size ax (Nat.ne_of_lt hlt) items, hsz, ⟨⟨_, Heap.get?_push_size _ rfl, rfl, rfl⟩, hl.push _⟩, up, by rw [Heap.size_push]; exact Nat.le_succ _, fun b hb => ?_, fun b hb => ?_, h0, step, ⟨_, _, rfl⟩, fin⟩
  · rw [List.mem_singleton.mp hb]
    exact ⟨Heap.get?_none_of_le (Nat.le_refl _), by rw [Heap.size_push]; exact Nat.lt_succ_self _⟩
  · rcases List.mem_cons.mp hb with rfl | hb
    · exact .inl (.head _)
    · rw [List.mem_singleton.mp hb]
      obtain ⟨o, e, _⟩ := hl
      exact .inr ⟨o, e⟩
theorem CompX.range {Fin : Addr → Addr → Shared → Prop} {x : Str} {px : Pos} {r : Addr} {a b : Int} {t u v : Tok} {n : Nat} (hr : IsRange s₁.heap r a b 1 t u v) (hsm : Builtin.Range.small a b 1 = true) (hn : Builtin.Range.rangeSize a b 1 = ((n : Nat) : Int)) (hsz : n ≤ sizeLine)
    (J : Addr → Nat → List Value → (Str → Option Value) → List (Addr × Obj) → Prop)
    (h0 : CStart scope s₁.heap J) (step : CStep prog w A env elt (.Name x px) ifs scope cl s₁ s₁.heap n (fun i v _ => ∃ t, v = .int (a + (i : Int)) t) J) (fin : CDone s₁.heap n J Fin s₁)
    (hh : A.handled = none := by rfl) : CompX prog w A env elt (.Name x px) ifs scope cl Fin (.ref r) s₁ := by
  refine wpAny_pyIter_range hr hsm ?_
  refine ⟨_, _, _, _, _, _, s₁.heap, J, rfl, Wk.name (LCg.range_walks hh a n) (fun i h st b hb => by obtain rfl := List.mem_singleton.mp hb; exact ⟨_, st⟩), hsz, ?_, fun b o e => Heap.get?_push_of_some _ e, by rw [Heap.size_push]; exact Nat.le_succ _, fun b hb => ?_, fun b hb => .inl hb, h0, step, ⟨_, _, rfl⟩, fin⟩
  · show IsRangeIter _ _ _ _ _
    rw [hn]; simpa using Heap.get?_push_size _ rfl
  · rw [List.mem_singleton.mp hb]
    exact ⟨Heap.get?_none_of_le (Nat.le_refl _), by rw [Heap.size_push]; exact Nat.lt_succ_self _⟩

theorem none_of {h₀ h : Heap} {L a : Addr} {m : Str → Option Value} (F : Fr h₀ L h m) (ha : h.get? a = none) : h₀.get? a = none ∧ a ≠ L := by
  constructor
  · cases e : h₀.get? a with
    | none => rfl
    | some o => rw [F.keep _ _ e] at ha; cases ha
  · intro q
    obtain ⟨oL, es, ep, hL, _⟩ := F.ns
    rw [q, hL] at ha; cases ha
-- the ends, as the frame around sees them
theorem doneL {n : Nat} {J : Addr → Nat → List Value → (Str → Option Value) → List (Addr × Obj) → Prop} {Q : Value → Shared → Prop} {h₀ : Heap} {L : Addr} {m₀ : Str → Option Value} {news : List (Addr × Obj)} (F₀ : Fr h₀ L s₁.heap m₀) (N₀ : News h₀ L s₁.heap news)
    (fin : ∀ D C ys m nw h tk, J C n ys m nw → Fr h₀ L h m₀ → News h₀ L h ((D, LCg.lst ys) :: (nw ++ news)) → s₁.heap.StaysIn h → Q (.ref D) { s₁ with heap := h, toks := tk }) : CDone s₁.heap n J (FinL Q) s₁ := by
  intro D C ys m nw h tk hJ F N hoff hCD hDg
  refine ⟨⟨m, F.ns⟩, fun h'' hs'' => ?_⟩
  have hk : s₁.heap.StaysIn h'' := fun b o e => hs''.extBut b o (fun q => by rw [q] at e; exact Nat.lt_irrefl _ (Nat.lt_of_lt_of_le (Heap.lt_size e) F.above)) (F.keep b o e)
  have h0 : ∀ a, s₁.heap.get? a = none → h₀.get? a = none ∧ a ≠ L := fun a ha => none_of F₀ ha
  refine fin D C ys m nw h'' tk hJ (F₀.keeps hk) (fun p hp => ?_) hk
  rcases List.mem_cons.mp hp with rfl | hp
  · have z := N (D, _) (List.mem_append_right _ (List.mem_singleton.mpr rfl))
    exact ⟨hs''.extBut _ _ (Ne.symm hCD) z.1, (h0 _ z.2.2).2, (h0 _ z.2.2).1⟩
  · rcases List.mem_append.mp hp with hp | hp
    · have z := N p (List.mem_append_left _ hp)
      exact ⟨hs''.extBut _ _ z.2.1 z.1, (h0 _ z.2.2).2, (h0 _ z.2.2).1⟩
    · exact ⟨hk _ _ (N₀ p hp).1, (N₀ p hp).2⟩
end

section
variable {M : Model} {A : Around} {E : Value → Shared → Prop} {s : Shared} {g : Heap} {C c : Addr} {m : Str → Option Value} {scope : Scope} {cl : List (Str × Addr)} {env : Env} {x : Str} {pos : Pos} {v : Value} {o : Obj} {Q : Value → Shared → Prop} {news : List (Addr × Obj)}
-- the names of a block
theorem cmp_own (F : Fr g C s.heap m) (hv : m x = some v) (h : Q v s)
    (hk : (compEnvC scope cl C env).scope.kind = .function) (hl : (compEnvC scope cl C env).kindOf x = some .local) (hd : (x == ("__debug__" : Str)) = false := by decide) :
    wpAny M A (eval (.Name x pos) (compEnvC scope cl C env)) Q E s := ldVarK F.ns hv h hk hl hd
theorem cmp_cell (F : Fr g C s.heap m) (hc : cl.lookup x = some c) (hg : g.get? c = some o) (hd : o.data = .cell (some v)) (h : Q v s)
    (hk : (compEnvC scope cl C env).scope.kind = .function) (hx : (compEnvC scope cl C env).kindOf x = some .cell) (hb : (x == ("__debug__" : Str)) = false := by decide) :
    wpAny M A (eval (.Name x pos) (compEnvC scope cl C env)) Q E s := wpAny_Name (wpAny_loadName_cell hk hx hc ⟨o, F.keep _ _ hg, hd⟩ h) hb
-- the target of a block
theorem cmp_store {Q : Unit → Shared → Prop} (F : Fr g C s.heap m) (h : ∀ h', Fr g C h' (fun z => if z = x then some v else m z) → (∀ b o, b ≠ C → s.heap.get? b = some o → h'.get? b = some o) → Q () { s with heap := h', toks := s.toks + 1 })
    (hk : (compEnvC scope cl C env).scope.kind = .function) (hl : (compEnvC scope cl C env).kindOf x = some .local) :
    wpAny M A (assign (.Name x pos) (compEnvC scope cl C env) v) Q E s := by
  refine wpAny_assign_Name (wpAny_storeName_local hl F.ns (fun h' hn hs => h h' (F.set hn hs) fun b o hb e => hs.extBut b o hb e) ?_)
  show (((compEnvC scope cl C env).scope.kind == .class) || _) = false
  rw [hk]; rfl
theorem news_but {g h h' : Heap} {C : Addr} {news : List (Addr × Obj)} (N : News g C h news) (hk : ∀ b o, b ≠ C → h.get? b = some o → h'.get? b = some o) : News g C h' news := fun p hp => ⟨hk _ _ (N p hp).2.1 (N p hp).1, (N p hp).2⟩
end
theorem IntsAre.snoc {vs : List Value} {ns : List Int} (h : IntsAre vs ns) (n : Int) (t : Tok) : IntsAre (vs ++ [.int n t]) (ns ++ [n]) := by
  induction h with
  | nil => exact .cons _ _ .nil
  | cons a b r ih => exact .cons _ _ ih
theorem StrsAre.snoc {vs : List Value} {ns : List Str} (h : StrsAre vs ns) (n : Str) (t : Tok) : StrsAre (vs ++ [.str n t]) (ns ++ [n]) := by
  induction h with
  | nil => exact .cons _ _ .nil
  | cons a b r ih => exact .cons _ _ ih
theorem strs_get {vs : List Value} {xs : List (List Nat)} (h : StrsAre vs (xs.map sl)) {i : Nat} {v : Value} (e : vs[i]? = some v) : ∃ (hi : i < xs.length) (t : Tok), v = .str (sl xs[i]) t := by
  induction xs generalizing vs i with
  | nil => cases h; cases e
  | cons y r ih =>
    cases h with
    | cons _ t h =>
      cases i with
      | zero => injection e with e; exact ⟨Nat.zero_lt_succ _, t, e.symm⟩
      | succ i => obtain ⟨hi, t, e'⟩ := ih h e; exact ⟨Nat.succ_lt_succ hi, t, e'⟩
theorem strs_len {vs : List Value} {xs : List (List Nat)} (h : StrsAre vs (xs.map sl)) : vs.length = xs.length := by rw [h.length, List.length_map]
theorem isum_map {α : Type} (f : α → Nat) : ∀ l : List α, (l.map fun y => ((f y : Nat) : Int)).sum = (((l.map f).sum : Nat) : Int)
  | [] => rfl
  | y :: r => by simp only [List.map_cons, List.sum_cons]; rw [isum_map f r]; omega

-- the table of headers
/-- the pairs that a row of tuples holds -/
inductive PrsAre (h : Heap) : List Value → List (List Nat × List Nat) → Prop
  | nil : PrsAre h [] []
  | cons {T : Addr} {tk tv : Tok} {p : List Nat × List Nat} {vs : List Value} {ps : List (List Nat × List Nat)} : h.IsTuple T #[.str (sl p.1) tk, .str (sl p.2) tv] → PrsAre h vs ps → PrsAre h (.ref T :: vs) (p :: ps)
theorem PrsAre.length {h : Heap} {vs : List Value} {ps : List (List Nat × List Nat)} (x : PrsAre h vs ps) : vs.length = ps.length := by
  induction x with
  | nil => rfl
  | cons _ _ ih => simp [ih]
theorem PrsAre.keeps {h h' : Heap} {vs : List Value} {ps : List (List Nat × List Nat)} (x : PrsAre h vs ps) (k : ∀ b o, h.get? b = some o → h'.get? b = some o) : PrsAre h' vs ps := by
  induction x with
  | nil => exact .nil
  | cons a _ ih => exact .cons (a.at fun o e => k _ _ e) ih
theorem PrsAre.get {h : Heap} {vs : List Value} {ps : List (List Nat × List Nat)} (x : PrsAre h vs ps) {i : Nat} {v : Value} (e : vs[i]? = some v) : ∃ (hi : i < ps.length) (T : Addr) (tk tv : Tok), v = .ref T ∧ h.IsTuple T #[.str (sl ps[i].1) tk, .str (sl ps[i].2) tv] := by
  induction x generalizing i with
  | nil => cases e
  | @cons T tk tv p vs ps a r ih =>
    cases i with
    | zero => injection e with e; exact ⟨Nat.zero_lt_succ _, T, tk, tv, e.symm, a⟩
    | succ i => obtain ⟨hi, r⟩ := ih e; exact ⟨Nat.succ_lt_succ hi, r⟩
/-- the table: the object, its dict, its row, the row's pairs -/
noncomputable def TabG (H : Addr) (h : Heap) (I dI l : Addr) (vs : List Value) (prs : List (List Nat × List Nat)) : Prop :=
  ∃ hsh t n₁, h.get? I = some (instObj H dI) ∧ h.get? dI = some (PySem.W.dictOf [⟨hsh, .str (Str.ofString "_headers") t, .ref l⟩] n₁) ∧ h.IsList l vs.toArray ∧ PrsAre h vs prs
theorem inst_of {g h : Heap} {L I dI C : Addr} {m : Str → Option Value} {es : List DictEntry} {n : Nat} (F : Fr g L h m) (hI : g.get? I = some (instObj C dI)) (hd : g.get? dI = some (PySem.W.dictOf es n)) : InstAt h I (instObj C dI) C (some (PySem.W.dictOf es n)) :=
  ⟨F.keep _ _ hI, rfl, rfl, F.keep _ _ hd⟩
theorem lower_sl {x : List Nat} (h : ∀ c ∈ x, c < 128) : Txt.lower (sl x) = sl (x.map lowc) := by
  rw [lower_ascii (by intro d hd; exact h d (by simpa [sl] using hd))]
  show (⟨_⟩ : Str) = ⟨_⟩
  congr 1
  apply Array.toList_inj.mp
  simp only [sl, Array.toList_map]
  refine List.map_congr_left fun c _ => ?_
  simp [lo1, lowc]
noncomputable def upc (c : Nat) : Nat := if 97 ≤ c ∧ c ≤ 122 then c - 32 else c
theorem upper_sl {x : List Nat} (h : ∀ c ∈ x, c < 128) : Txt.upper (sl x) = sl (x.map upc) := by
  rw [upper_ascii (by intro d hd; exact h d (by simpa [sl] using hd))]
  show (⟨_⟩ : Str) = ⟨_⟩
  congr 1
  apply Array.toList_inj.mp
  simp only [sl, Array.toList_map]
  refine List.map_congr_left fun c _ => ?_
  simp [up1, upc]
section
variable {prog : Program} {w : World} {A : Around} {E : Value → Shared → Prop} {s : Shared} {x : List Nat} {t : Tok} {Q : Value → Shared → Prop}
theorem call_lower (h : ∀ c ∈ x, c < 128) (hx : x.length ≤ 200) (hQ : ∀ t' k, Q (.str (sl (x.map lowc)) t') { s with toks := k }) : wpAny (model prog w) A (call (.builtin "str.lower") [.str (sl x) t]) Q E s :=
  SC.lower (by rw [lower_sl h]; exact decide_eq_false (by rw [sizeLine_eq, sl_length, List.length_map]; omega)) (by rw [lower_sl h]; exact hQ _ _)
end
theorem lowc_ok {x : List Nat} (h : ∀ c ∈ x, 32 ≤ c ∧ c < 127) : ∀ c ∈ x.map lowc, 32 ≤ c ∧ c < 127 := by
  intro c hc
  obtain ⟨d, hd, rfl⟩ := List.mem_map.mp hc
  have := h d hd
  unfold lowc; split <;> omega
theorem filt_yes {α : Type} (p : α → Bool) (l : List α) {i : Nat} (hi : i < l.length) (h : p l[i] = true) : (l.take (i + 1)).filter p = (l.take i).filter p ++ [l[i]] := by
  rw [List.take_add_one, List.getElem?_eq_getElem hi, Option.toList_some, List.filter_append]
  simp [h]
theorem filt_no {α : Type} (p : α → Bool) (l : List α) {i : Nat} (hi : i < l.length) (h : p l[i] = false) : (l.take (i + 1)).filter p = (l.take i).filter p := by
  rw [List.take_add_one, List.getElem?_eq_getElem hi, Option.toList_some, List.filter_append]
  simp [h]
theorem map_step {α β : Type} (f : α → β) (l : List α) {i : Nat} (hi : i < l.length) : (l.take (i + 1)).map f = (l.take i).map f ++ [f l[i]] := by
  rw [List.take_add_one, List.getElem?_eq_getElem hi, Option.toList_some, List.map_append]; rfl

-- a loop over the items of a dict that holds none
section
variable {prog : Program} {w : World} {A : Around} {E : Value → Shared → Prop} {s : Shared} {D : Addr} {n : Nat}
theorem dict0_at {h : Heap} (e : h.get? D = some (PySem.W.dictOf [] n)) : h.DictAt (strKind prog w) D [] n := ⟨_, #[], e, ⟨rfl, rfl, rfl⟩, rfl, fun e he => by simp at he, .nil, List.nodup_nil⟩
theorem dict0_of {h : Heap} (e : h.get? D = some (PySem.W.dictOf [] n)) : h.DictOf (strKind prog w) D [] := ⟨_, #[], _, e, ⟨rfl, rfl, rfl⟩, rfl, fun e he => by simp at he, .nil, List.nodup_nil⟩
theorem items0_method {pl : Sem Bool} {Q : Value × List Value → Shared → Prop} (e : s.heap.get? D = some (PySem.W.dictOf [] n)) (h : Q (.builtin "dict.items", [.ref D]) s) :
    wpAny (model prog w) A (getMethod (.ref D) (Str.ofString "items") pl) Q E s :=
  getMethod_builtin ⟨_, e, rfl⟩ PySem.F.plainAttrs_dict PySem.F.slot_dict_items PySem.F.type_dict_items (fun a e' => by cases e'; exact ⟨_, e, rfl⟩) h
theorem for0 {target : Expr} {body : List Stmt} {env : Env} {R : Result → Shared → Prop} {v : Addr} {h₀ : Heap} {L : Addr} {m : Str → Option Value} {news : List (Addr × Obj)} (F : Fr h₀ L s.heap m) (N : News h₀ L s.heap news) (hh : A.handled = none)
    (e : s.heap.get? D = some (PySem.W.dictOf [] n)) (hv : s.heap.IsItemsView v D) (hR : ∀ h', Fr h₀ L h' m → News h₀ L h' news → R (.ok .next) { s with heap := h' }) :
    wpAny (model prog w) A (pyIter (.ref v)) (fun it s₂ => codeAny (model prog w) A (.forLoop target it body [] env) R s₂) E s := by
  refine wpAny_pyIter_items (knd := strKind prog w) hv (dict0_at e) ?_
  have F2 := F.push { cls := .type "dict_itemiterator", data := .fields #[.none, .bool false, .ref D, .int 0 0, .int ([] : List (Str × Value)).length 0, .int n 0, .none, .none] }
  have N2 := N.push F { cls := .type "dict_itemiterator", data := .fields #[.none, .bool false, .ref D, .int 0 0, .int ([] : List (Str × Value)).length 0, .int n 0, .none, .none] }
  have hI := (N2 _ (.head _)).1
  refine codeAny_forLoop_any (fun _ s' => s' = { s with heap := s.heap.push { cls := .type "dict_itemiterator", data := .fields #[.none, .bool false, .ref D, .int 0 0, .int ([] : List (Str × Value)).length 0, .int n 0, .none, .none] } }) ?_ 0 rfl
  rintro _ s' rfl
  refine wpAny_pyNext_items_end (knd := strKind prog w) (kvs := []) hh hI (dict0_at (Heap.get?_push_of_some _ e)) rfl fun h' he => ?_
  have hne : ∀ p ∈ news, p.1 ≠ s.heap.objs.size := fun p hp => Nat.ne_of_lt (Heap.lt_size (N p hp).1)
  refine wpAny_execs_nil (hR h' ?_ fun p hp => ⟨he _ _ (hne p hp) (N2 p (.tail _ hp)).1, (N p hp).2⟩)
  obtain ⟨oL, es, ep, hL, hLd, hLk, hLf⟩ := F2.ns
  exact ⟨⟨oL, es, ep, he _ _ (Nat.ne_of_lt F.ns.lt) hL, hLd, hLk, hLf⟩, fun b o eb => he b o (fun q => by rw [q] at eb; exact Nat.lt_irrefl _ (Heap.lt_size (F.keep _ _ eb))) (F2.keep b o eb), F2.above⟩
theorem items0_call {Q : Value → Shared → Prop} {h₀ : Heap} {L : Addr} {m : Str → Option Value} {news : List (Addr × Obj)} (F : Fr h₀ L s.heap m) (N : News h₀ L s.heap news) (e : s.heap.get? D = some (PySem.W.dictOf [] n)) (lo : (D == sysModules) = false)
    (h : ∀ v h', Fr h₀ L h' m → News h₀ L h' news → h'.get? D = some (PySem.W.dictOf [] n) → h'.IsItemsView v D → Q (.ref v) { s with heap := h' }) : wpAny (model prog w) A (call (.builtin "dict.items") [.ref D]) Q E s :=
  call_meetsIn PySem.F.slot_dict_items ⟨_, e, rfl⟩ PySem.F.entry_dict_items (PySem.F.args_dict_items_1 _) (meets_dict_items (strKind prog w) D lo)
    ⟨⟨[], dict0_of e⟩, h _ _ (F.push _) (fun p hp => ⟨Heap.get?_push_of_some _ (N p hp).1, (N p hp).2⟩) (Heap.get?_push_of_some _ e) ⟨_, Heap.get?_push_size _ rfl, rfl, rfl⟩⟩
end
theorem join_sls : ∀ xs : List (List Nat), Str.join (Str.ofString "") (xs.map sl) = sl xs.flatten
  | [] => rfl
  | [x] => by simp [Str.join]
  | x :: y :: r => by
    have ih := join_sls (y :: r)
    show sl x ++ Str.ofString "" ++ Str.join (Str.ofString "") ((y :: r).map sl) = _
    rw [ih, show Str.ofString "" = sl [] from rfl, sl_append, sl_append, List.append_nil]; rfl
theorem flat_ones : ∀ xs : List Nat, (xs.map fun c => [c]).flatten = xs
  | [] => rfl
  | x :: r => by rw [List.map_cons, List.flatten_cons, flat_ones r]; rfl
theorem join_ones (xs : List Nat) : Str.join (Str.ofString "") (xs.map fun c => sl [c]) = sl xs := by
  have h := join_sls (xs.map fun c => [c])
  rw [List.map_map, flat_ones] at h
  exact h
theorem tjoin_ones (xs : List Nat) : Txt.join (Str.ofString "") (xs.map fun c => sl [c]) = sl xs := by
  exact (StrLaws.glued_eq_join _ _).trans (join_ones _)
theorem len_ones : ∀ xs : List Nat, ((xs.map fun c => sl [c]).map (·.length)).sum = xs.length
  | [] => rfl
  | x :: r => by
    have ih := len_ones r
    simp only [List.map_cons, List.sum_cons, sl_length, List.length_cons, List.length_nil] at ih ⊢
    omega

end
noncomputable section
-- the columns: rows of one-letter texts
inductive ColsAre : List (Addr × Obj) → List (List Nat) → Prop
  | nil : ColsAre [] []
  | cons {a : Addr} {n : Nat} {vs : List Value} {t : List Nat} {cs : List (Addr × Obj)} {ts : List (List Nat)} : StrsAre vs (t.map fun c => sl [c]) → ColsAre cs ts → ColsAre ((a, listOf vs.toArray n) :: cs) (t :: ts)
theorem ColsAre.length {cs : List (Addr × Obj)} {ts : List (List Nat)} (h : ColsAre cs ts) : cs.length = ts.length := by
  induction h with
  | nil => rfl
  | cons _ _ ih => simp [ih]
theorem ColsAre.snoc {cs : List (Addr × Obj)} {ts : List (List Nat)} (h : ColsAre cs ts) {a : Addr} {n : Nat} {vs : List Value} {t : List Nat} (hv : StrsAre vs (t.map fun c => sl [c])) : ColsAre (cs ++ [(a, listOf vs.toArray n)]) (ts ++ [t]) := by
  induction h with
  | nil => exact .cons hv .nil
  | cons x _ ih => exact .cons x ih
theorem ColsAre.get {cs : List (Addr × Obj)} {ts : List (List Nat)} (h : ColsAre cs ts) {i : Nat} {p : Addr × Obj} (e : cs[i]? = some p) : ∃ (hi : i < ts.length) (n : Nat) (vs : List Value), p.2 = listOf vs.toArray n ∧ StrsAre vs (ts[i].map fun c => sl [c]) := by
  induction h generalizing i with
  | nil => cases e
  | @cons a n vs t cs ts x _ ih =>
    cases i with
    | zero => injection e with e; subst e; exact ⟨Nat.zero_lt_succ _, n, vs, rfl, x⟩
    | succ i => obtain ⟨hi, r⟩ := ih e; exact ⟨Nat.succ_lt_succ hi, r⟩
theorem strs_take {vs : List Value} {xs : List Str} (h : StrsAre vs xs) : ∀ k, StrsAre (vs.take k) (xs.take k) := by
  induction h with
  | nil => intro k; rw [List.take_nil, List.take_nil]; exact .nil
  | cons a b r ih => intro k; cases k with
    | zero => exact .nil
    | succ k => exact .cons _ _ (ih k)
theorem strs_drop {vs : List Value} {xs : List Str} (h : StrsAre vs xs) : ∀ k, StrsAre (vs.drop k) (xs.drop k) := by
  induction h with
  | nil => intro k; rw [List.drop_nil, List.drop_nil]; exact .nil
  | cons a b r ih => intro k; cases k with
    | zero => exact .cons _ _ r
    | succ k => exact ih k
theorem strs_append {vs ws : List Value} {xs ys : List Str} (h : StrsAre vs xs) (k : StrsAre ws ys) : StrsAre (vs ++ ws) (xs ++ ys) := by
  induction h with
  | nil => exact k
  | cons a b r ih => exact .cons _ _ ih
theorem strs_ins {vs : List Value} {t : List Nat} {c : Nat} {tc : Tok} (k : Nat) (h : StrsAre vs (t.map fun c => sl [c])) : StrsAre (vs.take k ++ .str (sl [c]) tc :: vs.drop k) ((t.take k ++ c :: t.drop k).map fun c => sl [c]) := by
  rw [List.map_append, List.map_cons, List.map_take, List.map_drop]
  exact strs_append (strs_take h k) (.cons _ _ (strs_drop h k))
theorem allLt_to {d : Addr} : ∀ {l : List (Addr × Obj)}, AllLt d l → ∀ p ∈ l, p.1 < d
  | [], _, _, h => nomatch h
  | _ :: _, h, p, hp => by
    rcases List.mem_cons.mp hp with rfl | hp
    · exact h.1
    · exact allLt_to h.2 p hp
theorem news_swap {h₀ h : Heap} {L : Addr} {c It : Addr} {oc o : Obj} {rest : List (Addr × Obj)} (N : News h₀ L h ([(c, oc)] ++ (It, o) :: rest)) : News h₀ L h ((It, o) :: (c, oc) :: rest) := fun q hq => by
  rcases List.mem_cons.mp hq with rfl | hq
  · exact N _ (.tail _ (.head _))
  · rcases List.mem_cons.mp hq with rfl | hq
    · exact N _ (.head _)
    · exact N _ (.tail _ (.tail _ hq))
theorem news_col {h₀ h : Heap} {L : Addr} {p q r : Addr × Obj} {cs : List (Addr × Obj)} (N : News h₀ L h (p :: q :: r :: cs)) : News h₀ L h (q :: r :: (cs ++ [p])) := fun x hx => by
  rcases List.mem_cons.mp hx with rfl | hx
  · exact N _ (.tail _ (.head _))
  · rcases List.mem_cons.mp hx with rfl | hx
    · exact N _ (.tail _ (.tail _ (.head _)))
    · rcases List.mem_append.mp hx with hx | hx
      · exact N _ (.tail _ (.tail _ (.tail _ hx)))
      · rw [List.mem_singleton.mp hx]; exact N _ (.head _)
theorem ones_at (l : List Nat) (i : Nat) (hi : i < l.length) : (l.map fun c => sl [c]).getD i Str.empty = sl [l.getD i 0] := by
  rw [List.getD_eq_getElem?_getD, List.getElem?_map, List.getElem?_eq_getElem hi, List.getD_eq_getElem?_getD, List.getElem?_eq_getElem hi]; rfl
theorem ints_get {vs : List Value} {ns : List Int} (h : IntsAre vs ns) {i : Nat} {v : Value} (e : vs[i]? = some v) : ∃ (hi : i < ns.length) (t : Tok), v = .int ns[i] t := by
  induction h generalizing i with
  | nil => cases e
  | cons n t r ih =>
    cases i with
    | zero => injection e with e; exact ⟨Nat.zero_lt_succ _, t, e.symm⟩
    | succ i => obtain ⟨hi, t, e'⟩ := ih e; exact ⟨Nat.succ_lt_succ hi, t, e'⟩

end
noncomputable section
-- l[:] = new
section
variable {prog : Program} {w : World} {A : Around} {E : Value → Shared → Prop} {s : Shared}
theorem listItems_list {M : Model} {D : Addr} {new : Array Value} {Q : Array Value → Shared → Prop} (hD : s.heap.IsList D new) (h : Q new s) : wpAny M A (Builtin.List.listItems (.ref D)) Q E s := by
  obtain ⟨oD, hoD, hcD, nD, hdD⟩ := hD
  unfold Builtin.List.listItems
  exact wpAny_bind (wpAny_seqItems hoD hdD (wpAny_pure h))
theorem listAll_list {M : Model} {D : Addr} {new : Array Value} {msg : String} {Q : Array Value → Shared → Prop} (hD : s.heap.IsList D new) (h : Q new s) : wpAny M A (Builtin.List.listAllItems (.ref D) msg) Q E s := by
  have hTD : s.TypeIs (.ref D) "list" := hD.typeIs
  unfold Builtin.List.listAllItems
  refine wpAny_bind (wpAny_typeOf hTD ?_)
  rw [if_pos (by decide)]
  exact listItems_list hD h
theorem setItem_all {l sc D : Addr} {items new : Array Value} {n : Nat} {Q : Unit → Shared → Prop} (hl : s.heap.get? l = some (listOf items n)) (hs : s.heap.IsSliceOf sc .none .none .none) (hD : s.heap.IsList D new) (hne : l ≠ D) (hz : items.size ≤ 200) (hz2 : new.size ≤ 200)
    (hQ : ∀ h' n', h'.get? l = some (listOf new n') → Heap.SameBut l s.heap h' → Q () { s with heap := h' }) : wpAny (model prog w) A (setItem (.ref l) (.ref sc) (.ref D)) Q E s := by
  have hL : s.heap.IsList l items := ⟨_, hl, rfl, _, rfl⟩
  obtain ⟨os, hos, hcs, hds⟩ := id hs
  obtain ⟨oD, hoD, hcD, nD, hdD⟩ := id hD
  have hTs : s.TypeIs (.ref sc) "slice" := ⟨os, hos, hcs⟩
  have hTD : s.TypeIs (.ref D) "list" := ⟨oD, hoD, hcD⟩
  have h200 : (400 : Nat) ≤ sizeLine := by rw [sizeLine_eq]; decide
  unfold setItem
  try with_reducible refine wpAny_holding ?_
  first | refine wpAny_bind (wpAny_pure ?_) | skip
  refine wpAny_bind (wpAny_sequenceKey hL.typeIs (by decide) ?_)
  refine wpAny_bind (wpAny_callSpecial?_slot (name := Str.ofString "__setitem__") hL.typeIs slot_list_setitem
    (wpAny_call_entry slot_list_setitem hL.typeIs entry_list_setitem ?_ (args_list_setitem _ _ _)))
  show wpAny _ _ (Builtin.List.listSubscript? (.ref sc) >>= _) _ _ s
  refine wpAny_bind ?_
  unfold Builtin.List.listSubscript?
  refine wpAny_bind (wpAny_specialOf hTs slice_no_index ?_)
  simp only [Option.isNone_none, if_true]
  refine wpAny_pure ?_
  show wpAny _ _ (typeOf (.ref sc) >>= _) _ _ s
  refine wpAny_bind (wpAny_typeOf hTs ?_)
  rw [if_neg (by decide)]
  rw [listSliceParts_eq]
  refine wpAny_bind (wpAny_bind (wpAny_field hos hds (x := .none) rfl (wpAny_bind (wpAny_listPart .none ?_))))
  rw [if_neg (show ¬ ((rawPart none == rawInt 0) = true) from Bool.false_ne_true)]
  refine wpAny_bind (wpAny_field hos hds (x := .none) rfl (wpAny_bind (wpAny_listPart .none ?_)))
  refine wpAny_bind (wpAny_field hos hds (x := .none) rfl (wpAny_bind (wpAny_listPart .none (wpAny_pure ?_))))
  have hsame : Builtin.List.listSameRef (.ref l) (.ref D) = false := by
    show (l == D) = false
    simpa using hne
  dsimp only
  rw [hsame]
  simp only [Bool.false_eq_true, if_false]
  refine wpAny_bind (listAll_list hD ?_)
  refine wpAny_bind (listItems_list hL ?_)
  refine wpAny_bind (wpAny_of_eq (sliceIndices_raw none none none items.size (by simp)) ?_)
  have e1 : sliceBounds none none none items.size = (0, (items.size : Int), 1) := rfl
  rw [e1]
  dsimp only
  rw [if_pos (by decide)]
  refine wpAny_bind (wpAny_rule ?_)
  rw [if_neg (by unfold Builtin.List.listTooLong; simp; omega)]
  unfold Builtin.List.listUpdate
  dsimp only
  have ef : ((fun xs : Array Value => xs.extract 0 (Int.toNat 0) ++ new ++ xs.extract (max 0 (items.size : Int)).toNat) items) = new := by
    have q : (max 0 (items.size : Int)).toNat = items.size := by omega
    dsimp only
    rw [q]
    simp
  refine wpAny_bind (wpAny_updateSeq hl rfl ?_ (by omega) (by (show ((fun xs : Array Value => xs.extract 0 (Int.toNat 0) ++ new ++ xs.extract (max 0 (items.size : Int)).toNat) items).size ≤ _); rw [ef]; omega))
  refine wpAny_bind (wpAny_letGo ?_)
  have em : Obj.mapSeq (fun xs : Array Value => xs.extract 0 (Int.toNat 0) ++ new ++ xs.extract (max 0 (items.size : Int)).toNat) (listOf items n) = listOf new (if new.size == items.size then n else n + 1) := by
    show (⟨_, _, _, _⟩ : Obj) = _
    rw [ef]
  refine wpAny_pure ⟨_, rfl, wpAny_pure (hQ _ (if new.size == items.size then n else n + 1) ?_ (Heap.SameBut.update ..))⟩
  rw [Heap.get?_update_self _ hl (by rw [em]; rfl), em]
theorem setItem_allN {l sc D : Addr} {items new : Array Value} {n : Nat} {Q : Unit → Shared → Prop} {h₀ : Heap} {L : Addr} {m : Str → Option Value} {pre post : List (Addr × Obj)} (F : Fr h₀ L s.heap m) (N : News h₀ L s.heap (pre ++ (l, listOf items n) :: post)) (hpre : ∀ p ∈ pre, p.1 ≠ l) (hpost : ∀ p ∈ post, p.1 ≠ l)
    (hs : s.heap.IsSliceOf sc .none .none .none) (hD : s.heap.IsList D new) (hne : l ≠ D) (hz : items.size ≤ 200) (hz2 : new.size ≤ 200)
    (hQ : ∀ h' n', Fr h₀ L h' m → News h₀ L h' (pre ++ (l, listOf new n') :: post) → Q () { s with heap := h' }) : wpAny (model prog w) A (setItem (.ref l) (.ref sc) (.ref D)) Q E s := by
  have z := N (l, listOf items n) (List.mem_append_right _ (.head _))
  refine setItem_all z.1 hs hD hne hz hz2 fun h' n' e hs' => hQ h' n' (F.change hs' z.2.1 z.2.2) (news_set N hpre hpost hs' e)
end
/-- what is left of a row, by its pairs -/
noncomputable def vsF {α : Type} (p : List Nat × List Nat → Bool) (vs : List α) (prs : List (List Nat × List Nat)) : List α := ((vs.zip prs).filter fun q => p q.2).map (·.1)
theorem vsF_step {p : List Nat × List Nat → Bool} {vs : List Value} {prs : List (List Nat × List Nat)} {i : Nat} {v : Value} (e : vs[i]? = some v) (hi : i < prs.length) :
    vsF p (vs.take (i + 1)) (prs.take (i + 1)) = vsF p (vs.take i) (prs.take i) ++ (if p prs[i] = true then [v] else []) := by
  obtain ⟨hv, rfl⟩ := List.getElem?_eq_some_iff.mp e
  have hl : (vs.take i).length = (prs.take i).length := by rw [List.length_take, List.length_take]; omega
  unfold vsF
  rw [List.take_add_one, List.take_add_one, List.getElem?_eq_getElem hv, List.getElem?_eq_getElem hi, Option.toList_some, Option.toList_some, List.zip_append hl, List.filter_append, List.map_append]
  congr 1
  show (([(vs[i], prs[i])].filter fun q => p q.2).map (·.1)) = _
  rw [List.filter_cons]
  by_cases c : p prs[i] = true
  · rw [if_pos c, if_pos c]; rfl
  · rw [if_neg c, if_neg c]; rfl
theorem vsF_len {p : List Nat × List Nat → Bool} {vs : List Value} {prs : List (List Nat × List Nat)} : (vsF p vs prs).length ≤ vs.length := by
  unfold vsF
  rw [List.length_map]
  refine Nat.le_trans (List.length_filter_le _ _) ?_
  rw [List.length_zip]; omega
theorem PrsAre.keepsL {h h' : Heap} {l : Addr} {its : Array Value} {n : Nat} {vs : List Value} {ps : List (List Nat × List Nat)} (x : PrsAre h vs ps) (hl : h.get? l = some (listOf its n)) (k : ∀ b o, b ≠ l → h.get? b = some o → h'.get? b = some o) : PrsAre h' vs ps := by
  induction x with
  | nil => exact .nil
  | @cons T tk tv p vs ps a _ ih =>
    refine .cons (a.at fun o e => k _ _ (fun q => ?_) e) ih
    obtain ⟨o', e', hc, _⟩ := a
    rw [q, hl] at e'
    cases e'
    have hc' : Value.type "list" = Value.type "tuple" := hc
    exact absurd hc' (by decide)
section
variable {prog : Program} {w : World} {A : Around} {E : Value → Shared → Prop} {s : Shared} {env : Env} {s₁ : Shared}
theorem doneL2 {n : Nat} {J : Addr → Nat → List Value → (Str → Option Value) → List (Addr × Obj) → Prop} {Q : Value → Shared → Prop} {h₀ : Heap} {L : Addr} {m₀ : Str → Option Value} {news : List (Addr × Obj)} (F₀ : Fr h₀ L s₁.heap m₀) (N₀ : News h₀ L s₁.heap news)
    (fin : ∀ D C ys m nw h tk, J C n ys m nw → Fr h₀ L h m₀ → News h₀ L h ((D, LCg.lst ys) :: (nw ++ news)) → s₁.heap.StaysIn h → s₁.heap.get? D = none → (∀ p ∈ nw, s₁.heap.get? p.1 = none) → (∀ p ∈ news, p.1 < D) → Q (.ref D) { s₁ with heap := h, toks := tk }) : CDone s₁.heap n J (FinL Q) s₁ := by
  intro D C ys m nw h tk hJ F N hoff hCD hDg
  refine ⟨⟨m, F.ns⟩, fun h'' hs'' => ?_⟩
  have hk : s₁.heap.StaysIn h'' := fun b o e => hs''.extBut b o (fun q => by rw [q] at e; exact Nat.lt_irrefl _ (Nat.lt_of_lt_of_le (Heap.lt_size e) F.above)) (F.keep b o e)
  have h0 : ∀ a, s₁.heap.get? a = none → h₀.get? a = none ∧ a ≠ L := fun a ha => none_of F₀ ha
  refine fin D C ys m nw h'' tk hJ (F₀.keeps hk) (fun p hp => ?_) hk (N (D, _) (List.mem_append_right _ (List.mem_singleton.mpr rfl))).2.2 (fun p hp => (N p (List.mem_append_left _ hp)).2.2) (fun p hp => Nat.lt_of_lt_of_le (Heap.lt_size (N₀ p hp).1) hDg)
  rcases List.mem_cons.mp hp with rfl | hp
  · have z := N (D, _) (List.mem_append_right _ (List.mem_singleton.mpr rfl))
    exact ⟨hs''.extBut _ _ (Ne.symm hCD) z.1, (h0 _ z.2.2).2, (h0 _ z.2.2).1⟩
  · rcases List.mem_append.mp hp with hp | hp
    · have z := N p (List.mem_append_left _ hp)
      exact ⟨hs''.extBut _ _ z.2.1 z.1, (h0 _ z.2.2).2, (h0 _ z.2.2).1⟩
    · exact ⟨hk _ _ (N₀ p hp).1, (N₀ p hp).2⟩
theorem doneS2 {n : Nat} {J : Addr → Nat → List Value → (Str → Option Value) → List (Addr × Obj) → Prop} {y : Str} {py : Pos} {Q : Flow → Shared → Prop} {h₀ : Heap} {m₀ : Str → Option Value} {news : List (Addr × Obj)} (F₀ : Fr h₀ env.locals s₁.heap m₀) (N₀ : News h₀ env.locals s₁.heap news)
    (hy : env.kindOf y = some .local) (hp : (env.scope.kind == .class || (env.scope.kind == .module && env.locals != env.globals)) = false)
    (fin : ∀ D C ys m nw h tk, J C n ys m nw → Fr h₀ env.locals h (fun z => if z = y then some (.ref D) else m₀ z) → News h₀ env.locals h ((D, LCg.lst ys) :: (nw ++ news)) → (∀ b o, b ≠ env.locals → s₁.heap.get? b = some o → h.get? b = some o) → s₁.heap.get? D = none → (∀ p ∈ nw, s₁.heap.get? p.1 = none) → (∀ p ∈ news, p.1 < D) → Q .next { s₁ with heap := h, toks := tk }) :
    CDone s₁.heap n J (FinS prog w A env y py Q) s₁ := by
  intro D C ys m nw h tk hJ F N hoff hCD hDg
  have hCL : C ≠ env.locals := by
    obtain ⟨oL, es, ep, hL, _⟩ := F₀.ns
    exact fun q => by rw [← q] at hL; exact Nat.lt_irrefl _ (Nat.lt_of_lt_of_le (Heap.lt_size hL) F.above)
  have hLh : h.Ns env.locals m₀ := F₀.ns.at' fun o e => F.keep _ _ e
  refine wpAny_assign_Name (wpAny_storeName_local hy hLh (fun h₂ hn₂ hs₂ => ?_) hp)
  refine ⟨m, F.ns.sameBut hs₂ hCL, fun h'' hs'' => ?_⟩
  have hk : ∀ b o, b ≠ env.locals → s₁.heap.get? b = some o → h''.get? b = some o := fun b o hb e =>
    hs''.extBut b o (fun q => by rw [q] at e; exact Nat.lt_irrefl _ (Nat.lt_of_lt_of_le (Heap.lt_size e) F.above)) (hs₂.extBut b o hb (F.keep b o e))
  have h0 : ∀ a, s₁.heap.get? a = none → h₀.get? a = none ∧ a ≠ env.locals := fun a ha => none_of F₀ ha
  have hL0 : h₀.get? env.locals = none := Heap.get?_none_of_le F₀.above
  refine fin D C ys m nw h'' _ hJ ⟨hn₂.sameBut hs'' (Ne.symm hCL), fun b o e => hk b o (fun q => by rw [q, hL0] at e; cases e) (F₀.keep b o e), F₀.above⟩ (fun p hp => ?_) hk (N (D, _) (List.mem_append_right _ (List.mem_singleton.mpr rfl))).2.2 (fun p hp => (N p (List.mem_append_left _ hp)).2.2) (fun p hp => Nat.lt_of_lt_of_le (Heap.lt_size (N₀ p hp).1) hDg)
  rcases List.mem_cons.mp hp with rfl | hp
  · have z := N (D, _) (List.mem_append_right _ (List.mem_singleton.mpr rfl))
    exact ⟨hs''.extBut _ _ (Ne.symm hCD) (hs₂.extBut _ _ (h0 _ z.2.2).2 z.1), (h0 _ z.2.2).2, (h0 _ z.2.2).1⟩
  · rcases List.mem_append.mp hp with hp | hp
    · have z := N p (List.mem_append_left _ hp)
      exact ⟨hs''.extBut _ _ z.2.1 (hs₂.extBut _ _ (h0 _ z.2.2).2 z.1), (h0 _ z.2.2).2, (h0 _ z.2.2).1⟩
    · exact ⟨hk _ _ (N₀ p hp).2.1 (N₀ p hp).1, (N₀ p hp).2⟩
end
section
variable {M : Model} {A : Around} {E : Value → Shared → Prop} {s : Shared} {K : Frag} {x C L f : Addr} {h₀ : Heap} {m : Str → Option Value} {ox : Obj} {od : Option Obj} {i v : Value}
theorem own_delItem {Q : Unit → Shared → Prop} (F : Fr h₀ L s.heap m) (X₀ : K.In h₀) (I : InstAt s.heap x ox C od) (hq : noSeq K C = true) (hs : findIn K (.ref C) "__delitem__" = some (some (.ref f))) (hf : isFn K (.ref f) = true)
    (h : wpAny M A (call (.ref f) [.ref x, i]) (fun _ s' => Q () s') E s) : wpAny M A (delItem (.ref x) i) Q E s := by
  have X := X₀.keeps F.keep
  unfold delItem sequenceKey
  refine wpAny_holding (wpAny_bind (wpAny_bind (I.type.here ?_)))
  refine wpAny_bind ((anyM_none X hq).here ?_)
  rw [if_pos (show (!false) = true from rfl)]
  exact wpAny_pure (wpAny_bind (special_fn X I hs (beq_iff_eq.mp hf) (wpAny_mono h (fun _ _ z => wpAny_pure z) fun _ _ z => z)))
end
theorem cells5 {cm : Str → Option Value} {a b c d e : Str × Addr} {cells : List (Addr × Obj)} (Y : CellsAre cm [a, b, c, d, e] cells) : ∃ o1 o2 o3 o4 o5, cells = [(a.2, o1), (b.2, o2), (c.2, o3), (d.2, o4), (e.2, o5)] ∧ o1.data = .cell (cm a.1) ∧ o2.data = .cell (cm b.1) ∧ o3.data = .cell (cm c.1) ∧ o4.data = .cell (cm d.1) ∧ o5.data = .cell (cm e.1) := by
  cases Y with | cons h1 Y => cases Y with | cons h2 Y => cases Y with | cons h3 Y => cases Y with | cons h4 Y => cases Y with | cons h5 Y => cases Y with | nil => exact ⟨_, _, _, _, _, rfl, h1, h2, h3, h4, h5⟩

end
noncomputable section
theorem news_sub {h₀ h : Heap} {L : Addr} {n₁ n₂ : List (Addr × Obj)} (N : News h₀ L h n₁) (hs : ∀ p ∈ n₂, p ∈ n₁) : News h₀ L h n₂ := fun p hp => N p (hs p hp)
-- tuples of two texts
inductive TupsAre : List (Addr × Obj) → List (List Nat × List Nat) → Prop
  | nil : TupsAre [] []
  | cons {T : Addr} {p : List Nat × List Nat} {tk tv : Tok} {n : Nat} {ts : List (Addr × Obj)} {ps : List (List Nat × List Nat)} : TupsAre ts ps → TupsAre ((T, { cls := .type "tuple", data := .seq #[.str (sl p.1) tk, .str (sl p.2) tv] n }) :: ts) (p :: ps)
theorem TupsAre.length {ts : List (Addr × Obj)} {ps : List (List Nat × List Nat)} (h : TupsAre ts ps) : ts.length = ps.length := by
  induction h with
  | nil => rfl
  | cons _ ih => simp [ih]
theorem TupsAre.append {ts us : List (Addr × Obj)} {ps qs : List (List Nat × List Nat)} (h : TupsAre ts ps) (k : TupsAre us qs) : TupsAre (ts ++ us) (ps ++ qs) := by
  induction h with
  | nil => exact k
  | cons _ ih => exact .cons ih
theorem TupsAre.prs {h : Heap} {ts : List (Addr × Obj)} {ps : List (List Nat × List Nat)} (x : TupsAre ts ps) (k : ∀ q ∈ ts, h.get? q.1 = some q.2) : PrsAre h (ts.map fun q => Value.ref q.1) ps := by
  induction x with
  | nil => exact .nil
  | @cons T p tk tv n ts ps _ ih =>
    exact .cons ⟨_, k _ (.head _), rfl, n, rfl⟩ (ih fun q hq => k q (.tail _ hq))
theorem TupsAre.filter {p : List Nat × List Nat → Bool} {ts : List (Addr × Obj)} {ps : List (List Nat × List Nat)} (x : TupsAre ts ps) : TupsAre (vsF p ts ps) (ps.filter p) := by
  induction x with
  | nil => exact .nil
  | @cons T q tk tv n ts ps _ ih =>
    unfold vsF at ih ⊢
    rw [List.zip_cons_cons, List.filter_cons, List.filter_cons]
    by_cases e : p q = true
    · rw [if_pos e, if_pos e]; exact .cons ih
    · rw [if_neg e, if_neg e]; exact ih
theorem vsF_map {α β : Type} (f : α → β) {p : List Nat × List Nat → Bool} : ∀ (vs : List α) (ps : List (List Nat × List Nat)), vsF p (vs.map f) ps = (vsF p vs ps).map f
  | [], _ => rfl
  | _ :: _, [] => rfl
  | v :: vs, q :: ps => by
    have ih := vsF_map f (p := p) vs ps
    unfold vsF at ih ⊢
    rw [List.map_cons, List.zip_cons_cons, List.zip_cons_cons, List.filter_cons, List.filter_cons]
    by_cases e : p q = true
    · rw [if_pos e, if_pos e, List.map_cons, List.map_cons, List.map_cons, ih]
    · rw [if_neg e, if_neg e, ih]
theorem vsF_mem {α : Type} {p : List Nat × List Nat → Bool} {vs : List α} {ps : List (List Nat × List Nat)} {q : α} (h : q ∈ vsF p vs ps) : q ∈ vs := by
  unfold vsF at h
  obtain ⟨⟨a, b⟩, hx, rfl⟩ := List.mem_map.mp h
  exact (List.of_mem_zip (List.mem_filter.mp hx).1).1
theorem TupsAre.isTup {ts : List (Addr × Obj)} {ps : List (List Nat × List Nat)} (x : TupsAre ts ps) : ∀ q ∈ ts, q.2.cls = .type "tuple" ∧ ∃ xs n, q.2.data = .seq xs n := by
  induction x with
  | nil => exact fun _ h => nomatch h
  | cons _ ih =>
    intro q hq
    rcases List.mem_cons.mp hq with rfl | hq
    · exact ⟨rfl, _, _, rfl⟩
    · exact ih q hq
theorem tups_list {h₀ h : Heap} {L : Addr} {news ts : List (Addr × Obj)} {ps : List (List Nat × List Nat)} (N : News h₀ L h news) (x : TupsAre ts ps) (hs : ∀ q ∈ ts, q ∈ news) {a : Addr} {its : Array Value} {n : Nat} (ha : (a, listOf its n) ∈ news) : ∀ q ∈ ts, q.1 ≠ a := fun q hq e => by
  have h1 := (N q (hs q hq)).1
  have h2 := (N _ ha).1
  dsimp only at h2
  rw [e, h2] at h1
  injection h1 with h1
  have h3 := (x.isTup q hq).1
  rw [← h1] at h3
  exact absurd (show Value.type "list" = Value.type "tuple" from h3) (by decide)
theorem tups_cell {h₀ h : Heap} {L : Addr} {news ts : List (Addr × Obj)} {ps : List (List Nat × List Nat)} (N : News h₀ L h news) (x : TupsAre ts ps) (hs : ∀ q ∈ ts, q ∈ news) {a : Addr} {o : Obj} {v : Option Value} (ha : (a, o) ∈ news) (ho : o.data = .cell v) : ∀ q ∈ ts, q.1 ≠ a := fun q hq e => by
  have h1 := (N q (hs q hq)).1
  have h2 := (N _ ha).1
  dsimp only at h2
  rw [e, h2] at h1
  injection h1 with h1
  obtain ⟨_, xs, n, h3⟩ := x.isTup q hq
  rw [← h1, ho] at h3
  cases h3
theorem Mut.use2 {K : Params → Frag} {prog : Program} {f need : Nat} {args : Args} {S : List (Addr × Obj)} {pre : World → Heap → Prop} {R : Value → List (Addr × Obj) → Prop} (C : Mut K prog f need args S pre R) (rest : List (Addr × Obj)) {w : World} {p : Program} {loose : List Str} {mean : ExcName → Option Value} {mg mb : Str → Option Value}
    {dp un : Nat} {fr : Option (List Env)} {gd : Option (List Code)} {s : Shared} {Q E : Value → Shared → Prop} {h₀ : Heap} {L : Addr} {m : Str → Option Value} {news : List (Addr × Obj)}
    (F : Fr h₀ L s.heap m) (X : (K w.params).In h₀) (N : News h₀ L s.heap news) (T : Top p loose mean mg mb h₀) (hS : ∀ q ∈ S, q ∈ news) (hr : ∀ q ∈ rest, q ∈ news ∧ q.1 ∉ S.map (·.1)) (hp : pre w s.heap) (hd : dp + need < recursionLimit) (hu : un + 8 * need < cLine)
    (hret : ∀ r h' tk' S', Fr h₀ L h' m → News h₀ L h' (S' ++ rest) → (∀ b o, s.heap.get? b = some o → b ∉ S.map (·.1) → h'.get? b = some o) → (∀ q ∈ S', q.1 ∈ S.map (·.1) ∨ ∀ p ∈ news, p.1 ≠ q.1) → R r S' → Q r { s with heap := h', toks := tk' }) :
    wpAny (model prog w) (Ar dp un fr gd) (call (.ref f) args.pos args.kw) Q E s :=
  C w p loose mean mg mb dp un fr gd s Q E (fun q hq => (N q (hS q hq)).1) (X.keeps (mut_fore F N hS)) (T.keeps (mut_fore F N hS)) hp hd hu fun r h' tk' S' hk hS' hR =>
    hret r h' tk' S' (mut_back F N hS hr hk hS').1 (mut_back F N hS hr hk hS').2 hk (fun q hq => (hS' q hq).2.imp id fun e p hp q' => by rw [← q', (N p hp).1] at e; cases e) hR
section
variable {prog : Program} {w : World} {A : Around} {s : Shared} {env : Env} {h₀ : Heap} {Q : Flow → Shared → Prop} {target iter : Expr} {body : List Stmt} {pos : Pos}
theorem for_listY {L : Addr} {α : Type} (lOf : α → Addr) (items : α → Array Value) (J : α → Nat → (Str → Option Value) → List (Addr × Obj) → Prop) (hL : env.locals = L) (hh : A.handled = none)
    (h : wpAny (model prog w) A (eval iter env) (Hit2 fun x s₁ => ∃ (p : α) (h1 : Heap) (tk1 : Nat) (m1 : Str → Option Value) (nw1 : List (Addr × Obj)), x = .ref (lOf p) ∧ s₁ = { s with heap := h1, toks := tk1 } ∧ Fr h₀ L h1 m1 ∧ News h₀ L h1 nw1 ∧ J p 0 m1 nw1) (fun _ _ => False) s)
    (hl : ∀ p i m nw h, J p i m nw → Fr h₀ L h m → News h₀ L h nw → h.IsList (lOf p) (items p))
    (turn : ∀ p i v m nw It o h tk, (items p)[i]? = some v → J p i m nw → (∀ p ∈ nw, p.1 ≠ It) → Fr h₀ L h m → News h₀ L h ((It, o) :: nw) →
        wpAny (model prog w) A (assign target env v) (fun _ s₂ => wpAny (model prog w) A (execs body env) (TurnEnd h₀ L s It o (J p (i + 1)) Q) (fun _ _ => False) s₂) (fun _ _ => False) { s with heap := h, toks := tk })
    (done : ∀ p m nw h tk, J p (items p).size m nw → Fr h₀ L h m → News h₀ L h nw → Q .next { s with heap := h, toks := tk })
    (hs : ∀ x, foldedSetIterable iter env x = pure x := by intro _; rfl) :
    wpAny (model prog w) A (exec (.For target iter body [] pos) env) Q (fun _ _ => False) s :=
  for_listX hL hh (wpAny_mono h (fun x s₁ z => by
    obtain ⟨p, h1, tk1, m1, nw1, e, e2, F, N, j⟩ := z
    exact ⟨lOf p, items p, J p, h1, tk1, m1, nw1, e, e2, F, N, j, hl p, turn p, done p⟩) fun _ _ x => x) hs
end
theorem sub_cons {α : Type} {a : α} {r l : List α} (h : a ∈ l) (k : ∀ q ∈ r, q ∈ l) : ∀ q ∈ a :: r, q ∈ l := fun q hq => by
  rcases List.mem_cons.mp hq with rfl | hq
  · exact h
  · exact k q hq
theorem sub_app {α : Type} {r t l : List α} (h : ∀ q ∈ r, q ∈ l) (k : ∀ q ∈ t, q ∈ l) : ∀ q ∈ r ++ t, q ∈ l := fun q hq => by
  rcases List.mem_append.mp hq with hq | hq
  · exact h q hq
  · exact k q hq
theorem sub_skip {α : Type} {a : α} {r l : List α} (h : ∀ q ∈ r, q ∈ l) : ∀ q ∈ r, q ∈ a :: l := fun q hq => .tail _ (h q hq)
theorem getD_map_sl (xs : List (List Nat)) (k : Nat) (h : k < xs.length) : (xs.map sl).getD k Str.empty = sl (xs.getD k []) := by
  rw [List.getD_eq_getElem?_getD, List.getElem?_map, List.getElem?_eq_getElem h, List.getD_eq_getElem?_getD, List.getElem?_eq_getElem h]; rfl
/-- apart from the cells, the table's row and the row of what is due -/
noncomputable def Off (L l U d : Nat) : Prop := d ≠ L + 1 ∧ d ≠ L + 1 + 1 ∧ d ≠ L + 1 + 1 + 1 ∧ d ≠ L + 1 + 1 + 1 + 1 ∧ d ≠ L + 1 + 1 + 1 + 1 + 1 ∧ d ≠ l ∧ d ≠ U
theorem Off.out {L l U d : Nat} (h : Off L l U d) : d ≠ L + 1 ∧ d ≠ L + 1 + 1 ∧ d ≠ L + 1 + 1 + 1 ∧ d ≠ L + 1 + 1 + 1 + 1 ∧ d ≠ L + 1 + 1 + 1 + 1 + 1 ∧ d ≠ l ∧ d ≠ U := h
theorem Off.of {L l U d : Nat} {led : List (Addr × Obj)} {oN oP oC oG oL ol oU : Obj} (h : ∀ p ∈ led, p.1 ≠ d) (h1 : (L + 1, oN) ∈ led) (h2 : (L + 1 + 1, oP) ∈ led) (h3 : (L + 1 + 1 + 1, oC) ∈ led) (h4 : (L + 1 + 1 + 1 + 1, oG) ∈ led) (h5 : (L + 1 + 1 + 1 + 1 + 1, oL) ∈ led) (h6 : (l, ol) ∈ led) (h7 : (U, oU) ∈ led) : Off L l U d :=
  ⟨fun e => h _ h1 e.symm, fun e => h _ h2 e.symm, fun e => h _ h3 e.symm, fun e => h _ h4 e.symm, fun e => h _ h5 e.symm, fun e => h _ h6 e.symm, fun e => h _ h7 e.symm⟩

end
noncomputable section
-- lists of texts compared
theorem carried_strs {vs : List Value} {xs : List Str} (h : StrsAre vs xs) : CarriedAll vs (xs.map PyData.str) := by
  induction h with
  | nil => exact .nil
  | cons _ t _ ih => exact .cons (.str _ t) ih
theorem eqv_strs : ∀ as bs : List Str, PyData.eqvAll (as.map PyData.str) (bs.map PyData.str) = decide (as = bs)
  | [], [] => by simp [PyData.eqvAll]
  | [], _ :: _ => by simp [PyData.eqvAll]
  | _ :: _, [] => by simp [PyData.eqvAll]
  | a :: r, b :: t => by
    simp only [List.map_cons, PyData.eqvAll, PyData.eqv, eqv_strs r t]
    by_cases h : a = b <;> by_cases h' : r = t <;> simp [h, h']
theorem strOk_sl {l : List Nat} (h : ∀ c ∈ l, c < 128) : PyData.strOk (sl l) = true := by
  unfold PyData.strOk
  rw [Array.all_eq_true]
  intro i hi
  have : (sl l).cps[i] ∈ l := by simp [sl]
  have := h _ this
  exact decide_eq_true (by omega)
theorem lay_strs : ∀ xs : List (List Nat), (∀ y ∈ xs, ∀ c ∈ y, c < 128) → PyData.canLayAll0 ((xs.map sl).map PyData.str) = true ∧ PyData.depthAll ((xs.map sl).map PyData.str) = 0
  | [], _ => by simp [PyData.canLayAll0, PyData.depthAll]
  | y :: r, h => by
    have ih := lay_strs r fun z hz => h z (.tail _ hz)
    simp only [List.map_cons, PyData.canLayAll0, PyData.depthAll, PyData.canLay0, PyData.depth, ih.1, ih.2, strOk_sl (h y (.head _)), Bool.and_self, Nat.max_self, and_self]
theorem shaped_strs {xs : List (List Nat)} (h : ∀ y ∈ xs, ∀ c ∈ y, c < 128) : SeqAt.shaped (.list ((xs.map sl).map PyData.str)) = true := by
  have := lay_strs xs h
  unfold SeqAt.shaped
  simp only [PyData.canLay0, PyData.depth, this.1, this.2]; decide
theorem sls_inj : ∀ {xs ys : List (List Nat)}, xs.map sl = ys.map sl ↔ xs = ys
  | [], [] => by simp
  | [], _ :: _ => by simp
  | _ :: _, [] => by simp
  | x :: r, y :: t => by simp only [List.map_cons, List.cons.injEq, sl_inj, sls_inj (xs := r) (ys := t)]
section
variable {prog : Program} {w : World} {A : Around} {E : Value → Shared → Prop} {s : Shared} {a b : Addr} {vs us : List Value} {xs ys : List (List Nat)} {Q : Value → Shared → Prop}
theorem ne_texts (ha : s.heap.IsList a vs.toArray) (hb : s.heap.IsList b us.toArray) (hi : StrsAre vs (xs.map sl)) (hj : StrsAre us (ys.map sl)) (hx : ∀ y ∈ xs, ∀ c ∈ y, c < 128) (hy : ∀ y ∈ ys, ∀ c ∈ y, c < 128) (hu : A.units + 64 < cLine) (h : Q (.bool (!decide (xs = ys))) s) :
    wpAny (model prog w) A (compareOp .NotEq (.ref a) (.ref b)) Q E s :=
  ne_dataH (reads_newData ha (carried_strs hi)) (reads_newData hb (carried_strs hj)) (shaped_strs hx) (shaped_strs hy) hu (by
    rw [show PyData.eqv (.list ((xs.map sl).map PyData.str)) (.list ((ys.map sl).map PyData.str)) = decide (xs = ys) from by
      simp only [PyData.eqv, eqv_strs, sls_inj]]
    exact h)
end
section
variable {M : Model} {A : Around} {E : Value → Shared → Prop} {s : Shared} {g : Heap} {C c : Addr} {m : Str → Option Value} {scope : Scope} {cl : List (Str × Addr)} {env : Env} {x : Str} {pos : Pos} {v : Value} {v₀ : Option Value} {o : Obj} {Q : Unit → Shared → Prop} {post : List (Addr × Obj)}
/-- the target of a block, where an inner block captures it -/
theorem cmp_storeC (F : Fr g C s.heap m) (N : News g C s.heap ((c, o) :: post)) (hp : ∀ p ∈ post, p.1 ≠ c) (hc : cl.lookup x = some c) (hd : o.data = .cell v₀)
    (h : ∀ h' o', Fr g C h' m → News g C h' ((c, o') :: post) → o'.data = .cell (some v) → (∀ b ob, b ≠ c → s.heap.get? b = some ob → h'.get? b = some ob) → Q () { s with heap := h' })
    (hk : (compEnvC scope cl C env).scope.kind = .function) (hl : (compEnvC scope cl C env).kindOf x = some .cell) :
    wpAny M A (assign (.Name x pos) (compEnvC scope cl C env) v) Q E s := by
  have hmem := N (c, o) (.head _)
  refine wpAny_assign_Name (wpAny_storeName_cell hk hl hc ⟨o, hmem.1, hd⟩ fun h' hv hs => ?_)
  obtain ⟨o', ho', hd'⟩ := hv
  refine h h' o' ⟨F.ns.sameBut hs (Ne.symm hmem.2.1), fun b ob e => (hs.2 b (fun q => ?_)).trans (F.keep b ob e), F.above⟩ (fun p hp' => ?_) hd' fun b ob hb e => hs.extBut b ob hb e
  · rw [q, hmem.2.2] at e; cases e
  · rcases List.mem_cons.mp hp' with rfl | hp'
    · exact ⟨ho', hmem.2⟩
    · exact ⟨hs.extBut _ _ (hp p hp') (N p (.tail _ hp')).1, (N p (.tail _ hp')).2⟩
end
theorem news_mid {h₀ h : Heap} {L : Addr} {a : Addr × Obj} {nw rest : List (Addr × Obj)} (N : News h₀ L h (a :: (nw ++ rest))) : News h₀ L h (a :: rest) := fun p hp => by
  rcases List.mem_cons.mp hp with rfl | hp
  · exact N _ (.head _)
  · exact N _ (.tail _ (List.mem_append_right _ hp))
theorem getD_at {l : List Nat} {k : Nat} (h : k < l.length) : l[k] = l.getD k 0 := by
  rw [List.getD_eq_getElem?_getD, List.getElem?_eq_getElem h]; rfl

end
noncomputable section
-- zip of a list and a text
section
variable {prog : Program} {w : World} {A : Around} {E : Value → Shared → Prop} {s : Shared}
theorem nextOf_ascii {it : Addr} {x : Str} {t : Tok} {i c : Nat} {Q : Value → Shared → Prop} (hit : s.heap.IsStrIter it "str_ascii_iterator" x t i) (hx : x.cps[i]? = some c)
    (hQ : ∀ h', h'.IsStrIter it "str_ascii_iterator" x t (i + 1) → Heap.SameBut it s.heap h' → Q (.str ⟨#[c]⟩ s.toks) { s with heap := h', toks := s.toks + 1 }) :
    wpAny (model prog w) A (Builtin.SmallTypes.nextOf (.ref it)) Q E s := by
  obtain ⟨o, ho, hc, hd⟩ := id hit
  unfold Builtin.SmallTypes.nextOf
  refine wpAny_bind (wpAny_callSpecial?_slot (name := Str.ofString "__next__") hit.typeIs F.slot_str_ascii_iterator_next
    (wpAny_call_entry F.slot_str_ascii_iterator_next hit.typeIs F.entry_str_ascii_iterator_next ?_ (F.args_str_ascii_iterator_next_1 _)))
  show wpAny _ _ (field (.ref it) 0 >>= _) _ _ s
  refine wpAny_bind (wpAny_field ho hd (x := .str x t) rfl ?_)
  show wpAny _ _ (field (.ref it) 1 >>= _) _ _ s
  refine wpAny_bind (wpAny_field ho hd (x := .int i 0) rfl ?_)
  simp only [Int.toNat_natCast, hx]
  refine wpAny_bind (wpAny_setField ho hd (by simp) (wpAny_bind (wpAny_mkStr (wpAny_pure ⟨_, rfl, wpAny_pure (hQ _ ?_ (Heap.SameBut.update ..))⟩) (by show 1 ≤ sizeLine; decide))))
  exact ⟨_, Heap.get?_update_self _ ho (Obj.isFreed_of_fields (Obj.data_mapFields hd _)), (Obj.cls_mapFields ..).trans hc, by
    rw [Obj.data_mapFields hd]; simp [rawInt]⟩

theorem zipS_item {z TI TO i1 i2 l1 : Addr} {k : Nat} {xs : Array Value} {sx : Str} {t : Tok} {c : Nat} {x a b : Value} {Q : Value → Shared → Prop} (D : ZipApart z TI TO i1 i2 l1 l1)
    (hz : IsZip s.heap z TI TO .none) (hTI : IsPair s.heap TI (.ref i1) (.ref i2)) (hTO : IsPair s.heap TO a b)
    (h1 : s.heap.IsListIter i1 l1 k) (h2 : s.heap.IsStrIter i2 "str_ascii_iterator" sx t k) (hl1 : s.heap.IsList l1 xs) (hx : xs[k]? = some x) (hy : sx.cps[k]? = some c)
    (hQ : ∀ h' tk u, IsZip h' z TI TO (rawInt s.heap.objs.size) → IsPair h' TO x (.str ⟨#[c]⟩ u) → h'.IsListIter i1 l1 (k + 1) → h'.IsStrIter i2 "str_ascii_iterator" sx t (k + 1) → IsPair h' s.heap.objs.size x (.str ⟨#[c]⟩ u) →
      (∀ c o, c ≠ z → c ≠ TO → c ≠ i1 → c ≠ i2 → s.heap.get? c = some o → h'.get? c = some o) → Q (.ref s.heap.objs.size) { s with heap := h', toks := tk }) :
    wpAny (model prog w) A (Builtin.«zip.__next__» ⟨[.ref z], []⟩) (fun fin s' => ∃ v, fin = .done (.ret v) ∧ Q v s') E s := by
  show wpAny _ _ (field (.ref z) 2 >>= _) _ _ _
  refine wpAny_bind (wpAny_field hz rfl (x := .bool false) rfl ?_)
  show wpAny _ _ (field (.ref z) 3 >>= _) _ _ _
  refine wpAny_bind (wpAny_field hz rfl (x := .ref TI) rfl ?_)
  refine wpAny_bind (wpAny_seqItems hTI rfl ?_)
  show wpAny _ _ (Builtin.SmallTypes.ownedTupleIsFree (.ref z) >>= _) _ _ _
  refine wpAny_bind ?_
  unfold Builtin.SmallTypes.ownedTupleIsFree
  refine wpAny_bind (wpAny_field hz rfl (x := .none) rfl (wpAny_pure ?_))
  simp only [if_true]
  refine wpAny_bind (wpAny_rule ?_)
  refine wpAny_bind (wpAny_field hz rfl (x := .ref TO) rfl ?_)
  refine wpAny_bind (wpAny_setField_rec hz (by simp) fun h₁ hz₁ hs₁ => ?_)
  replace hz₁ : IsZip h₁ z TI TO .ellipsis := hz₁
  refine wpAny_bind ?_
  simp only [List.zipIdx_cons, List.zipIdx_nil, List.forIn_cons, List.forIn_nil]
  refine wpAny_bind (wpAny_bind (wpAny_onRaise ?_))
  show wpAny _ _ (Builtin.SmallTypes.nextOf (.ref i1) >>= _) _ _ _
  refine wpAny_bind (wpAny_nextOf_list_item (h1.extBut hs₁.extBut D.i1z) (hl1.extBut hs₁.extBut D.l1z) hx fun h₂ h1₂ hs₂ => wpAny_pure ?_)
  have hTO₂ : IsPair h₂ TO a b := hs₂.extBut _ _ D.TOi1 (hs₁.extBut _ _ D.TOz hTO)
  refine wpAny_bind (wpAny_seqItems hTO₂ rfl ?_)
  refine wpAny_bind (wpAny_updateSeq_pair hTO₂ fun h₃ hTO₃ hs₃ => ?_)
  replace hTO₃ : IsPair h₃ TO x b := hTO₃
  refine wpAny_bind (wpAny_letGo (wpAny_pure ?_))
  refine wpAny_bind (wpAny_bind (wpAny_onRaise ?_))
  show wpAny _ _ (Builtin.SmallTypes.nextOf (.ref i2) >>= _) _ _ _
  refine wpAny_bind (nextOf_ascii (((h2.extBut hs₁.extBut D.i2z).extBut hs₂.extBut D.i12.symm).extBut hs₃.extBut D.TOi2.symm) hy fun h₄ h2₄ hs₄ => wpAny_pure ?_)
  have hTO₄ : IsPair h₄ TO x b := hs₄.extBut _ _ D.TOi2 hTO₃
  refine wpAny_bind (wpAny_seqItems hTO₄ rfl ?_)
  refine wpAny_bind (wpAny_updateSeq_pair hTO₄ fun h₅ hTO₅ hs₅ => ?_)
  replace hTO₅ := (hTO₅ : IsPair h₅ TO x _)
  refine wpAny_bind (wpAny_letGo (wpAny_pure (wpAny_pure ?_)))
  refine wpAny_bind (wpAny_seqItems hTO₅ rfl ?_)
  refine wpAny_bind (wpAny_newTuple ?_ (hsz := by (show (2 : Nat) ≤ sizeLine); rw [sizeLine_eq]; decide))
  have hsz : h₅.objs.size = s.heap.objs.size := by rw [hs₅.1, hs₄.1, hs₃.1, hs₂.1, hs₁.1]
  have hz₅ : IsZip h₅ z TI TO .ellipsis := hs₅.extBut _ _ D.TOz.symm (hs₄.extBut _ _ D.i2z.symm (hs₃.extBut _ _ D.TOz.symm (hs₂.extBut _ _ D.i1z.symm hz₁)))
  have hk₅ : ∀ c o, c ≠ z → c ≠ TO → c ≠ i1 → c ≠ i2 → s.heap.get? c = some o → h₅.get? c = some o := fun c o c1 c2 c3 c4 e =>
    hs₅.extBut _ _ c2 (hs₄.extBut _ _ c4 (hs₃.extBut _ _ c2 (hs₂.extBut _ _ c3 (hs₁.extBut _ _ c1 e))))
  have h1₅ : h₅.IsListIter i1 l1 (k + 1) := ((h1₂.extBut hs₃.extBut D.TOi1.symm).extBut hs₄.extBut D.i12).extBut hs₅.extBut D.TOi1.symm
  have h2₅ : h₅.IsStrIter i2 "str_ascii_iterator" sx t (k + 1) := h2₄.extBut hs₅.extBut D.TOi2.symm
  have hzlt : z < h₅.objs.size := Heap.lt_size hz₅
  show wpAny _ _ (Builtin.SmallTypes.ownedTupleHandOut (.ref z) (.ref h₅.objs.size) >>= _) _ _ _
  refine wpAny_bind ?_
  unfold Builtin.SmallTypes.ownedTupleHandOut
  have hz₆ : IsZip (h₅.push { cls := .type "tuple", data := .seq #[x, .str ⟨#[c]⟩ s.toks] }) z TI TO .ellipsis := Heap.get?_push_of_some _ hz₅
  refine wpAny_bind (wpAny_setField_rec hz₆ (by simp) fun h₇ hz₇ hs₇ => ?_)
  replace hz₇ : IsZip h₇ z TI TO (rawInt h₅.objs.size) := hz₇
  refine wpAny_setField_rec hz₇ (by simp) fun h₈ hz₈ hs₈ => ?_
  replace hz₈ : IsZip h₈ z TI TO (rawInt h₅.objs.size) := hz₈
  have up : ∀ c o, c ≠ z → h₅.get? c = some o → h₈.get? c = some o := fun c o c1 e => hs₈.extBut _ _ c1 (hs₇.extBut _ _ c1 (Heap.get?_push_of_some _ e))
  have hT₈ : IsPair h₈ h₅.objs.size x (.str ⟨#[c]⟩ s.toks) := hs₈.extBut _ _ (Nat.ne_of_gt hzlt) (hs₇.extBut _ _ (Nat.ne_of_gt hzlt) (Heap.get?_push_size _ rfl))
  rw [hsz] at hz₈ hT₈
  refine wpAny_pure ⟨_, rfl, ?_⟩
  show Q (.ref h₅.objs.size) _
  rw [hsz]
  exact hQ h₈ _ _ hz₈ (up _ _ D.TOz hTO₅) (h1₅.at fun o e => up _ o D.i1z e) (let ⟨o, e, r⟩ := h2₅; ⟨o, up _ o D.i2z e, r⟩) hT₈ fun c o c1 c2 c3 c4 e => up c o c1 (hk₅ c o c1 c2 c3 c4 e)
end
section
variable {prog : Program} {w : World} {A : Around} {E : Value → Shared → Prop} {s : Shared}
theorem zipS_end {z TI TO i1 i2 l1 : Addr} {k : Nat} {xs : Array Value} {a b : Value} {Q : Fin → Shared → Prop} (hh : A.handled = none) (D : ZipApart z TI TO i1 i2 l1 l1)
    (hz : IsZip s.heap z TI TO .none) (hTI : IsPair s.heap TI (.ref i1) (.ref i2)) (hTO : IsPair s.heap TO a b)
    (h1 : s.heap.IsListIter i1 l1 k) (hl1 : s.heap.IsList l1 xs) (hx : xs[k]? = none)
    (hE : ∀ h' e, (∀ c o, c ≠ z → c ≠ TO → c ≠ i1 → c ≠ i2 → s.heap.get? c = some o → h'.get? c = some o) → (∃ o, h'.get? e = some o ∧ o.cls = .type "StopIteration") → E (.ref e) { s with heap := h' }) :
    wpAny (model prog w) A (Builtin.«zip.__next__» ⟨[.ref z], []⟩) Q E s := by
  show wpAny _ _ (field (.ref z) 2 >>= _) _ _ _
  refine wpAny_bind (wpAny_field hz rfl (x := .bool false) rfl ?_)
  show wpAny _ _ (field (.ref z) 3 >>= _) _ _ _
  refine wpAny_bind (wpAny_field hz rfl (x := .ref TI) rfl ?_)
  refine wpAny_bind (wpAny_seqItems hTI rfl ?_)
  show wpAny _ _ (Builtin.SmallTypes.ownedTupleIsFree (.ref z) >>= _) _ _ _
  refine wpAny_bind ?_
  unfold Builtin.SmallTypes.ownedTupleIsFree
  refine wpAny_bind (wpAny_field hz rfl (x := .none) rfl (wpAny_pure ?_))
  simp only [if_true]
  refine wpAny_bind (wpAny_rule ?_)
  refine wpAny_bind (wpAny_field hz rfl (x := .ref TO) rfl ?_)
  refine wpAny_bind (wpAny_setField_rec hz (by simp) fun h₁ hz₁ hs₁ => ?_)
  replace hz₁ : IsZip h₁ z TI TO .ellipsis := hz₁
  refine wpAny_bind ?_
  simp only [List.zipIdx_cons, List.zipIdx_nil, List.forIn_cons, List.forIn_nil]
  refine wpAny_bind (wpAny_bind (wpAny_onRaise ?_))
  show wpAny _ _ (Builtin.SmallTypes.nextOf (.ref i1) >>= _) _ _ _
  refine wpAny_bind (wpAny_nextOf_list_end hh (h1.extBut hs₁.extBut D.i1z) (hl1.extBut hs₁.extBut D.l1z) hx fun h₂ e hs₂ he => ?_)
  obtain ⟨oe, hoe, hce⟩ := he
  have hz₂ : IsZip h₂ z TI TO .ellipsis := hs₂ _ _ D.i1z.symm hz₁
  have hez : e ≠ z := fun x => by subst x; rw [hz₂] at hoe; cases hoe; simp at hce
  refine wpAny_setField_rec hz₂ (by simp) fun h₃ _ hs₃ => hE h₃ e (fun c o c1 _ c3 _ x => hs₃.extBut _ _ c1 (hs₂ _ _ c3 (hs₁.extBut _ _ c1 x))) ⟨oe, hs₃.extBut _ _ hez hoe, hce⟩

/-- what such a zip goes through -/
theorem walks_zipS (hh : A.handled = none) (z TI TO i1 i2 l1 : Addr) (D : ZipApart z TI TO i1 i2 l1 l1) (xs : Array Value) (sx : Str) (t : Tok) (hle : xs.size ≤ sx.cps.size) :
    WalksT prog w A z [z, TI, TO, i1, i2, l1] [z, TO, i1, i2] xs.size
      (fun i vals => ∃ x c u, xs[i]? = some x ∧ sx.cps[i]? = some c ∧ vals = #[x, .str ⟨#[c]⟩ u])
      (fun i h => IsZip h z TI TO .none ∧ IsPair h TI (.ref i1) (.ref i2) ∧ (∃ a b, IsPair h TO a b) ∧ h.IsListIter i1 l1 i ∧ h.IsStrIter i2 "str_ascii_iterator" sx t i ∧ h.IsList l1 xs)
      (fun i T h => IsZip h z TI TO (rawInt T) ∧ IsPair h TI (.ref i1) (.ref i2) ∧ (∃ a b, IsPair h TO a b) ∧ h.IsListIter i1 l1 (i + 1) ∧ h.IsStrIter i2 "str_ascii_iterator" sx t (i + 1) ∧ h.IsList l1 xs ∧
        T ≠ z ∧ T ≠ TO ∧ T ≠ i1 ∧ T ≠ i2) where
  sub := fun c hc => by simp at hc ⊢; rcases hc with rfl | rfl | rfl | rfl <;> simp
  frame := fun i h h' hst hk => by
    obtain ⟨hz, hTI, ⟨a, b, hTO⟩, h1, ⟨o2, e2, r2⟩, hl1⟩ := hst
    exact ⟨hk z (by simp) _ hz, hk TI (by simp) _ hTI, ⟨a, b, hk TO (by simp) _ hTO⟩, h1.at fun o e => hk i1 (by simp) o e, ⟨o2, hk i2 (by simp) _ e2, r2⟩, hl1.at fun o e => hk l1 (by simp) o e⟩
  item := fun i s Q E hi hst hQ => by
    obtain ⟨hz, hTI, ⟨a, b, hTO⟩, h1, h2, hl1⟩ := hst
    have hT : s.TypeIs (.ref z) "zip" := ⟨_, hz, rfl⟩
    have hic : i < sx.cps.size := Nat.lt_of_lt_of_le hi hle
    have lt : ∀ {c o}, s.heap.get? c = some o → s.heap.objs.size ≠ c := fun e => Nat.ne_of_gt (Heap.lt_size e)
    unfold pyNext
    refine wpAny_bind (wpAny_attempt (wpAny_callSpecial?_slot (name := Str.ofString "__next__") hT F.slot_zip_next
      (wpAny_call_entry F.slot_zip_next hT F.entry_zip_next
        (zipS_item D hz hTI hTO h1 h2 hl1 (Array.getElem?_eq_getElem hi) (Array.getElem?_eq_getElem hic) fun h' tk u a1 a2 a3 a4 a5 hk => wpAny_pure ?_) (F.args_zip_next_1 _))))
    exact hQ s.heap.objs.size #[xs[i], .str ⟨#[sx.cps[i]]⟩ u] h' tk ⟨_, _, _, Array.getElem?_eq_getElem hi, Array.getElem?_eq_getElem hic, rfl⟩ (Nat.le_refl _) ⟨_, a5, rfl, _, rfl⟩
      ⟨a1, hk _ _ D.TIz D.TITO D.TIi1 D.TIi2 hTI, ⟨_, _, a2⟩, a3, a4, hl1.at fun o e => hk _ o D.l1z D.l1TO D.l1i1 D.l1i2 e,
        lt hz, lt hTO, (by obtain ⟨_, e, _⟩ := h1; exact lt e), (by obtain ⟨_, e, _⟩ := h2; exact lt e)⟩
      fun c o hc e => hk c o (fun x => hc (by simp [x])) (fun x => hc (by simp [x])) (fun x => hc (by simp [x])) (fun x => hc (by simp [x])) e
  go := fun elts k pos i T s Q E hm hQ => by
    obtain ⟨hz, hTI, ⟨a, b, hTO⟩, h1, ⟨o2, e2, r2⟩, hl1, _⟩ := hm
    refine wpAny_letOwnedTupleGo_zip hz fun h' hz' hs' => hQ h' ⟨hz', hs'.extBut _ _ D.TIz hTI, ⟨a, b, hs'.extBut _ _ D.TOz hTO⟩, h1.extBut hs'.extBut D.i1z, ⟨o2, hs'.extBut _ _ D.i2z e2, r2⟩,
      hl1.extBut hs'.extBut D.l1z⟩ fun c o hc e => hs'.extBut _ _ (fun x => hc (by simp [x])) e
  apart := fun i T h hm hT => by
    obtain ⟨_, _, _, _, _, _, t1, t2, t3, t4⟩ := hm
    simp at hT
    rcases hT with rfl | rfl | rfl | rfl
    · exact t1 rfl
    · exact t2 rfl
    · exact t3 rfl
    · exact t4 rfl
  done := fun s Q E hst hQ => by
    obtain ⟨hz, hTI, ⟨a, b, hTO⟩, h1, h2, hl1⟩ := hst
    have hT : s.TypeIs (.ref z) "zip" := ⟨_, hz, rfl⟩
    unfold pyNext
    refine wpAny_bind (wpAny_attempt (wpAny_callSpecial?_slot (name := Str.ofString "__next__") hT F.slot_zip_next
      (wpAny_call_entry F.slot_zip_next hT F.entry_zip_next (zipS_end hh D hz hTI hTO h1 hl1 (Array.getElem?_eq_none (Nat.le_refl _)) fun h' e hk he => ?_) (F.args_zip_next_1 _))))
    obtain ⟨o, ho, hc⟩ := he
    refine wpAny_bind (wpAny_isInstance (T := "StopIteration") (b := true) ⟨o, ho, hc⟩ isSubtype_stop ?_)
    exact wpAny_pure (hQ h' _ fun c o hc e => hk c o (fun x => hc (by simp [x])) (fun x => hc (by simp [x])) (fun x => hc (by simp [x])) (fun x => hc (by simp [x])) e)
  self := fun i s Q E hst hQ => wpAny_pyIter_zip hst.1 hQ
end
theorem zipS_new (l1 : Addr) (xs : Array Value) (sx : Str) (t : Tok) (ha : sx.cps.all (· < 128) = true) :
    Meets (Builtin.«zip.__new__» ⟨[.type "zip", .ref l1, .str sx t], []⟩) (fun _ R s => s.heap.IsList l1 xs ∧
      R (.ok (.ret (.ref (s.heap.objs.size + 4)))) { s with heap := ((((s.heap.push { cls := .type "list_iterator", data := .fields #[.ref l1, .int 0 0] }).push { cls := .type "str_ascii_iterator", data := .fields #[.str sx t, .int 0 0] }).push { cls := .type "tuple", data := .seq #[.ref s.heap.objs.size, .ref (s.heap.objs.size + 1)] }).push { cls := .type "tuple", data := .seq #[.none, .none] }).push { cls := .type "zip", data := .fields #[.none, .bool false, .bool false, .ref (s.heap.objs.size + 2), .ref (s.heap.objs.size + 3)] } }) :=
  .of_wp fun prog w A R s h => by
    obtain ⟨hp, g, d, tk, os⟩ := s; obtain ⟨hl1, h⟩ := h
    have hsub := sub_zip
    have hL1 : Heap.IsList (Shared.heap ⟨hp, g, d, tk, os⟩) l1 xs := hl1
    wp_walk using wpAny_pyIter_list hL1, wpAny_pyIter_ascii ha
    simp only [Heap.size_push] at h ⊢
    exact ⟨_, rfl, h⟩
section
variable {prog : Program} {w : World} {A : Around} {E : Value → Shared → Prop} {s : Shared}
theorem push5 (h : Heap) (o1 o2 o3 o4 o5 : Obj) (f1 : o1.isFreed = false) (f2 : o2.isFreed = false) (f3 : o3.isFreed = false) (f4 : o4.isFreed = false) (f5 : o5.isFreed = false) :
    (((((h.push o1).push o2).push o3).push o4).push o5).objs.size = h.objs.size + 5 ∧ (((((h.push o1).push o2).push o3).push o4).push o5).get? h.objs.size = some o1 ∧ (((((h.push o1).push o2).push o3).push o4).push o5).get? (h.objs.size + 1) = some o2 ∧
    (((((h.push o1).push o2).push o3).push o4).push o5).get? (h.objs.size + 2) = some o3 ∧ (((((h.push o1).push o2).push o3).push o4).push o5).get? (h.objs.size + 3) = some o4 ∧ (((((h.push o1).push o2).push o3).push o4).push o5).get? (h.objs.size + 4) = some o5 ∧
    ∀ c o, h.get? c = some o → (((((h.push o1).push o2).push o3).push o4).push o5).get? c = some o := by
  have z1 : (h.push o1).objs.size = h.objs.size + 1 := Heap.size_push ..
  have z2 : ((h.push o1).push o2).objs.size = h.objs.size + 2 := by rw [Heap.size_push, z1]
  have z3 : (((h.push o1).push o2).push o3).objs.size = h.objs.size + 3 := by rw [Heap.size_push, z2]
  have z4 : ((((h.push o1).push o2).push o3).push o4).objs.size = h.objs.size + 4 := by rw [Heap.size_push, z3]
  have up : ∀ (h : Heap) (o' : Obj) c o, h.get? c = some o → (h.push o').get? c = some o := fun h o' c o e => Heap.get?_push_of_some _ e
  refine ⟨by rw [Heap.size_push, z4], up _ _ _ _ (up _ _ _ _ (up _ _ _ _ (up _ _ _ _ (Heap.get?_push_size _ f1)))), ?_, ?_, ?_, ?_, fun c o e => up _ _ _ _ (up _ _ _ _ (up _ _ _ _ (up _ _ _ _ (up _ _ _ _ e))))⟩
  · rw [← z1]; exact up _ _ _ _ (up _ _ _ _ (up _ _ _ _ (Heap.get?_push_size _ f2)))
  · rw [← z2]; exact up _ _ _ _ (up _ _ _ _ (Heap.get?_push_size _ f3))
  · rw [← z3]; exact up _ _ _ _ (Heap.get?_push_size _ f4)
  · rw [← z4]; exact Heap.get?_push_size _ f5
theorem call_zipS {l1 : Addr} {xs : Array Value} {sx : Str} {t : Tok} {Q : Value → Shared → Prop} (hl1 : s.heap.IsList l1 xs) (ha : sx.cps.all (· < 128) = true)
    (h : ∀ h', IsZip h' (s.heap.objs.size + 4) (s.heap.objs.size + 2) (s.heap.objs.size + 3) .none → IsPair h' (s.heap.objs.size + 2) (.ref s.heap.objs.size) (.ref (s.heap.objs.size + 1)) →
      IsPair h' (s.heap.objs.size + 3) .none .none → h'.IsListIter s.heap.objs.size l1 0 → h'.IsStrIter (s.heap.objs.size + 1) "str_ascii_iterator" sx t 0 → h'.objs.size = s.heap.objs.size + 5 →
      (∀ c o, s.heap.get? c = some o → h'.get? c = some o) → Q (.ref (s.heap.objs.size + 4)) { s with heap := h' }) :
    wpAny (model prog w) A (call (.type "zip") [.ref l1, .str sx t]) Q E s := by
  refine callType_new F.called_zip (by decide) (F.typeCall_zip_2 _ _) (F.newCall_zip_2 _ _) (fun obj => F.args_object_init_3 obj _ _) F.entry_zip_new
    (zipS_new l1 xs sx t ha) ⟨hl1, ?_⟩
  obtain ⟨z5, g1, g2, g3, g4, g5, k⟩ := push5 s.heap { cls := .type "list_iterator", data := .fields #[.ref l1, .int 0 0] } { cls := .type "str_ascii_iterator", data := .fields #[.str sx t, .int 0 0] } { cls := .type "tuple", data := .seq #[.ref s.heap.objs.size, .ref (s.heap.objs.size + 1)] }
    { cls := .type "tuple", data := .seq #[.none, .none] } { cls := .type "zip", data := .fields #[.none, .bool false, .bool false, .ref (s.heap.objs.size + 2), .ref (s.heap.objs.size + 3)] } rfl rfl rfl rfl rfl
  exact ⟨⟨_, g5, rfl⟩, h _ g5 g3 g4 ⟨_, g1, rfl, rfl⟩ ⟨_, g2, rfl, rfl⟩ z5 k⟩
theorem Wk.tuples2 {elts : List Expr} {x1} {tp : Pos} {I : Addr} {fp wr wr' : List Addr} {n : Nat} {Pt : Nat → Array Value → Prop} {St : Nat → Heap → Prop} {Mid : Nat → Addr → Heap → Prop} (W : WalksT prog w A I fp wr n Pt St Mid) (hw : ∀ b ∈ wr, b ∈ wr') (own : ∀ i h, St i h → ∀ b ∈ wr', ∃ o, h.get? b = some o) :
    Wk prog w A (.Tuple elts x1 tp) I fp wr' n (fun i v h => ∃ T vals, v = .ref T ∧ h.IsTuple T vals ∧ Pt i vals) St :=
  { frame := W.frame, self := W.self, own := own
    done := fun s Q E st hQ => W.done s Q E st fun h' tk hk => hQ h' tk fun b o hb e => hk b o (fun q => hb (hw b q)) e
    item := fun i s Q Z E hi st hQ => W.item i s _ E hi st fun T vals h' tk hP _ hT hM hk => W.go _ _ _ _ _ _ _ _ hM fun h'' hst hk' =>
      hQ (.ref T) h'' tk ⟨T, vals, rfl, hT.at fun o e => hk' T o (W.apart _ _ _ hM) e, hP⟩ hst fun b o hb e => hk' b o (fun q => hb (hw b q)) (hk b o (fun q => hb (hw b q)) e) }
variable {elt target iter : Expr} {ifs : List Expr} {scope : Scope} {cl : List (Str × Addr)} {env : Env}
/-- a block over a zip of a list and a text -/
theorem zipS_comp {Fin : Addr → Addr → Shared → Prop} {elts : List Expr} {x1} {tp : Pos} {l1 : Addr} {items : Array Value} {sx : Str} {t : Tok} (hl : s.heap.IsList l1 items) (ha : sx.cps.all (· < 128) = true) (hsz : items.size ≤ sizeLine) (hle : items.size ≤ sx.cps.size)
    (J : Addr → Nat → List Value → (Str → Option Value) → List (Addr × Obj) → Prop) (h0 : CStart scope s.heap J)
    (step : CStep prog w A env elt (.Tuple elts x1 tp) ifs scope cl s s.heap items.size (fun i v h => ∃ T x c u, v = .ref T ∧ items[i]? = some x ∧ sx.cps[i]? = some c ∧ h.IsTuple T #[x, .str ⟨#[c]⟩ u]) J) (fin : CDone s.heap items.size J Fin s)
    (hh : A.handled = none := by rfl) : wpAny (model prog w) A (call (.type "zip") [.ref l1, .str sx t]) (CompX prog w A env elt (.Tuple elts x1 tp) ifs scope cl Fin) E s := by
  have hlt : l1 < s.heap.objs.size := by obtain ⟨_, e, _⟩ := hl; exact Heap.lt_size e
  refine call_zipS hl ha fun h' hz hTI hTO h1 h2 hs5 hk => ?_
  have lts : ∀ k, s.heap.objs.size + k ≠ l1 := fun k e => Nat.lt_irrefl _ (Nat.lt_of_lt_of_le (e ▸ hlt) (Nat.le_add_right _ k))
  have D : ZipApart (s.heap.objs.size + 4) (s.heap.objs.size + 2) (s.heap.objs.size + 3) s.heap.objs.size (s.heap.objs.size + 1) l1 l1 := by
    generalize hN : s.heap.objs.size = N at *
    have hlt' : @LT.lt Nat _ l1 N := hlt
    clear hl hz hTI hTO h1 h2 hs5 hk step fin h0 hsz hle lts
    constructor <;> (refine neN ?_; omega)
  have fresh : ∀ k, k < 5 → s.heap.get? (s.heap.objs.size + k) = none ∧ s.heap.objs.size + k < h'.objs.size := fun k hk5 => ⟨Heap.get?_none_of_le (Nat.le_add_right _ _), by rw [hs5]; exact Nat.add_lt_add_left hk5 _⟩
  refine wpAny_pyIter_zip hz ?_
  refine ⟨s.heap.objs.size + 4, _, [s.heap.objs.size + 4, s.heap.objs.size + 2, s.heap.objs.size + 3, s.heap.objs.size, s.heap.objs.size + 1], items.size, _, _, s.heap, J, rfl,
    Wk.tuples2 (walks_zipS hh _ _ _ _ _ l1 D items sx t hle) (fun b hb => by simp at hb ⊢; rcases hb with rfl | rfl | rfl | rfl <;> simp) (fun i h st b hb => ?_), hsz, ⟨hz, hTI, ⟨_, _, hTO⟩, h1, h2, hl.at fun o e => hk _ o e⟩, hk, by show s.heap.objs.size ≤ h'.objs.size; rw [hs5]; exact Nat.le_add_right _ _, ?_, ?_, h0, ?_, ⟨h', _, rfl⟩, fin⟩
  · obtain ⟨a1, a2, ⟨_, _, a3⟩, ⟨o1, a4, _⟩, ⟨o2, a5, _⟩, _⟩ := st
    simp at hb
    rcases hb with rfl | rfl | rfl | rfl | rfl
    · exact ⟨_, a1⟩
    · exact ⟨_, a2⟩
    · exact ⟨_, a3⟩
    · exact ⟨_, a4⟩
    · exact ⟨_, a5⟩
  · intro b hb
    simp at hb
    rcases hb with rfl | rfl | rfl | rfl | rfl
    · exact fresh 4 (by decide)
    · exact fresh 2 (by decide)
    · exact fresh 3 (by decide)
    · exact fresh 0 (by decide)
    · exact fresh 1 (by decide)
  · intro b hb
    simp at hb
    rcases hb with rfl | rfl | rfl | rfl | rfl | rfl
    · exact .inl (by simp)
    · exact .inl (by simp)
    · exact .inl (by simp)
    · exact .inl (by simp)
    · exact .inl (by simp)
    · obtain ⟨o, e, _⟩ := hl; exact .inr ⟨o, e⟩
  · rintro C i v ys m nw rest h tk hi hJ ⟨T, vals, rfl, hT, x, c, u, hx, hc, rfl⟩ F N hoff
    exact step C i _ ys m nw rest h tk hi hJ ⟨T, x, c, u, rfl, hx, hc, hT⟩ F N hoff
end

end
noncomputable section
section
variable {prog : Program} {w : World} {A : Around} {E : Value → Shared → Prop} {s : Shared}
variable {elt target iter : Expr} {ifs : List Expr} {scope : Scope} {cl : List (Str × Addr)} {env : Env}
/-- a block over a zip of two lists -/
theorem zipL_comp {Fin : Addr → Addr → Shared → Prop} {elts : List Expr} {x1} {tp : Pos} {l1 l2 : Addr} {xs ys₂ : Array Value} (hl : s.heap.IsList l1 xs) (hl2 : s.heap.IsList l2 ys₂) (hsz : xs.size ≤ sizeLine) (hle : xs.size = ys₂.size)
    (J : Addr → Nat → List Value → (Str → Option Value) → List (Addr × Obj) → Prop) (h0 : CStart scope s.heap J)
    (step : CStep prog w A env elt (.Tuple elts x1 tp) ifs scope cl s s.heap xs.size (fun i v h => ∃ T x y, v = .ref T ∧ xs[i]? = some x ∧ ys₂[i]? = some y ∧ h.IsTuple T #[x, y]) J) (fin : CDone s.heap xs.size J Fin s)
    (hh : A.handled = none := by rfl) : wpAny (model prog w) A (call (.type "zip") [.ref l1, .ref l2]) (CompX prog w A env elt (.Tuple elts x1 tp) ifs scope cl Fin) E s := by
  have hlt : l1 < s.heap.objs.size := by obtain ⟨_, e, _⟩ := hl; exact Heap.lt_size e
  have hlt2 : l2 < s.heap.objs.size := by obtain ⟨_, e, _⟩ := hl2; exact Heap.lt_size e
  refine call_zip_2 hl hl2 fun h' hz hTI hTO h1 h2 hs5 hk => ?_
  have D : ZipApart (s.heap.objs.size + 4) (s.heap.objs.size + 2) (s.heap.objs.size + 3) s.heap.objs.size (s.heap.objs.size + 1) l1 l2 := by
    generalize s.heap.objs.size = N at *
    have hlt' : @LT.lt Nat _ l1 N := hlt
    have hlt2' : @LT.lt Nat _ l2 N := hlt2
    clear hl hl2 hz hTI hTO h1 h2 hs5 hk step fin h0 hsz hle
    constructor <;> (refine neN ?_; omega)
  have fresh : ∀ k, k < 5 → s.heap.get? (s.heap.objs.size + k) = none ∧ s.heap.objs.size + k < h'.objs.size := fun k hk5 => ⟨Heap.get?_none_of_le (Nat.le_add_right _ _), by rw [hs5]; exact Nat.add_lt_add_left hk5 _⟩
  refine wpAny_pyIter_zip hz ?_
  have hmin : min xs.size ys₂.size = xs.size := by rw [← hle]; exact Nat.min_self _
  refine ⟨s.heap.objs.size + 4, _, [s.heap.objs.size + 4, s.heap.objs.size + 2, s.heap.objs.size + 3, s.heap.objs.size, s.heap.objs.size + 1], min xs.size ys₂.size, _, _, s.heap, J, rfl,
    Wk.tuples2 (WalksT.zip2 hh _ _ _ _ _ l1 l2 D xs ys₂) (fun b hb => by simp at hb ⊢; rcases hb with rfl | rfl | rfl | rfl <;> simp) (fun i h st b hb => ?_), by rw [hmin]; exact hsz, ⟨hz, hTI, ⟨_, _, hTO⟩, h1, h2, hl.at fun o e => hk _ o e, hl2.at fun o e => hk _ o e⟩, hk, by show s.heap.objs.size ≤ h'.objs.size; rw [hs5]; exact Nat.le_add_right _ _, ?_, ?_, h0, ?_, ⟨h', _, rfl⟩, by rw [hmin]; exact fin⟩
  · obtain ⟨a1, a2, ⟨_, _, a3⟩, ⟨o1, a4, _⟩, ⟨o2, a5, _⟩, _⟩ := st
    simp at hb
    rcases hb with rfl | rfl | rfl | rfl | rfl
    · exact ⟨_, a1⟩
    · exact ⟨_, a2⟩
    · exact ⟨_, a3⟩
    · exact ⟨_, a4⟩
    · exact ⟨_, a5⟩
  · intro b hb
    simp at hb
    rcases hb with rfl | rfl | rfl | rfl | rfl
    · exact fresh 4 (by decide)
    · exact fresh 2 (by decide)
    · exact fresh 3 (by decide)
    · exact fresh 0 (by decide)
    · exact fresh 1 (by decide)
  · intro b hb
    simp at hb
    rcases hb with rfl | rfl | rfl | rfl | rfl | rfl | rfl
    · exact .inl (by simp)
    · exact .inl (by simp)
    · exact .inl (by simp)
    · exact .inl (by simp)
    · exact .inl (by simp)
    · obtain ⟨o, e, _⟩ := hl; exact .inr ⟨o, e⟩
    · obtain ⟨o, e, _⟩ := hl2; exact .inr ⟨o, e⟩
  · rintro C i v ys m nw rest h tk hi hJ ⟨T, vals, rfl, hT, x, y, hx, hy, rfl⟩ F N hoff
    exact step C i _ ys m nw rest h tk (by rw [hmin] at hi; exact hi) hJ ⟨T, x, y, rfl, hx, hy, hT⟩ F N hoff
end
section
variable {prog : Program} {w : World} {A : Around} {E : Value → Shared → Prop} {s : Shared} {g : Heap} {C T : Addr} {m : Str → Option Value} {scope : Scope} {cl : List (Str × Addr)} {env : Env} {x y : Str} {px py pos : Pos} {x1 : Nat} {a b : Value} {Q : Unit → Shared → Prop}
/-- two targets of a block -/
theorem cmp_store2 (hh : A.handled = none) (F : Fr g C s.heap m) (hT : s.heap.IsTuple T #[a, b])
    (h : ∀ h' tk, Fr g C h' (fun z => if z = y then some b else if z = x then some a else m z) → (∀ b o, b ≠ C → s.heap.get? b = some o → h'.get? b = some o) → Q () { s with heap := h', toks := tk })
    (hk : (compEnvC scope cl C env).scope.kind = .function) (hl : (compEnvC scope cl C env).kindOf x = some .local) (hl2 : (compEnvC scope cl C env).kindOf y = some .local) :
    wpAny (model prog w) A (assign (.Tuple [.Name x px, .Name y py] x1 pos) (compEnvC scope cl C env) (.ref T)) Q E s := by
  refine PySem.wpAny_assign_Tuple hh hT rfl rfl fun h1 hx1 => ?_
  have k1 : ∀ b o, s.heap.get? b = some o → h1.get? b = some o := fun b o e => hx1 b o (Nat.ne_of_lt (Heap.lt_size e)) e
  have F1 := F.keeps k1
  refine PyProof.Rows.assignInOrder_cons ?_
  refine cmp_store (Q := fun _ s₁ => _) (s := { s with heap := h1 }) F1 (fun h2 F2 k2 => ?_) hk hl
  refine PyProof.Rows.assignInOrder_cons ?_
  refine cmp_store (s := { s with heap := h2, toks := _ }) F2 (fun h3 F3 k3 => ?_) hk hl2
  refine PyProof.Rows.assignInOrder_nil (h h3 _ F3 fun b o hb e => k3 b o hb (k2 b o hb (k1 b o e)))
end
theorem news_push {h₀ h : Heap} {L : Addr} {a : Addr × Obj} {cols rest : List (Addr × Obj)} (N : News h₀ L h ((a :: cols) ++ rest)) : News h₀ L h (a :: (rest ++ cols)) := fun p hp => by
  rcases List.mem_cons.mp hp with rfl | hp
  · exact N _ (.head _)
  · rcases List.mem_append.mp hp with hp | hp
    · exact N _ (List.mem_append_right _ hp)
    · exact N _ (List.mem_append_left _ (.tail _ hp))
theorem sl_all {x : List Nat} (h : ∀ c ∈ x, c < 128) : (sl x).cps.all (· < 128) = true := by
  rw [Array.all_eq_true]
  intro i hi
  have : (sl x).cps[i] ∈ x := by simp [sl]
  exact decide_eq_true (h _ this)
theorem getD_range {α : Type} {m j : Nat} {d : α} (f : Nat → α) (h : j < m) : ((List.range m).map f).getD j d = f j := by
  rw [List.getD_eq_getElem?_getD, List.getElem?_map, List.getElem?_range h]; rfl
-- rows of ints
inductive RowsAre : List (Addr × Obj) → List (List Int) → Prop
  | nil : RowsAre [] []
  | cons {a : Addr} {vs : List Value} {t : List Int} {rs : List (Addr × Obj)} {ts : List (List Int)} : IntsAre vs t → RowsAre rs ts → RowsAre ((a, LCg.lst vs) :: rs) (t :: ts)
theorem RowsAre.length {rs : List (Addr × Obj)} {ts : List (List Int)} (h : RowsAre rs ts) : rs.length = ts.length := by
  induction h with
  | nil => rfl
  | cons _ _ ih => simp [ih]
theorem RowsAre.snoc {rs : List (Addr × Obj)} {ts : List (List Int)} (h : RowsAre rs ts) {a : Addr} {vs : List Value} {t : List Int} (hv : IntsAre vs t) : RowsAre (rs ++ [(a, LCg.lst vs)]) (ts ++ [t]) := by
  induction h with
  | nil => exact .cons hv .nil
  | cons x _ ih => exact .cons x ih
theorem RowsAre.get {rs : List (Addr × Obj)} {ts : List (List Int)} (h : RowsAre rs ts) {i : Nat} {p : Addr × Obj} (e : rs[i]? = some p) : ∃ (hi : i < ts.length) (vs : List Value), p.2 = LCg.lst vs ∧ IntsAre vs ts[i] := by
  induction h generalizing i with
  | nil => cases e
  | @cons a vs t rs ts x _ ih =>
    cases i with
    | zero => injection e with e; subst e; exact ⟨Nat.zero_lt_succ _, vs, rfl, x⟩
    | succ i => obtain ⟨hi, r⟩ := ih e; exact ⟨Nat.succ_lt_succ hi, r⟩
theorem RowsAre.isRow {rs : List (Addr × Obj)} {ts : List (List Int)} (h : RowsAre rs ts) : ∀ q ∈ rs, ∃ vs, q.2 = LCg.lst vs := by
  induction h with
  | nil => exact fun _ h => nomatch h
  | cons _ _ ih =>
    intro q hq
    rcases List.mem_cons.mp hq with rfl | hq
    · exact ⟨_, rfl⟩
    · exact ih q hq
theorem rows_cell {h₀ h : Heap} {L : Addr} {news rs : List (Addr × Obj)} {ts : List (List Int)} (N : News h₀ L h news) (x : RowsAre rs ts) (hs : ∀ q ∈ rs, q ∈ news) {a : Addr} {o : Obj} {v : Option Value} (ha : (a, o) ∈ news) (ho : o.data = .cell v) : ∀ q ∈ rs, q.1 ≠ a := fun q hq e => by
  have h1 := (N q (hs q hq)).1
  have h2 := (N _ ha).1
  dsimp only at h2
  rw [e, h2] at h1
  injection h1 with h1
  obtain ⟨vs, h3⟩ := x.isRow q hq
  rw [h3] at h1
  rw [h1] at ho
  cases ho
theorem news_row {h₀ h : Heap} {L : Addr} {d c : Addr × Obj} {rws rest : List (Addr × Obj)} (N : News h₀ L h (d :: c :: (rws ++ rest))) : News h₀ L h ((c :: (rws ++ [d])) ++ rest) := fun p hp => by
  rcases List.mem_append.mp hp with hp | hp
  · rcases List.mem_cons.mp hp with rfl | hp
    · exact N _ (.tail _ (.head _))
    · rcases List.mem_append.mp hp with hp | hp
      · exact N _ (.tail _ (.tail _ (List.mem_append_left _ hp)))
      · rw [List.mem_singleton.mp hp]; exact N _ (.head _)
  · exact N _ (.tail _ (.tail _ (List.mem_append_right _ hp)))
theorem news_rows {h₀ h : Heap} {L : Addr} {d c : Addr × Obj} {rws rest : List (Addr × Obj)} (N : News h₀ L h (d :: ((c :: rws) ++ rest))) : News h₀ L h (d :: (rest ++ rws)) := fun p hp => by
  rcases List.mem_cons.mp hp with rfl | hp
  · exact N _ (.head _)
  · rcases List.mem_append.mp hp with hp | hp
    · exact N _ (.tail _ (List.mem_append_right _ hp))
    · exact N _ (.tail _ (List.mem_append_left _ (.tail _ hp)))
theorem list_cell {h₀ h : Heap} {L : Addr} {news : List (Addr × Obj)} (N : News h₀ L h news) {a b : Addr} {vs : List Value} {o : Obj} {v : Option Value} (ha : (a, LCg.lst vs) ∈ news) (hb : (b, o) ∈ news) (ho : o.data = .cell v) : @Ne Nat a b := fun e => by
  have h1 := (N _ ha).1
  have h2 := (N _ hb).1
  dsimp only at h1 h2
  rw [e, h2] at h1
  injection h1 with h1
  rw [h1] at ho
  cases ho

end
noncomputable section
theorem dat_tups {ts : List (Addr × Obj)} {ps : List (List Nat × List Nat)} (x : TupsAre ts ps) : ∀ {nw : List (Addr × Obj)}, (∀ q ∈ ts, q ∈ nw) → DatAll nw (ts.map fun q => Value.ref q.1) (ps.map fun p => Dat.tuple [Dat.str (sl p.1), Dat.str (sl p.2)]) := by
  induction x with
  | nil => exact fun _ => .nil
  | @cons T p tk tv n ts ps _ ih =>
    intro nw h
    exact .cons (.tuple (vs := [.str (sl p.1) tk, .str (sl p.2) tv]) (n := n) (h _ (.head _)) (.cons (.str _ _) (.cons (.str _ _) .nil))) (ih fun q hq => h q (.tail _ hq))
theorem dat_ok {ps : List (List Nat × List Nat)} (hp : ∀ p ∈ ps, (∀ c ∈ p.1, c < 128) ∧ ∀ c ∈ p.2, c < 128) : ∀ d ∈ ps.map (fun p => Dat.tuple [Dat.str (sl p.1), Dat.str (sl p.2)]), kqdOk 8 d = true := by
  intro d hd
  obtain ⟨p, hq, rfl⟩ := List.mem_map.mp hd
  have := hp p hq
  simp [kqdOk, strOk_sl this.1, strOk_sl this.2]
section
variable {prog : Program} {w : World} {A : Around} {E : Value → Shared → Prop} {s : Shared} {h₀ : Heap} {L a b : Addr} {news ts us : List (Addr × Obj)} {ps : List (List Nat × List Nat)} {ka kb : Nat} {Q : Value → Shared → Prop}
theorem eq_tups (N : News h₀ L s.heap news) (ma : (a, listOf (ts.map fun q => Value.ref q.1).toArray ka) ∈ news) (x : TupsAre ts ps) (sa : ∀ q ∈ ts, q ∈ news) (mb : (b, listOf (us.map fun q => Value.ref q.1).toArray kb) ∈ news) (y : TupsAre us ps) (sb : ∀ q ∈ us, q ∈ news)
    (hp : ∀ p ∈ ps, (∀ c ∈ p.1, c < 128) ∧ ∀ c ∈ p.2, c < 128) (hu : A.units + 64 < cLine) (h : Q (.bool true) s) : wpAny (model prog w) A (compareOp .Eq (.ref a) (.ref b)) Q E s := by
  refine kqd_eq N ma rfl rfl (dat_tups x sa) (fun _ h => h) mb rfl rfl (dat_tups y sb) (fun _ h => h) (dat_ok hp) (dat_ok hp) hu ?_
  simp only [decide_true, Bool.not_true]
  exact h
end
theorem dn1 {a d : Nat} (h : a + 1 < d) : a < d := Nat.lt_of_succ_lt h
theorem dn2 {a d : Nat} (h : a + 1 + 1 < d) : a < d := dn1 (dn1 h)
theorem dn3 {a d : Nat} (h : a + 1 + 1 + 1 < d) : a < d := dn1 (dn2 h)
theorem dn4 {a d : Nat} (h : a + 1 + 1 + 1 + 1 < d) : a < d := dn1 (dn3 h)

end
section
noncomputable def looseN : List Str := [Str.ofString "insort_right", Str.ofString "bisect_right", Str.ofString "bisect_left", Str.ofString "tspecials", Str.ofString "_name_disallowed_re", Str.ofString "_value_disallowed_re", Str.ofString "_formatparam"]
noncomputable def viewN : Program := { PySem.Challenge.rw_pe0272_02.row.prog with main := { PySem.Challenge.rw_pe0272_02.row.prog.main with body := [0, 1, 7, 8, 9, 10, 11, 13, 14, 15, 17, 19, 20, 21, 22, 23, 24, 25, 26].filterMap fun i => PySem.Challenge.rw_pe0272_02.row.prog.main.body[i]? } }
theorem said_ok : OpenLaw.wellSaid PySem.Challenge.rw_pe0272_02 = true := by
  unfold OpenLaw.wellSaid
  repeat' (with_reducible refine look_both ?_ ?_)
  all_goals try (unfold OpenRow.wellSaid; repeat' (with_reducible refine look_both ?_ ?_))
  all_goals try (unfold OpenRow.partSaid; repeat' (with_reducible refine look_both ?_ ?_))
  all_goals try (unfold looksOpen; repeat' (with_reducible refine look_both ?_ ?_))
  all_goals (decide +kernel)
local macro_rules | `(tactic| o_law) => `(tactic| refine holds_law said_ok fun said => ?_)
local macro_rules | `(tactic| o_head $H) => `(tactic| (
  refine holds_open (q := viewN) (loose := looseN) (Xt := fun s => xlAt viewN [] s && recOk (RowW.records (OpenRow.toRowW PySem.Challenge.rw_pe0272_02.row)) s) (XP := XL viewN []) (Yf := Hook.obs $H) (Ya := Hook.val $H) (YP := Hook.says $H) (N := 3114) ?hl (Hook.of $H) (Hook.keeps $H) (fun s e => xl_of s (Bool.and_eq_true_iff.mp e).1) XL.keeps (by rfl) (by rfl) (by rfl) (fun s e => recFacts_of (Bool.and_eq_true_iff.mp e).2) (by rfl) (by assumption) (by decide +kernel) ⟨rfl, rfl, rfl, rfl, rfl, by decide +kernel⟩ ?hw ?hc
  (case hl => (intro w; kernel_rfl))))
set_option maxHeartbeats 8000000 in
open_top hd2 for PySem.Challenge.rw_pe0272_02

end
-- small facts of order without a long proof
local macro_rules | `(tactic| omega) => `(tactic| first
  | (k_whole; with_reducible first
  | exact Nat.zero_le _ | exact Int.natCast_nonneg _ | exact om_lo1 _ _ | exact om_lo _ _ | exact om_z _ | exact om_nat _
  | exact om_hi1 (by assumption) | exact om_hi (by assumption) | exact om_hi5 (by assumption) (by assumption) | exact om_hi4 (by assumption) (by assumption) | exact om_hi3 (by assumption) (by assumption)
  | exact om_neg (by decide) | exact om_negL (by decide)
  | exact om_le (by assumption) (by decide) | exact om_leI (by assumption) (by decide) | exact om_leJ (by assumption) (by decide)
  | exact om_le2 (by assumption) (by assumption) (by decide) | exact om_leI2 (by assumption) (by assumption) (by decide) | exact om_leJ2 (by assumption) (by assumption) (by decide)
  | decide)
  | omega (config := {}))
local macro_rules | `(tactic| walk_at "CutP") => `(tactic| (dsimp only [CutP]))
-- a frame's map, written
local macro_rules | `(tactic| wtm_at "map") => `(tactic| first | exact fun _ => rfl | (refine' mp_put ?e9; (case e9 => wtm_at "map")))
local macro_rules | `(tactic| wtm_at "fr") => `(tactic| (refine' Fr_as ?F ?e ?e2; (case F => assumption); (case e => wtm_at "map"); (case e2 => exact rfl)))
-- into a def's body

-- the names that are known
local macro_rules | `(tactic| wtm_at "look") => `(tactic| first | exact List.forall_mem_nil _ | (refine' List.forall_mem_cons.mpr ⟨?a, ?b⟩; (case a => exact rfl); (case b => wtm_at "look")))
local macro_rules | `(tactic| wtm_at "frq") => `(tactic| (refine' Fr_mq ?F ?e; (case F => assumption); (case e => wtm_at "look")))
-- room for a call
local macro_rules | `(tactic| wtm_at "lt") => `(tactic| first | assumption | exact dn1 (by assumption) | exact dn2 (by assumption) | exact dn3 (by assumption) | exact dn4 (by assumption) | exact Nat.lt_succ_self _ | exact dn1 (Nat.lt_succ_self _) | exact dn2 (Nat.lt_succ_self _) | exact dn3 (Nat.lt_succ_self _))
local macro_rules | `(tactic| k_ne) => `(tactic| (refine neN ?_; (try dsimp only); first | exact Nat.ne_of_gt (by wtm_at "lt") | exact Nat.ne_of_lt (by wtm_at "lt") | assumption | exact Ne.symm (by assumption) | omega))
-- lists whose items are values
local macro_rules | `(tactic| walk_at "call builtin:len") => `(tactic| (k_here; (with_reducible show wpAny _ _ (call (Value.builtin "len") [Value.ref _]) _ _ _); (refine' PyProof.Rows.len_list ?l ?f ?_); (case l => is_list); (case f => (simp only [List.size_toArray]; omega)); (simp only [List.size_toArray])))
local macro_rules | `(tactic| walk_at "subscriptTail") => `(tactic| (k_here; (with_reducible show wpAny _ _ (subscriptTail _ _ (Value.ref _) (Value.int _ _)) _ _ _); (refine' KTb.item_list ?l ?s ?a ?b ?c ?_; (case l => is_list); (case s => assumption); (case a => omega); (case b => (simp only [List.length_map]; omega)); (case c => omega)); intro _ _))
-- the walk stops at a loop
local macro_rules | `(tactic| walk_at "exec While Compare cons nil") => `(tactic| (k_here; refine Stop.out ?_))
local macro_rules | `(tactic| walk_at "exec While BoolOp cons nil") => `(tactic| (k_here; refine Stop.out ?_))
local macro_rules | `(tactic| walk_at "exec For Name Call cons nil") => `(tactic| (k_here; refine Stop.out ?_))
local macro_rules | `(tactic| walk_at "exec For Name Name cons nil") => `(tactic| (k_here; refine Stop.out ?_))
local macro_rules | `(tactic| walk_at "exec For Name Subscript cons nil") => `(tactic| (k_here; refine Stop.out ?_))
local macro_rules | `(tactic| walk_at "exec For Tuple Attribute cons nil") => `(tactic| (k_here; refine Stop.out ?_))
local macro_rules | `(tactic| walk_at "exec For Name List cons nil") => `(tactic| (k_here; refine Stop.out ?_))
-- list comprehensions
local macro_rules | `(tactic| walk_at "eval ListComp") => `(tactic| (k_here; k_dflt (refine' listComp ?c ?k ?n ?_; (case c => with_unfolding_all rfl); (case k => exact rfl); (case n => decide))))
local macro_rules | `(tactic| walk_at "exec Assign cons ListComp") => `(tactic| (k_here; k_dflt (refine' listAssign ?w ?c ?k ?n ?_; (case w => with_unfolding_all rfl); (case c => with_unfolding_all rfl); (case k => exact rfl); (case n => decide))))
local macro_rules | `(tactic| walk_at "eval Name") => `(tactic| (k_here; (with_reducible show wpAny _ _ (eval (Expr.Name _ _) (compEnvC _ _ _ _)) _ _ _); k_dflt (first
  | (refine' cmp_own ?F ?v ?_ ?a ?b; (case F => k_asm); (case v => exact rfl); (case a => exact rfl); (case b => exact rfl))
  | (refine' cmp_cell ?F ?c ?g ?d ?_ ?a ?b; (case F => k_asm); (case c => exact rfl); (case g => assumption); (case d => first | assumption | exact rfl); (case a => exact rfl); (case b => exact rfl))
  | (refine' cmp_new ?N ?c ?m ?d ?_ ?a ?b; (case N => k_asm); (case c => exact rfl); (case m => k_mem); (case d => first | assumption | exact rfl); (case a => exact rfl); (case b => exact rfl))
  | (refine' cmp_free ?F ?c ?g ?d ?_ ?a ?b; (case F => k_asm); (case c => exact rfl); (case g => assumption); (case d => first | assumption | exact rfl); (case a => exact rfl); (case b => exact rfl)))))
local macro_rules | `(tactic| k_inst) => `(tactic| (refine' inst_of ?F ?I ?D; (case F => k_asm); (case I => assumption); (case D => assumption)))
local macro_rules | `(tactic| walk_at "call builtin:str.lower") => `(tactic| (k_here; (with_reducible show wpAny _ _ (call (Value.builtin "str.lower") [Value.str (sl _) _]) _ _ _); (refine' call_lower ?h ?l ?_; (case h => assumption); (case l => first | assumption | omega); intro _ _)))
local macro_rules | `(tactic| walk_at "call builtin:str.upper") => `(tactic| (k_here; (with_reducible show wpAny _ _ (call (Value.builtin "str.upper") [Value.str (sl _) _]) _ _ _); (refine' call_upper ?h ?l ?_; (case h => assumption); (case l => first | assumption | omega); intro _ _)))
local macro_rules | `(tactic| walk_at "delItem ref str") => `(tactic| (k_here; refine Stop.out ?_))
local macro_rules | `(tactic| k_all) => `(tactic| first | (refine' List.forall_mem_cons.mpr ⟨?a, ?b⟩; (case a => k_ne); (case b => k_all)) | assumption)
noncomputable section
theorem sub_pure (c d : Nat) (tx ty : Tok) (hc : c < 128) (hd : d < 128) : Pure Mine.hd2.heap_1 PySem.Challenge.rw_pe0272_02.row.prog 72 1 ⟨[.str (sl [c]) tx, .str (sl [d]) ty], []⟩ (fun _ _ => True) (fun r _ => ∃ t, r = .int (subc c d : Nat) t) := by
  unfold Pure
  intro w p loose mean mg mb dp un fr gd s Q E X T _ hdp hun hret
  dsimp only at hret
  have hl1 : (sl [c]).length = 1 := sl_length _
  have hl2 : (sl [d]).length = 1 := sl_length _
  w_top off; revert X; k_fill; intro X
  (k_dflt (refine' enterS (args := ⟨_, _⟩) [] ?hS ?kX ?kT ?k6 ?k7 ?k8 ?k9 ?kB ?_ ?c2 ?c3 ?c4 ?c5; (case hS => exact List.forall_mem_nil _); (case kX => assumption); (case kT => assumption); (case k6 => k_is); (case k7 => k_is); (case k8 => (dsimp only [Ar]; omega)); (case k9 => first | exact BindsTo.of_eq rfl | exact binds_K (by k_in) rfl (by k_is) rfl rfl rfl | (refine' kp_binds ?kx ?ke; (case kx => k_in); (case ke => exact fun _ => rfl))); (case c5 => decide); (case kB => exact locs rfl); (case c2 => exact rfl); (case c3 => exact rfl); (case c4 => exact rfl); k_whole))
  intro g L' h' hg F' N' X' T' _
  dsimp only
  k_steps
  all_goals (refine ret_int (s := s) hret ?_ (by (refine' stays_of ?h1 ?h2; (case h1 => assumption); (case h2 => assumption))))
  all_goals (simp only [sl_beq, lower_one hc, lower_one hd, decide_eq_true_eq, decide_eq_false_iff_not, List.cons.injEq, and_true] at *; simp only [subc]; simp [*])

end
section
local macro_rules | `(tactic| walk_at "eval Subscript") => `(tactic| (k_here; (with_reducible show wpAny _ _ (eval (Expr.Subscript _ (Expr.Slice none (some (Expr.BoolOp BoolOp.Or _ _)) none _) _) _) _ _ _); k_dflt (refine' cutTo ?F ?N ?x ?y ?v ?k ?l ?_; (case F => k_asm); (case N => k_asm); (case x => exact rfl); (case y => exact rfl); (case v => assumption); (case k => assumption); (case l => assumption); intro _ _ _ _ _ _)))
theorem take_succ_eq {a b : List Nat} {i : Nat} (h : a.take i = b.take i) (h1 : i < a.length) (h2 : i < b.length) (e : a[i] = b[i]) : a.take (i + 1) = b.take (i + 1) := by
  rw [List.take_add_one, List.take_add_one, h, List.getElem?_eq_getElem h1, List.getElem?_eq_getElem h2, e]
theorem drop_pred_eq {a b : List Nat} {k : Nat} (h : a.drop (a.length - k) = b.drop (b.length - k)) (h1 : k < a.length) (h2 : k < b.length) (e : a[a.length - (k + 1)] = b[b.length - (k + 1)]) :
    a.drop (a.length - (k + 1)) = b.drop (b.length - (k + 1)) := by
  have e1 : a.length - (k + 1) + 1 = a.length - k := by rw [Nat.sub_succ]; exact Nat.succ_pred_eq_of_pos (Nat.sub_pos_of_lt h1)
  have e2 : b.length - (k + 1) + 1 = b.length - k := by rw [Nat.sub_succ]; exact Nat.succ_pred_eq_of_pos (Nat.sub_pos_of_lt h2)
  have f1 : a.length - (k + 1) < a.length := Nat.sub_lt (Nat.zero_lt_of_lt h1) (Nat.succ_pos k)
  have f2 : b.length - (k + 1) < b.length := Nat.sub_lt (Nat.zero_lt_of_lt h2) (Nat.succ_pos k)
  rw [List.drop_eq_getElem_cons f1, List.drop_eq_getElem_cons (i := b.length - (k + 1)) f2, e1, e2, h, e]

noncomputable abbrev lv1 (a b : List Nat) (tx ty tz : Tok) (v : Value) : List (Str × Value) := [(Str.ofString "max_cost", .int 99 tz), (Str.ofString "b", .str (sl b) ty), (Str.ofString "a", .str (sl a) tx), (Str.ofString "pre", v)]
noncomputable abbrev lv2 (a b : List Nat) (tx ty tz : Tok) (v u : Value) : List (Str × Value) := [(Str.ofString "max_cost", .int 99 tz), (Str.ofString "b", .str (sl b) ty), (Str.ofString "a", .str (sl a) tx), (Str.ofString "pre", v), (Str.ofString "post", u)]

/-- the row behind j signs of b, and within the next one -/
noncomputable def dpRow (a b : List Nat) (j : Nat) : List Int := (List.range a.length).map fun k => ((cost (b.take j) (a.take (k + 1)) : Nat) : Int)
noncomputable def mixRow (a b : List Nat) (j i : Nat) : List Int := (List.range a.length).map fun k => if k < i then ((cost (b.take (j + 1)) (a.take (k + 1)) : Nat) : Int) else ((cost (b.take j) (a.take (k + 1)) : Nat) : Int)
theorem dpRow_zero (a b : List Nat) : dpRow a b 0 = (List.range a.length).map fun i : Nat => (2 : Int) + (i : Int) * 2 := by
  unfold dpRow
  refine List.map_congr_left fun k hk => ?_
  have : k < a.length := List.mem_range.mp hk
  rw [List.take_zero, cost_nil, List.length_take]; omega
theorem mixRow_zero (a b : List Nat) (j : Nat) : mixRow a b j 0 = dpRow a b j := by
  unfold mixRow dpRow
  refine List.map_congr_left fun k hk => ?_
  rw [if_neg (Nat.not_lt_zero _)]
theorem mixRow_all (a b : List Nat) (j : Nat) : mixRow a b j a.length = dpRow a b (j + 1) := by
  unfold mixRow dpRow
  refine List.map_congr_left fun k hk => ?_
  rw [if_pos (List.mem_range.mp hk)]
theorem mixRow_at (a b : List Nat) (j i : Nat) (h : i < a.length) : (mixRow a b j i).getD i 0 = ((cost (b.take j) (a.take (i + 1)) : Nat) : Int) := by
  simp [mixRow, List.getD_eq_getElem?_getD, h]
theorem mixRow_length (a b : List Nat) (j i : Nat) : (mixRow a b j i).length = a.length := by simp [mixRow]
theorem mixRow_set (a b : List Nat) (j i : Nat) (h : i < a.length) : (mixRow a b j i).set i ((cost (b.take (j + 1)) (a.take (i + 1)) : Nat) : Int) = mixRow a b j (i + 1) := by
  apply List.ext_getElem?
  intro k
  rw [List.getElem?_set]
  by_cases hk : i = k
  · subst hk
    rw [if_pos rfl, if_pos (by rw [mixRow_length]; exact h)]
    simp [mixRow, h]
  · rw [if_neg hk]
    unfold mixRow
    rw [List.getElem?_map, List.getElem?_map]
    by_cases hkn : k < a.length
    · rw [List.getElem?_range hkn]
      simp only [Option.map_some]
      by_cases h1 : k < i
      · rw [if_pos h1, if_pos (by omega)]
      · rw [if_neg h1, if_neg (by omega)]
    · rw [List.getElem?_eq_none (by simpa using hkn)]; rfl
theorem step_cost (a b : List Nat) (j i : Nat) (hj : j < b.length) (hi : i < a.length) : cost (b.take (j + 1)) (a.take (i + 1)) =
    min (subc b[j] a[i] + cost (b.take j) (a.take i)) (min (2 + cost (b.take j) (a.take (i + 1))) (2 + cost (b.take (j + 1)) (a.take i))) := by
  have e1 : b.take (j + 1) = b.take j ++ [b[j]] := by rw [List.take_add_one, List.getElem?_eq_getElem hj]; rfl
  have e2 : a.take (i + 1) = a.take i ++ [a[i]] := by rw [List.take_add_one, List.getElem?_eq_getElem hi]; rfl
  rw [e1, e2, cost_snoc]
theorem ite_min (x y : Int) : (if y < x then y else x) = min x y := by split <;> omega
/-- what stands in 'result' at the i-th sign -/
noncomputable def resAt (a b : List Nat) (j i : Nat) : Int := if i = 0 then 2 * (j : Int) else ((cost (b.take (j + 1)) (a.take i) : Nat) : Int)
theorem int_min (a b : Nat) : min (a : Int) (b : Int) = ((min a b : Nat) : Int) := by omega
theorem min4 (s A B C : Nat) : min (min (C : Int) (B : Int) + 2) ((A : Int) + (s : Int)) = ((min (s + A) (min (2 + B) (2 + C)) : Nat) : Int) := by
  rw [int_min, ← Int.natCast_add, show ((min C B : Nat) : Int) + 2 = ((min C B + 2 : Nat) : Int) from rfl, int_min, Nat.min_comm, Nat.add_comm A s, Nat.min_comm C B, ← Nat.add_min_add_right, Nat.add_comm B 2, Nat.add_comm C 2]
theorem min5 (s j B : Nat) (h : s ≤ 2) : min (min (2 * (j : Int)) (B : Int) + 2) (((2 * j : Nat) : Int) + (s : Int)) = ((min (s + 2 * j) (min (2 + B) (2 + 2 * (j + 1))) : Nat) : Int) := by
  have e : ∀ X, s + 2 * j ≤ X → min (s + 2 * j) (min (2 + B) X) = min (s + 2 * j) (2 + B) := fun X hX => by rw [Nat.min_comm (2 + B) X, ← Nat.min_assoc, Nat.min_eq_left hX]
  have h1 : s + 2 * j ≤ 2 + 2 * j := Nat.add_le_add_right h _
  have h2 : s + 2 * j ≤ 2 + 2 * (j + 1) := Nat.le_trans h1 (Nat.add_le_add_left (Nat.mul_le_mul_left 2 (Nat.le_succ j)) 2)
  have := min4 s (2 * j) B (2 * j)
  rw [e _ h1] at this
  rw [e _ h2]
  exact this
theorem resAt_step (a b : List Nat) (j i : Nat) (hj : j < b.length) (hi : i < a.length) (su : Int) (hsu : su = ((cost (b.take j) (a.take i) : Nat) : Int) + ((subc b[j] a[i] : Nat) : Int)) :
    min (min (resAt a b j i) ((cost (b.take j) (a.take (i + 1)) : Nat) : Int) + 2) su = ((cost (b.take (j + 1)) (a.take (i + 1)) : Nat) : Int) := by
  have h := step_cost a b j i hj hi
  unfold resAt
  by_cases h0 : i = 0
  · subst h0
    rw [if_pos rfl]
    rw [List.take_zero, cost_nil_r, cost_nil_r, List.length_take, List.length_take, Nat.min_eq_left (Nat.le_of_lt hj), Nat.min_eq_left hj] at h
    rw [List.take_zero, cost_nil_r, List.length_take, Nat.min_eq_left (Nat.le_of_lt hj)] at hsu
    rw [hsu, h]
    exact min5 _ _ _ (subc_le _ _)
  · rw [if_neg h0, hsu, h]
    exact min4 _ _ _ _
theorem cost_le40 (a b : List Nat) (ha : a.length ≤ 20) (hb : b.length ≤ 20) (j i : Nat) : cost (b.take j) (a.take i) ≤ 40 := by
  have := cost_bound (b.take j) (a.take i)
  have h1 : (b.take j).length ≤ 20 := by rw [List.length_take]; omega
  have h2 : (a.take i).length ≤ 20 := by rw [List.length_take]; omega
  omega

theorem lev_pure (a b : List Nat) (tx ty tz : Tok) (ha : ∀ c ∈ a, c < 128) (hb : ∀ c ∈ b, c < 128) (hal : a.length ≤ 20) (hbl : b.length ≤ 20) :
    Pure Mine.hd2.heap_1 PySem.Challenge.rw_pe0272_02.row.prog 79 2 ⟨[.str (sl a) tx, .str (sl b) ty, .int 99 tz], []⟩ (fun _ _ => True) (fun r _ => ∃ t, r = .int (cost a b : Nat) t) := by
  unfold Pure
  intro w p loose mean mg mb dp un fr gd s Q E X T _ hdp hun hret
  dsimp only at hret
  have hl1 : (sl a).length = a.length := sl_length _
  have hl2 : (sl b).length = b.length := sl_length _
  w_top off; revert X; k_fill; intro X
  (k_dflt (refine' enterS (args := ⟨_, _⟩) [] ?hS ?kX ?kT ?k6 ?k7 ?k8 ?k9 ?kB ?_ ?c2 ?c3 ?c4 ?c5; (case hS => exact List.forall_mem_nil _); (case kX => assumption); (case kT => assumption); (case k6 => k_is); (case k7 => k_is); (case k8 => (dsimp only [Ar]; omega)); (case k9 => first | exact BindsTo.of_eq rfl | exact binds_K (by k_in) rfl (by k_is) rfl rfl rfl | (refine' kp_binds ?kx ?ke; (case kx => k_in); (case ke => exact fun _ => rfl))); (case c5 => decide); (case kB => exact locs rfl); (case c2 => exact rfl); (case c3 => exact rfl); (case c4 => exact rfl); k_whole))
  intro g L' h' hg F' N' X' T' _
  dsimp only
  replace F' : Fr g L' h' (mp [(Str.ofString "max_cost", .int 99 tz), (Str.ofString "b", .str (sl b) ty), (Str.ofString "a", .str (sl a) tx)]) := Fr_eqv F' fun _ => rfl
  refine cut (fun s' => ∃ t h1 tk1, s' = { s with heap := h1, toks := tk1 } ∧ Fr g L' h1 (mp (lv1 a b tx ty tz (.int 0 t))) ∧ News g L' h1 []) 2 ?_ ?_
  · dsimp only [List.take]
    k_fold
    k_steps
    · refine ret_int (s := s) hret ?_ (by (refine' stays_of ?h1 ?h2; (case h1 => assumption); (case h2 => assumption)))
      simp only [sl_beq, decide_eq_true_eq] at *
      subst_vars; rw [cost_self]; rfl
    · unfold Hit
      refine' ⟨_, _, _, rfl, ?F, by assumption⟩
      case F => wtm_at "fr"
  rintro _ ⟨t, h1, tk1, rfl, F1, N1⟩
  clear F' N'
  dsimp only [List.drop]
  refine cutO (fun s' => ∃ i t h1 tk1, s' = { s with heap := h1, toks := tk1 } ∧ Fr g L' h1 (mp (lv1 a b tx ty tz (.int (i : Nat) t))) ∧ News g L' h1 [] ∧ i ≤ a.length ∧ i ≤ b.length ∧ a.take i = b.take i) 1 ?_ ?_
  · intro P' hP'; dsimp only [List.take]
    refine wpAny_execs_cons ?_
    refine While_inv2 (fun n m nw => ∃ i t, m = mp (lv1 a b tx ty tz (.int (i : Nat) t)) ∧ nw = [] ∧ i ≤ a.length ∧ i ≤ b.length ∧ a.take i = b.take i ∧ n = a.length - i) F1 N1 ⟨0, t, rfl, rfl, by omega, by omega, by simp, rfl⟩ ?_
    rintro n m₁ nw h₁ tk₁ F₁ N₁ ⟨i, t, rfl, rfl, hi1, hi2, hi3, rfl⟩
    clear F1 N1
    (try k_fold)
    k_steps
    · have e1 : i < a.length := by simp only [slice_from _ _ hi1, sl_length, List.length_drop] at *; omega
      have e2 : i < b.length := by simp only [slice_from _ _ hi2, sl_length, List.length_drop] at *; omega
      simp only [item_sl _ _ e1, item_sl _ _ e2, sl_beq, decide_eq_true_eq, List.cons.injEq, and_true] at *
      refine' ⟨_, _, _, _, a.length - (i + 1), rfl, ?F, by assumption, om_sub e1, i + 1, _, rfl, rfl, e1, e2, take_succ_eq hi3 e1 e2 (by assumption), rfl⟩
      case F => wtm_at "fr"
    all_goals (refine hP' _ ?_; refine' ⟨_, _, _, _, rfl, by assumption, by assumption, by assumption, by assumption, by assumption⟩)
  rintro _ ⟨i, t, h1, tk1, rfl, F1, N1, hi1, hi2, hi3⟩
  dsimp only [List.drop]
  obtain ⟨pr, a1, b1, ea, eb, hpl⟩ : ∃ pr a1 b1 : List Nat, a = pr ++ a1 ∧ b = pr ++ b1 ∧ pr.length = i := ⟨a.take i, a.drop i, b.drop i, by simp, by rw [hi3]; simp, by simp; omega⟩
  refine cutO (fun s' => ∃ tx ty t u h1 tk1, s' = { s with heap := h1, toks := tk1 } ∧ Fr g L' h1 (mp (lv2 a1 b1 tx ty tz (.int (i : Nat) t) (.int 0 u))) ∧ News g L' h1 []) 3 ?_ ?_
  · intro P' hP'; dsimp only [List.take]
    (try k_fold)
    k_steps
    refine hP' _ ?_
    have hd1 : Txt.slice (sl a) (some (i : Int)) none = sl a1 := by rw [slice_from _ _ hi1, ea, ← hpl]; simp
    have hd2 : Txt.slice (sl b) (some (i : Int)) none = sl b1 := by rw [slice_from _ _ hi2, eb, ← hpl]; simp
    simp only [hd1, hd2] at *
    refine' ⟨_, _, _, _, _, _, rfl, ?F, by assumption⟩
    case F => wtm_at "fr"
  rintro _ ⟨tx1, ty1, t1, u1, h1', tk1', rfl, F2, N2⟩
  clear F1 N1 hi3
  have hc1 : cost a b = cost a1 b1 := by rw [ea, eb, cost_pre]
  have hal1 : a1.length ≤ 20 := by have := congrArg List.length ea; simp at this; exact om_app this hal
  have hbl1 : b1.length ≤ 20 := by have := congrArg List.length eb; simp at this; exact om_app this hbl
  have hl3 : (sl a1).length = a1.length := sl_length _
  have hl4 : (sl b1).length = b1.length := sl_length _
  dsimp only [List.drop]
  refine cutO (fun s' => ∃ k v u h1 tk1, s' = { s with heap := h1, toks := tk1 } ∧ Fr g L' h1 (mp (lv2 a1 b1 tx1 ty1 tz (.int (i : Nat) t1) (.int v u))) ∧ News g L' h1 [] ∧ v = -(k : Nat) ∧ k ≤ a1.length ∧ k ≤ b1.length ∧ a1.drop (a1.length - k) = b1.drop (b1.length - k)) 1 ?_ ?_
  · intro P' hP'; dsimp only [List.take]
    refine wpAny_execs_cons ?_
    refine While_inv2 (fun n m nw => ∃ k v u, m = mp (lv2 a1 b1 tx1 ty1 tz (.int (i : Nat) t1) (.int v u)) ∧ nw = [] ∧ v = -(k : Nat) ∧ k ≤ a1.length ∧ k ≤ b1.length ∧ a1.drop (a1.length - k) = b1.drop (b1.length - k) ∧ n = a1.length - k) F2 N2 ⟨0, 0, u1, rfl, rfl, by omega, by omega, by omega, by simp, rfl⟩ ?_
    rintro n m₁ nw h₁ tk₁ F₁ N₁ ⟨k, v, u, rfl, rfl, hv, hk1, hk2, hk3, rfl⟩
    clear F2 N2
    (try k_fold)
    k_steps
    · have e1 : k < a1.length := by simp only [sl_length, List.length_take] at *; exact om_take hk1 (by assumption)
      have e2 : k < b1.length := by simp only [sl_length, List.length_take] at *; exact om_take hk2 (by assumption)
      simp only [item_neg a1 (k + 1) (Nat.succ_pos _) e1 (v - 1) (om_negs hv), item_neg b1 (k + 1) (Nat.succ_pos _) e2 (v - 1) (om_negs hv), sl_beq, decide_eq_true_eq, List.cons.injEq, and_true] at *
      refine' ⟨_, _, _, _, a1.length - (k + 1), rfl, ?F, by assumption, om_sub e1, k + 1, v - 1, _, rfl, rfl, om_negs hv, e1, e2, drop_pred_eq hk3 e1 e2 (by assumption), rfl⟩
      case F => wtm_at "fr"
    all_goals (refine hP' _ ?_; refine' ⟨_, _, _, _, _, rfl, by assumption, by assumption, by assumption, by assumption, by assumption, by assumption⟩)
  rintro _ ⟨k, v, u, h2', tk2', rfl, F3, N3, hv, hk1, hk2, hk3⟩
  clear F2 N2
  dsimp only [List.drop]
  have hc2 : cost a1 b1 = cost (a1.take (a1.length - k)) (b1.take (b1.length - k)) := by
    have e1 : a1 = a1.take (a1.length - k) ++ a1.drop (a1.length - k) := (List.take_append_drop _ _).symm
    have e2 : b1 = b1.take (b1.length - k) ++ a1.drop (a1.length - k) := by rw [hk3]; exact (List.take_append_drop _ _).symm
    conv => lhs; rw [e1, e2]
    rw [cost_suf]
  refine cutO (fun s' => ∃ tx ty h1 tk1, s' = { s with heap := h1, toks := tk1 } ∧ Fr g L' h1 (mp (lv2 (a1.take (a1.length - k)) (b1.take (b1.length - k)) tx ty tz (.int (i : Nat) t1) (.int v u))) ∧ News g L' h1 []) 2 ?_ ?_
  · intro P' hP'; dsimp only [List.take]
    (try k_fold)
    k_steps
    refine hP' _ ?_
    refine' ⟨_, _, _, _, rfl, ?F, by assumption⟩
    case F => wtm_at "fr"
  rintro _ ⟨tx2, ty2, h3', tk3', rfl, F4, N4⟩
  clear F3 N3
  dsimp only [List.drop]
  obtain ⟨a2, ea2⟩ : ∃ a2, a2 = a1.take (a1.length - k) := ⟨_, rfl⟩
  obtain ⟨b2, eb2⟩ : ∃ b2, b2 = b1.take (b1.length - k) := ⟨_, rfl⟩
  rw [← ea2, ← eb2] at F4 hc2
  have ha2 : (∀ c ∈ a2, c < 128) ∧ a2.length ≤ 20 := ⟨fun c hc => ha c (by rw [ea]; rw [ea2] at hc; exact List.mem_append_right _ (List.mem_of_mem_take hc)), by rw [ea2, List.length_take]; exact Nat.le_trans (Nat.min_le_right _ _) hal1⟩
  have hb2 : (∀ c ∈ b2, c < 128) ∧ b2.length ≤ 20 := ⟨fun c hc => hb c (by rw [eb]; rw [eb2] at hc; exact List.mem_append_right _ (List.mem_of_mem_take hc)), by rw [eb2, List.length_take]; exact Nat.le_trans (Nat.min_le_right _ _) hbl1⟩
  have hc3 : cost a b = cost a2 b2 := hc1.trans hc2
  have hl5 : (sl a2).length = a2.length := sl_length _
  have hl6 : (sl b2).length = b2.length := sl_length _
  have hab2 := ha2.2
  have hbb2 := hb2.2
  refine cut (fun s' => ∃ a3 b3 tx ty h1 tk1, s' = { s with heap := h1, toks := tk1 } ∧ Fr g L' h1 (mp (lv2 a3 b3 tx ty tz (.int (i : Nat) t1) (.int v u))) ∧ News g L' h1 [] ∧ cost a b = cost a3 b3 ∧ 1 ≤ a3.length ∧ a3.length ≤ b3.length ∧ b3.length ≤ 20 ∧ (∀ c ∈ a3, c < 128) ∧ (∀ c ∈ b3, c < 128)) 4 ?_ ?_
  · dsimp only [List.take]
    (try k_fold)
    clear hk1 hk2 hk3 hi1 hi2 hl1 hl2 hl3 hl4 hal hbl hal1 hbl1
    k_steps
    · unfold Hit
      refine' ⟨b2, a2, _, _, _, _, rfl, ?F, cb_drop (by assumption) (fun p hp => nomatch hp), by rw [hc3, cost_comm], by omega, by omega, by omega, hb2.1, ha2.1⟩
      case F => wtm_at "fr"
    · unfold Hit
      exact ⟨a2, b2, _, _, _, _, rfl, by assumption, by assumption, hc3, by omega, by omega, by omega, ha2.1, hb2.1⟩
    · refine ret_int (s := s) hret ?_ (by (refine' stays_of ?h1 ?h2; (case h1 => assumption); (case h2 => assumption)))
      have e : b2 = [] := List.length_eq_zero_iff.mp (by omega)
      rw [hc3, hl5, hl6, e, cost_nil_r]; simp
    · refine ret_int (s := s) hret ?_ (by (refine' stays_of ?h1 ?h2; (case h1 => assumption); (case h2 => assumption)))
      have e : a2 = [] := List.length_eq_zero_iff.mp (by omega)
      rw [hc3, hl5, hl6, e, cost_nil]; simp
  rintro _ ⟨a3, b3, tx3, ty3, h4', tk4', rfl, F5, N5, hc4, hn1, hn2, hn3, ha3, hb3⟩
  clear F4 N4 hl5 hl6 ha2 hb2 hc3 hc2 hc1 hk1 hk2 hk3 hi1 hi2 hl1 hl2 hl3 hl4 hal hbl hal1 hbl1 hab2 hbb2
  have hl1 : (sl a3).length = a3.length := sl_length _
  have hl2 : (sl b3).length = b3.length := sl_length _
  dsimp only [List.drop]
  have hsm : Builtin.Range.small 2 (2 * (((sl a3).length : Int) + 1)) 2 = true := small_any ⟨by omega, by omega⟩ ⟨by omega, by omega⟩ (.inr (.inl rfl))
  have hrn : Builtin.Range.rangeSize 2 (2 * (((sl a3).length : Int) + 1)) 2 = ((a3.length : Nat) : Int) := by
    unfold Builtin.Range.rangeSize
    rw [if_pos (by decide), if_pos (by omega)]
    omega
  refine cutO (fun s' => ∃ D us c t h1 tk1, s' = { s with heap := h1, toks := tk1 } ∧ Fr g L' h1 (mp (lv2 a3 b3 tx3 ty3 tz (.int (i : Nat) t1) (.int v u) ++ [(Str.ofString "row", .ref D), (Str.ofString "result", .int 0 t)])) ∧ News g L' h1 [(D, listOf (List.toArray us) c)] ∧
    IntsAre us ((List.range a3.length).map fun i => 2 + (i : Nat) * 2)) 2 ?_ ?_
  · intro P' hP'; dsimp only [List.take]
    (try k_fold)
    k_steps
    refine' list_range_any rfl ?F ?N ?r hsm hrn (Nat.le_trans (Nat.le_trans hn2 hn3) (Nat.le_of_ble_eq_true rfl)) ?_
    (case F => assumption)
    (case N => assumption)
    (case r => assumption)
    intro D us c h5 tk5 F6 N6 hD hI
    (try k_fold)
    k_steps
    refine hP' _ ?_
    refine' ⟨D, us, _, _, _, _, rfl, ?F, by assumption, hI⟩
    case F => wtm_at "fr"
  rintro _ ⟨D, us, c, t2, h5', tk5', rfl, F6, N6, hI⟩
  clear F5 N5 hsm hrn
  dsimp only [List.drop]
  refine wpAny_execs_cons ?_
  have e0 : (sl b3).length = b3.length := hl2
  clear ha hb ea eb hpl pr hl1 hl2 ea2 eb2 hv
  have hn4 := hn3
  have hl1 : (sl a3).length = a3.length := sl_length _
  have hl2 : (sl b3).length = b3.length := sl_length _
  refine for_range (h₀ := g) (a := 0) (b := ((sl b3).length : Int)) (c := 1) (n := b3.length) (fun j m nw => ∃ u us c res t, m = mq [(Str.ofString "max_cost", .int 99 tz), (Str.ofString "b", .str (sl b3) ty3), (Str.ofString "a", .str (sl a3) tx3), (Str.ofString "row", .ref D), (Str.ofString "result", .int res t)] u ∧
    nw = [(D, listOf (List.toArray us) c)] ∧ IntsAre us (dpRow a3 b3 j) ∧ (j = 0 ∨ res = ((cost (b3.take j) a3 : Nat) : Int))) rfl rfl (small_nat (by omega)) (size_nat (by first | rfl | assumption)) rfl rfl ?h ?turn ?done
  case h =>
    (try k_fold)
    k_steps
    unfold Hit2
    refine' ⟨_, _, _, _, _, _, _, _, rfl, rfl, ?r, ?F, ?N, _, us, c, 0, t2, rfl, rfl, ?I, .inl rfl⟩
    (case r => assumption)
    (case F => wtm_at "frq")
    (case N => assumption)
    (case I => rw [dpRow_zero]; exact hI)
  case done =>
    rintro m nw h tk ⟨u, us, c, res, t, rfl, rfl, hI, hr⟩ Fd Nd
    dsimp only
    (try k_fold)
    k_steps
    dsimp only
    refine ret_int (s := s) hret ?_ (by (refine' stays_of ?h1 ?h2; (case h1 => assumption); (case h2 => assumption)))
    rcases hr with h0 | rfl
    · omega
    · rw [List.take_length, hc4, cost_comm]
  case turn =>
    rintro j v t m nw It o h tk hj hv ⟨u, us, c, res, t', rfl, rfl, hI, hr⟩ hfr Ft Nt
    obtain rfl : v = (j : Int) := by omega
    clear F6 N6 hr hv
    simp only [List.forall_mem_cons, List.not_mem_nil, false_implies, implies_true, and_true] at hfr
    refine cutO (fun s' => ∃ u t1 t2 t3 t4 t5 h1 tk1, s' = { s with heap := h1, toks := tk1 } ∧ Fr g L' h1 (mq [(Str.ofString "max_cost", .int 99 tz), (Str.ofString "b", .str (sl b3) ty3), (Str.ofString "a", .str (sl a3) tx3), (Str.ofString "row", .ref D),
      (Str.ofString "bindex", .int (j : Nat) t1), (Str.ofString "bchar", .str (sl [b3[j]]) t2), (Str.ofString "distance", .int (2 * (j : Nat)) t3), (Str.ofString "result", .int (2 * (j : Nat)) t4), (Str.ofString "minimum", .int 9223372036854775807 t5)] u) ∧ News g L' h1 [(It, o), (D, listOf (List.toArray us) c)]) 3 ?_ ?_
    · intro P' hP'; dsimp only [List.take]
      (try k_fold)
      k_steps
      refine hP' _ ?_
      rename_i F9 N9
      simp only [item_sl _ _ hj, Int.mul_comm (j : Int) 2] at F9
      refine' ⟨_, _, _, _, _, _, _, _, rfl, ?F, by assumption⟩
      case F => wtm_at "frq"
    rintro _ ⟨u', t1, t2, t3, t4, t5, h1, tk1, rfl, F7, N7⟩
    clear Ft Nt
    dsimp only [List.drop]
    refine wpAny_execs_cons ?_
    refine for_range (h₀ := g) (L := L') (a := 0) (b := ((sl a3).length : Int)) (c := 1) (n := a3.length) (fun i m nw => ∃ u us c t2 t3 t4 t5 res mi, m = mq [(Str.ofString "max_cost", .int 99 tz), (Str.ofString "b", .str (sl b3) ty3), (Str.ofString "a", .str (sl a3) tx3), (Str.ofString "row", .ref D),
      (Str.ofString "bchar", .str (sl [b3[j]]) t2), (Str.ofString "distance", .int ((cost (b3.take j) (a3.take i) : Nat) : Int) t3), (Str.ofString "result", .int res t4), (Str.ofString "minimum", .int mi t5)] u ∧
      nw = [(It, o), (D, listOf (List.toArray us) c)] ∧ IntsAre us (mixRow a3 b3 j i) ∧ res = resAt a3 b3 j i ∧ (i = 0 ∨ mi ≤ 99)) rfl rfl (small_nat (by omega)) (size_nat (by first | rfl | assumption)) rfl rfl ?h ?turn ?done
    case h =>
      (try k_fold)
      k_steps
      unfold Hit2
      refine' ⟨_, _, _, _, _, _, _, _, rfl, rfl, ?r, ?F, ?N, _, us, c, t2, t3, t4, t5, 2 * (j : Nat), 9223372036854775807, rfl, rfl, ?I, rfl, .inl rfl⟩
      (case r => assumption)
      (case F => (rw [List.take_zero, cost_nil_r, List.length_take, Nat.min_eq_left (Nat.le_of_lt hj)]; wtm_at "frq"))
      (case N => assumption)
      (case I => rw [mixRow_zero]; exact hI)
    case done =>
      rintro m nw h tk ⟨u, us, c, t2, t3, t4, t5, res, mi, rfl, rfl, hI, hr, hm⟩ Fd Nd
      dsimp only
      (try k_fold)
      k_steps
      · refine' ⟨_, _, _, _, rfl, ?F, Nd, ?fresh, _, us, c, res, t4, rfl, rfl, ?I, .inr ?R⟩
        case F => wtm_at "frq"
        case fresh => simp only [List.forall_mem_cons, List.not_mem_nil, false_implies, implies_true, and_true]; exact hfr
        case I => rw [← mixRow_all]; exact hI
        case R => rw [hr]; unfold resAt; rw [if_neg (by omega), List.take_length]
    case turn =>
      rintro i v t m nw It2 o2 h tk hi hv ⟨u, us, c, t2, t3, t4, t5, res, mi, rfl, rfl, hI, hr, hm⟩ hfr2 Ft Nt
      obtain rfl : v = (i : Int) := by omega
      clear F7 N7 hv
      simp only [List.forall_mem_cons, List.not_mem_nil, false_implies, implies_true, and_true] at hfr2
      (try k_fold)
      k_steps
      rw [item_sl _ _ hi]
      have hml := mixRow_length a3 b3 j i
      have hma := mixRow_at a3 b3 j i hi
      refine' (sub_pure b3[j] a3[i] _ _ (hb3 _ (List.getElem_mem _)) (ha3 _ (List.getElem_mem _))).use ?F X' ?N T' trivial ?rm ?un ?_
      (case F => assumption)
      (case N => assumption)
      (case rm => (first | exact room3 (by assumption) (by decide) | exact room2 (by assumption) (by decide) | omega | (dsimp only [Ar, Around.deeper]; omega) | (simp only [depth_deeper, units_deeper]; dsimp only [Ar]; omega)))
      (case un => (first | exact room3 (by assumption) (by decide) | exact room2 (by assumption) (by decide) | omega | (dsimp only [Ar, Around.deeper]; omega) | (simp only [depth_deeper, units_deeper]; dsimp only [Ar]; omega)))
      rintro _ h8 tk8 F8 N8 _ ⟨t8, rfl⟩
      dsimp only
      (try k_fold)
      k_steps
      have hrs := resAt_step a3 b3 j i hj hi _ rfl
      simp only [ite_min, Int.toNat_natCast, hma, hr, hrs] at *
      clear hr hma
      have q1 := neN hfr2.1
      have q2 := neN hfr2.2
      have q3 := neN hfr
      have h40 := cost_le40 a3 b3 (by omega) hn3 (j + 1) (i + 1)
      refine' ksa_set ?F ?N ?U hI ?h0 ?h1 ?hf ?_
      (case F => assumption)
      (case N => assumption)
      (case U => k_upd)
      (case h0 => omega)
      (case h1 => omega)
      (case hf => omega)
      intro h9 F9 N9 hI9 _ _
      rw [Int.toNat_natCast, mixRow_set _ _ _ _ hi] at hI9
      (try k_fold)
      k_steps
      all_goals (
        refine' ⟨_, _, _, _, rfl, ?F, by assumption, ?fresh, _, _, _, _, _, _, _, _, _, rfl, rfl, hI9, ?res, .inr ?mi⟩
        (case F => wtm_at "frq")
        (case fresh => simp only [List.forall_mem_cons, List.not_mem_nil, false_implies, implies_true, and_true]; exact hfr2)
        (case res => unfold resAt; rw [if_neg (by omega)])
        (case mi => omega))

end
noncomputable section
/-- the place of a new item, found by halves -/
noncomputable def At (n : Nat) (below : Nat → Bool) (lo r : Nat) : Prop := lo ≤ r ∧ r ≤ n ∧ (∀ i, lo ≤ i → i < r → below i = true) ∧ ∀ i, r ≤ i → i < n → below i = false

-- the middle of two places
theorem md1 {lo hi : Nat} (h : (lo : Int) < hi) : (lo + hi) / 2 - lo < hi - lo := by omega
theorem md2 {lo hi : Nat} (h : (lo : Int) < hi) : hi - ((lo + hi) / 2 + 1) < hi - lo := by omega
theorem md3 {lo hi n : Nat} (h : (lo : Int) < hi) (k : hi ≤ n) : (lo + hi) / 2 < n := by omega
theorem md4 {lo hi : Nat} (h : (lo : Int) < hi) : (lo + hi) / 2 + 1 ≤ hi := by omega
theorem md5 {lo hi : Nat} (h : (lo : Int) < hi) : lo ≤ (lo + hi) / 2 := by omega
theorem md6 {lo hi l : Nat} (h : (lo : Int) < hi) (k : l ≤ lo) : l ≤ (lo + hi) / 2 + 1 := by omega
theorem md7 {lo hi n : Nat} (h : (lo : Int) < hi) (k : hi ≤ n) : (lo + hi) / 2 ≤ n := by omega
theorem md8 {lo hi : Nat} (h : ¬ (lo : Int) < hi) (k : lo ≤ hi) : lo = hi := by omega
theorem fdiv2 (a b : Nat) : ((a : Int) + b).fdiv 2 = (((a + b) / 2 : Nat) : Int) := by rw [Int.fdiv_eq_ediv_of_nonneg _ (by decide)]; omega
theorem stays_list' {h g : Heap} {l : Addr} {items : Array Value} (hg : ∀ b o, h.get? b = some o → b ∉ ([] : List Addr) → g.get? b = some o) (x : h.IsList l items) : g.IsList l items := let ⟨o, ho, r⟩ := x; ⟨o, hg l o ho List.not_mem_nil, r⟩

theorem getD_sl (xs : List (List Nat)) (k : Nat) (h : k < xs.length) : ((xs.map sl).getD ((k : Int).toNat) Str.empty).cps.toList = xs.getD k [] := by
  simp [List.getD_eq_getElem?_getD, h, sl]
theorem srt_le {xs : List (List Nat)} (hs : xs.Pairwise fun a b => ¬ b < a) {i j : Nat} (hij : i ≤ j) (hj : j < xs.length) : ¬ xs.getD j [] < xs.getD i [] := by
  rw [List.getD_eq_getElem?_getD, List.getD_eq_getElem?_getD, List.getElem?_eq_getElem hj, List.getElem?_eq_getElem (by omega)]
  simp only [Option.getD_some]
  by_cases e : i = j
  · subst e; exact List.lt_irrefl _
  · exact (List.pairwise_iff_getElem.mp hs) i j (by omega) hj (by omega)
theorem srt_lt {xs : List (List Nat)} (hs : xs.Pairwise fun a b => ¬ b < a) {x : List Nat} {i j : Nat} (hij : i ≤ j) (hj : j < xs.length) (h : xs.getD j [] < x) : xs.getD i [] < x :=
  List.lt_of_le_of_lt (List.not_lt.mp (srt_le hs hij hj)) h
theorem srt_gt {xs : List (List Nat)} (hs : xs.Pairwise fun a b => ¬ b < a) {x : List Nat} {i j : Nat} (hij : i ≤ j) (hj : j < xs.length) (h : x < xs.getD i []) : x < xs.getD j [] :=
  Decidable.byContradiction fun c => srt_le hs hij hj (List.lt_of_le_of_lt (List.not_lt.mp c) h)

theorem bl_core (args : List Value) (l : Addr) (vs : List Value) (xs : List (List Nat)) (x : List Nat) (tx tl : Tok) (lo : Nat)
    (ha : BindsF Mine.hd2.heap_1 65 ⟨args, []⟩ [(Str.ofString "a", .ref l), (Str.ofString "x", .str (sl x) tx), (Str.ofString "lo", .int (lo : Nat) tl), (Str.ofString "hi", .none), (Str.ofString "key", .none)])
    (hlo : lo ≤ xs.length) (hn : xs.length ≤ 100) (hS : StrsAre vs (xs.map sl)) (hs : xs.Pairwise fun a b => ¬ b < a) :
    Pure Mine.hd2.heap_1 PySem.Challenge.rw_pe0272_02.row.prog 65 2 ⟨args, []⟩ (fun _ h => h.IsList l vs.toArray) (fun r _ => ∃ k t, r = .int (k : Nat) t ∧ At xs.length (fun i => decide (xs.getD i [] < x)) lo k) := by
  unfold Pure
  intro w p loose mean mg mb dp un fr gd s Q E X T hl hdp hun hret
  dsimp only at hret
  have hlen : vs.length = xs.length := by simpa using hS.length
  w_top off; revert X; k_fill; intro X
  (k_dflt (refine' enterS (args := ⟨_, _⟩) [] ?hS ?kX ?kT ?k6 ?k7 ?k8 ?k9 ?kB ?_ ?c2 ?c3 ?c4 ?c5; (case hS => exact List.forall_mem_nil _); (case kX => assumption); (case kT => assumption); (case k6 => k_is); (case k7 => k_is); (case k8 => (dsimp only [Ar]; omega)); (case k9 => exact ‹BindsF _ _ _ _› _ _ _ _ _ (by k_is) _ (by assumption)); (case c5 => decide); (case kB => exact locs rfl); (case c2 => exact rfl); (case c3 => exact rfl); (case c4 => exact rfl); k_whole))
  intro g L' h' hg F' N' X' T' _
  (try dsimp only)
  have hlg := stays_list' hg hl
  refine cutO (fun s' => ∃ u v v2 t1 t2 h1 tk1, s' = { s with heap := h1, toks := tk1 } ∧ Fr g L' h1 (mq [(Str.ofString "a", .ref l), (Str.ofString "x", .str (sl x) tx), (Str.ofString "lo", .int v t1), (Str.ofString "hi", .int v2 t2), (Str.ofString "key", .none)] u) ∧ News g L' h1 [] ∧ v = (lo : Nat) ∧ v2 = (xs.length : Nat)) 2 ?_ ?_
  · intro P' hP'; dsimp only [List.take]
    (try k_fold)
    k_steps
    refine hP' _ ?_
    refine' ⟨_, _, _, _, _, _, _, rfl, ?F, by assumption, ?v, ?v2⟩
    (case F => wtm_at "frq")
    (case v => omega)
    (case v2 => omega)
  rintro _ ⟨u, v, v2, t1, t2, h1, tk1, rfl, F1, N1, rfl, rfl⟩
  clear F' N'
  dsimp only [List.drop]
  refine cutO (fun s' => ∃ u r t1 h1 tk1, s' = { s with heap := h1, toks := tk1 } ∧ Fr g L' h1 (mq [(Str.ofString "lo", .int (r : Nat) t1)] u) ∧ News g L' h1 [] ∧ At xs.length (fun i => decide (xs.getD i [] < x)) lo r) 1 ?_ ?_
  · intro P' hP'; dsimp only [List.take]
    refine wpAny_execs_cons (wpAny_If ?_)
    (try k_fold)
    k_steps
    unfold Stop
    refine While_inv2 (fun n m nw => ∃ (u : Str → Option Value) (lo1 hi1 : Nat) (t1 t2 : Tok), m = mq [(Str.ofString "a", .ref l), (Str.ofString "x", .str (sl x) tx), (Str.ofString "lo", .int (lo1 : Nat) t1), (Str.ofString "hi", .int (hi1 : Nat) t2)] u ∧ nw = [] ∧ lo ≤ lo1 ∧ lo1 ≤ hi1 ∧ hi1 ≤ xs.length ∧
      (∀ i, lo ≤ i → i < lo1 → xs.getD i [] < x) ∧ (∀ i, hi1 ≤ i → i < xs.length → ¬ xs.getD i [] < x) ∧ n = hi1 - lo1) F1 N1
      ⟨_, lo, xs.length, t1, t2, funext (mq_self (by wtm_at "look")), rfl, Nat.le_refl _, hlo, Nat.le_refl _, fun i a b => absurd b (Nat.not_lt.mpr a), fun i a b => absurd b (Nat.not_lt.mpr a), rfl⟩ ?_
    rintro n m₁ nw h₁ tk₁ F₁ N₁ ⟨u, lo1, hi1, t1, t2, rfl, rfl, hb1, hb2, hb3, hb4, hb5, rfl⟩
    (try k_fold)
    k_steps
    · simp only [fdiv2] at *
      (try k_fold)
      k_steps
      · have hm : (lo1 + hi1) / 2 < xs.length := md3 (by assumption) hb3
        rename (_ < (sl x).cps.toList) => hlt
        rw [getD_sl _ _ hm, sl_cps] at hlt
        refine' ⟨_, _, _, _, hi1 - ((lo1 + hi1) / 2 + 1), rfl, ?F, by assumption, md2 (by assumption), _, (lo1 + hi1) / 2 + 1, hi1, _, _, rfl, rfl, md6 (by assumption) hb1, md4 (by assumption), hb3, fun i a b => srt_lt hs (Nat.le_of_lt_succ b) hm hlt, hb5, rfl⟩
        (case F => wtm_at "frq")
      · have hm : (lo1 + hi1) / 2 < xs.length := md3 (by assumption) hb3
        rename (¬ _ < (sl x).cps.toList) => hlt
        rw [getD_sl _ _ hm, sl_cps] at hlt
        refine' ⟨_, _, _, _, (lo1 + hi1) / 2 - lo1, rfl, ?F, by assumption, md1 (by assumption), _, lo1, (lo1 + hi1) / 2, _, _, rfl, rfl, hb1, md5 (by assumption), Nat.le_of_lt hm, hb4, fun i a b c => hlt (srt_lt hs a b c), rfl⟩
        (case F => wtm_at "frq")
    · refine hP' _ ?_
      obtain rfl : lo1 = hi1 := by omega
      refine' ⟨_, lo1, _, _, _, rfl, ?F, by assumption, hb1, hb3, fun i a b => decide_eq_true (hb4 i a b), fun i a b => decide_eq_false (hb5 i a b)⟩
      (case F => wtm_at "frq")
  rintro _ ⟨u, r, t1, h1, tk1, rfl, F1, N1, hA⟩
  dsimp only [List.drop]
  (try k_fold)
  k_steps
  dsimp only
  exact hret _ _ _ (by (refine' stays_of ?h1 ?h2; (case h1 => assumption); (case h2 => assumption))) ⟨r, _, rfl, hA⟩

theorem bl_pure2 (l : Addr) (vs : List Value) (xs : List (List Nat)) (x : List Nat) (tx : Tok) (hn : xs.length ≤ 100) (hS : StrsAre vs (xs.map sl)) (hs : xs.Pairwise fun a b => ¬ b < a) :
    Pure Mine.hd2.heap_1 PySem.Challenge.rw_pe0272_02.row.prog 65 2 ⟨[.ref l, .str (sl x) tx], []⟩ (fun _ h => h.IsList l vs.toArray) (fun r _ => ∃ k t, r = .int (k : Nat) t ∧ At xs.length (fun i => decide (xs.getD i [] < x)) 0 k) :=
  bl_core _ l vs xs x tx 318 0 (by (unfold BindsF; intro P oc od osl fd ho s X; (have e := Eq.trans (Eq.symm ho) (by k_is)); (injection e with e; injection e with e1 e2 e3 e4; injection e3 with e3; subst e3); first | exact BindsTo.of_eq rfl | (refine' kp_binds ?kx ?ke; (case kx => assumption); (case ke => exact fun _ => rfl)))) (Nat.zero_le _) hn hS hs
end
noncomputable section
/-- x < v, for each v of a list -/
noncomputable def CmpLt (prog : Program) (w : World) (h : Heap) (xv : Value) (vs : List Value) (gt : Nat → Bool) : Prop :=
  ∀ (i : Nat) (v : Value) (A : Around) (s' : Shared) (Q : Value → Shared → Prop), vs[i]? = some v → A.handled = none → A.units + 8 < cLine → h.StaysIn s'.heap →
    (∀ h' tk', s'.heap.StaysIn h' → Q (.bool (gt i)) { s' with heap := h', toks := tk' }) → wpAny (model prog w) A (compareOp .Lt xv v) Q (fun _ _ => False) s'

theorem br_core (args : List Value) (l : Addr) (vs : List Value) (xv : Value) (gt : Nat → Bool) (tl : Tok) (lo : Nat)
    (ha : BindsF Mine.hd2.heap_1 56 ⟨args, []⟩ [(Str.ofString "a", .ref l), (Str.ofString "x", xv), (Str.ofString "lo", .int (lo : Nat) tl), (Str.ofString "hi", .none), (Str.ofString "key", .none)])
    (hlo : lo ≤ vs.length) (hn : vs.length ≤ 100) (hm : ∀ i j, i ≤ j → j < vs.length → gt i = true → gt j = true) :
    Pure Mine.hd2.heap_1 PySem.Challenge.rw_pe0272_02.row.prog 56 2 ⟨args, []⟩ (fun w h => h.IsList l vs.toArray ∧ CmpLt PySem.Challenge.rw_pe0272_02.row.prog w h xv vs gt) (fun r _ => ∃ k t, r = .int (k : Nat) t ∧ At vs.length (fun i => !(gt i)) lo k) := by
  unfold Pure
  intro w p loose mean mg mb dp un fr gd s Q E X T ⟨hl, hcmp⟩ hdp hun hret
  dsimp only at hret
  w_top off; revert X; k_fill; intro X
  (k_dflt (refine' enterS (args := ⟨_, _⟩) [] ?hS ?kX ?kT ?k6 ?k7 ?k8 ?k9 ?kB ?_ ?c2 ?c3 ?c4 ?c5; (case hS => exact List.forall_mem_nil _); (case kX => assumption); (case kT => assumption); (case k6 => k_is); (case k7 => k_is); (case k8 => (dsimp only [Ar]; omega)); (case k9 => exact ‹BindsF _ _ _ _› _ _ _ _ _ (by k_is) _ (by assumption)); (case c5 => decide); (case kB => exact locs rfl); (case c2 => exact rfl); (case c3 => exact rfl); (case c4 => exact rfl); k_whole))
  intro g L' h' hg F' N' X' T' _
  (try dsimp only)
  have hlg := stays_list' hg hl
  refine cutO (fun s' => ∃ u v v2 t1 t2 h1 tk1, s' = { s with heap := h1, toks := tk1 } ∧ Fr g L' h1 (mq [(Str.ofString "a", .ref l), (Str.ofString "x", xv), (Str.ofString "lo", .int v t1), (Str.ofString "hi", .int v2 t2), (Str.ofString "key", .none)] u) ∧ News g L' h1 [] ∧ v = (lo : Nat) ∧ v2 = (vs.length : Nat)) 2 ?_ ?_
  · intro P' hP'; dsimp only [List.take]
    (try k_fold)
    k_steps
    refine hP' _ ?_
    refine' ⟨_, _, _, _, _, _, _, rfl, ?F, by assumption, ?v, ?v2⟩
    (case F => wtm_at "frq")
    (case v => omega)
    (case v2 => omega)
  rintro _ ⟨u, v, v2, t1, t2, h1, tk1, rfl, F1, N1, rfl, rfl⟩
  clear F' N'
  dsimp only [List.drop]
  refine cutO (fun s' => ∃ u r t1 h1 tk1, s' = { s with heap := h1, toks := tk1 } ∧ Fr g L' h1 (mq [(Str.ofString "lo", .int (r : Nat) t1)] u) ∧ News g L' h1 [] ∧ At vs.length (fun i => !(gt i)) lo r) 1 ?_ ?_
  · intro P' hP'; dsimp only [List.take]
    refine wpAny_execs_cons (wpAny_If ?_)
    (try k_fold)
    k_steps
    unfold Stop
    refine While_inv2 (fun n m nw => ∃ (u : Str → Option Value) (lo1 hi1 : Nat) (t1 t2 : Tok), m = mq [(Str.ofString "a", .ref l), (Str.ofString "x", xv), (Str.ofString "lo", .int (lo1 : Nat) t1), (Str.ofString "hi", .int (hi1 : Nat) t2)] u ∧ nw = [] ∧ lo ≤ lo1 ∧ lo1 ≤ hi1 ∧ hi1 ≤ vs.length ∧
      (∀ i, lo ≤ i → i < lo1 → gt i = false) ∧ (∀ i, hi1 ≤ i → i < vs.length → gt i = true) ∧ n = hi1 - lo1) F1 N1
      ⟨_, lo, vs.length, t1, t2, funext (mq_self (by wtm_at "look")), rfl, Nat.le_refl _, hlo, Nat.le_refl _, fun i a b => absurd b (Nat.not_lt.mpr a), fun i a b => absurd b (Nat.not_lt.mpr a), rfl⟩ ?_
    rintro n m₁ nw h₁ tk₁ F₁ N₁ ⟨u, lo1, hi1, t1, t2, rfl, rfl, hb1, hb2, hb3, hb4, hb5, rfl⟩
    (try k_fold)
    k_steps
    · simp only [fdiv2] at *
      have hm1 : (lo1 + hi1) / 2 < vs.length := md3 (by assumption) hb3
      have hx : vs.toArray[(((lo1 + hi1) / 2 : Nat) : Int).toNat]? = some vs[(lo1 + hi1) / 2] := by rw [Int.toNat_natCast, List.getElem?_toArray]; exact List.getElem?_eq_getElem hm1
      refine' PyProof.Rows.item_list ?l ?a ?b hx ?_
      (case l => is_list)
      (case a => omega)
      (case b => omega)
      rename Fr g L' _ _ => F8
      rename News g L' _ _ => N8
      refine hcmp _ _ _ _ _ (List.getElem?_eq_getElem hm1) rfl (by (first | exact room3 (by assumption) (by decide) | exact room2 (by assumption) (by decide) | omega | (dsimp only [Ar, Around.deeper]; omega) | (simp only [depth_deeper, units_deeper]; dsimp only [Ar]; omega))) (fun b o e => F8.keep b o (hg b o e List.not_mem_nil)) (fun h9 tk9 hk9 => ?_)
      have F9 := F8.keeps hk9
      have N9 : News g L' h9 [] := fun p hp => nomatch hp
      clear F8 N8
      (try k_fold)
      k_steps
      · rename (gt _ = true) => hg1
        refine' ⟨_, _, _, _, (lo1 + hi1) / 2 - lo1, rfl, ?F, by assumption, md1 (by assumption), _, lo1, (lo1 + hi1) / 2, _, _, rfl, rfl, hb1, md5 (by assumption), Nat.le_of_lt hm1, hb4, fun i a b => hm _ _ a b hg1, rfl⟩
        (case F => wtm_at "frq")
      · rename (gt _ = false) => hg1
        refine' ⟨_, _, _, _, hi1 - ((lo1 + hi1) / 2 + 1), rfl, ?F, by assumption, md2 (by assumption), _, (lo1 + hi1) / 2 + 1, hi1, _, _, rfl, rfl, md6 (by assumption) hb1, md4 (by assumption), hb3, fun i a b => ?e, hb5, rfl⟩
        (case F => wtm_at "frq")
        (case e =>
          cases e : gt i with
          | false => rfl
          | true => exact absurd (hm i _ (Nat.le_of_lt_succ b) hm1 e) (by rw [hg1]; exact Bool.false_ne_true))
    · refine hP' _ ?_
      obtain rfl : lo1 = hi1 := by omega
      refine' ⟨_, lo1, _, _, _, rfl, ?F, by assumption, hb1, hb3, fun i a b => by show (!gt i) = true; rw [hb4 i a b]; rfl, fun i a b => by show (!gt i) = false; rw [hb5 i a b]; rfl⟩
      (case F => wtm_at "frq")
  rintro _ ⟨u, r, t1, h1, tk1, rfl, F1, N1, hA⟩
  dsimp only [List.drop]
  (try k_fold)
  k_steps
  dsimp only
  exact hret _ _ _ (by (refine' stays_of ?h1 ?h2; (case h1 => assumption); (case h2 => assumption))) ⟨r, _, rfl, hA⟩


theorem cmp_text (prog : Program) (w : World) (h : Heap) (x : List Nat) (tx : Tok) {vs : List Value} {xs : List (List Nat)} (hS : StrsAre vs (xs.map sl)) : CmpLt prog w h (.str (sl x) tx) vs (fun i => decide (x < xs.getD i [])) := by
  intro i v A s' Q hv hh hu hk hQ
  have hlen : vs.length = xs.length := by simpa using hS.length
  have hi : i < xs.length := by rw [← hlen]; exact (List.getElem?_eq_some_iff.mp hv).1
  obtain ⟨t', e⟩ := hS.get i (sl xs[i]) (by rw [List.getElem?_map, List.getElem?_eq_getElem hi]; rfl)
  rw [hv] at e
  cases e
  refine PyProof.Rows.lt_str ?_
  have := hQ s'.heap s'.toks fun b o e => e
  rw [sl_cps, sl_cps]
  dsimp only at this
  rw [List.getD_eq_getElem?_getD, List.getElem?_eq_getElem hi] at this
  exact this
theorem br_mono {xs : List (List Nat)} (hs : xs.Pairwise fun a b => ¬ b < a) {vs : List Value} (hlen : vs.length = xs.length) (x : List Nat) : ∀ i j, i ≤ j → j < vs.length → decide (x < xs.getD i []) = true → decide (x < xs.getD j []) = true :=
  fun i j a b c => decide_eq_true (srt_gt hs a (by omega) (of_decide_eq_true c))
theorem br_text4 (l : Addr) (vs : List Value) (xs : List (List Nat)) (x : List Nat) (tx tl : Tok) (hn : xs.length ≤ 100) (hS : StrsAre vs (xs.map sl)) (hs : xs.Pairwise fun a b => ¬ b < a) :
    Pure Mine.hd2.heap_1 PySem.Challenge.rw_pe0272_02.row.prog 56 2 ⟨[.ref l, .str (sl x) tx, .int 0 tl, .none], []⟩ (fun w h => h.IsList l vs.toArray ∧ CmpLt PySem.Challenge.rw_pe0272_02.row.prog w h (.str (sl x) tx) vs (fun i => decide (x < xs.getD i []))) (fun r _ => ∃ k t, r = .int (k : Nat) t ∧ At vs.length (fun i => !(decide (x < xs.getD i []))) 0 k) :=
  br_core _ l vs _ _ tl 0 (by (unfold BindsF; intro P oc od osl fd ho s X; (have e := Eq.trans (Eq.symm ho) (by k_is)); (injection e with e; injection e with e1 e2 e3 e4; injection e3 with e3; subst e3); first | exact BindsTo.of_eq rfl | (refine' kp_binds ?kx ?ke; (case kx => assumption); (case ke => exact fun _ => rfl)))) (Nat.zero_le _) (by rw [hS.length]; simpa using hn) (br_mono hs (by simpa using hS.length) x)
theorem br_text2 (l : Addr) (vs : List Value) (xs : List (List Nat)) (x : List Nat) (tx : Tok) (hn : xs.length ≤ 100) (hS : StrsAre vs (xs.map sl)) (hs : xs.Pairwise fun a b => ¬ b < a) :
    Pure Mine.hd2.heap_1 PySem.Challenge.rw_pe0272_02.row.prog 56 2 ⟨[.ref l, .str (sl x) tx], []⟩ (fun w h => h.IsList l vs.toArray ∧ CmpLt PySem.Challenge.rw_pe0272_02.row.prog w h (.str (sl x) tx) vs (fun i => decide (x < xs.getD i []))) (fun r _ => ∃ k t, r = .int (k : Nat) t ∧ At vs.length (fun i => !(decide (x < xs.getD i []))) 0 k) :=
  br_core _ l vs _ _ 304 0 (by (unfold BindsF; intro P oc od osl fd ho s X; (have e := Eq.trans (Eq.symm ho) (by k_is)); (injection e with e; injection e with e1 e2 e3 e4; injection e3 with e3; subst e3); first | exact BindsTo.of_eq rfl | (refine' kp_binds ?kx ?ke; (case kx => assumption); (case ke => exact fun _ => rfl)))) (Nat.zero_le _) (by rw [hS.length]; simpa using hn) (br_mono hs (by simpa using hS.length) x)

end
noncomputable section
theorem CmpLt.mono {prog : Program} {w : World} {h h' : Heap} {xv : Value} {vs : List Value} {gt : Nat → Bool} (C : CmpLt prog w h xv vs gt) (k : h.StaysIn h') : CmpLt prog w h' xv vs gt :=
  fun i v A s' Q hv hh hu hk hQ => C i v A s' Q hv hh hu (fun b o e => hk b o (k b o e)) hQ

theorem ins_core (l : Addr) (vs : List Value) (n : Nat) (xv : Value) (gt : Nat → Bool)
    (hbr : ∀ tl, Pure Mine.hd2.heap_1 PySem.Challenge.rw_pe0272_02.row.prog 56 2 ⟨[.ref l, xv, .int 0 tl, .none], []⟩ (fun w h => h.IsList l vs.toArray ∧ CmpLt PySem.Challenge.rw_pe0272_02.row.prog w h xv vs gt) (fun r _ => ∃ k t, r = .int (k : Nat) t ∧ At vs.length (fun i => !(gt i)) 0 k)) (hn : vs.length ≤ 100) :
    Mut Mine.hd2.heap_1 PySem.Challenge.rw_pe0272_02.row.prog 47 4 ⟨[.ref l, xv], []⟩ [(l, listOf vs.toArray n)] (fun w h => CmpLt PySem.Challenge.rw_pe0272_02.row.prog w h xv vs gt) (fun r S' => ∃ k n', r = .none ∧ At vs.length (fun i => !(gt i)) 0 k ∧ S' = [(l, listOf (vs.take k ++ xv :: vs.drop k).toArray n')]) := by
  unfold Mut
  intro w p loose mean mg mb dp un fr gd s Q E hS X T hcmp hdp hun hret
  dsimp only at hret
  have hl0 : s.heap.get? l = some (listOf vs.toArray n) := hS _ (.head _)
  w_top off; revert X; k_fill; intro X
  have X0 : (Mine.hd2.heap_1 w.params).In s.heap := X.keeps fun b o e => of_hideAll _ e
  (k_dflt (refine' enterS (args := ⟨_, _⟩) _ ?hS ?kX ?kT ?k6 ?k7 ?k8 ?k9 ?kB ?_ ?c2 ?c3 ?c4 ?c5; (case hS => assumption); (case kX => assumption); (case kT => assumption); (case k6 => k_is); (case k7 => k_is); (case k8 => (dsimp only [Ar]; omega)); (case k9 => first | exact BindsTo.of_eq rfl | exact binds_K (by k_in) rfl (by k_is) rfl rfl rfl | (refine' kp_binds ?kx ?ke; (case kx => k_in); (case ke => exact fun _ => rfl))); (case c5 => decide); (case kB => exact locs rfl); (case c2 => exact rfl); (case c3 => exact rfl); (case c4 => exact rfl); k_whole))
  intro g L' h' hg F' N' X' T' _
  (try dsimp only)
  k_steps
  have hst : s.heap.StaysIn h' := fun b o e => by
    by_cases hb : b = l
    · subst hb; rw [hl0] at e; cases e; exact (N' _ (.head _)).1
    · exact F'.keep b o (hg b o e (by simpa using hb))
  refine' (hbr _).use ?F X' N' T' ?hp ?rm ?un ?_
  (case F => assumption)
  (case hp => exact ⟨N'.isList (.head _), hcmp.mono hst⟩)
  (case rm => (first | exact room3 (by assumption) (by decide) | exact room2 (by assumption) (by decide) | omega | (dsimp only [Ar, Around.deeper]; omega) | (simp only [depth_deeper, units_deeper]; dsimp only [Ar]; omega)))
  (case un => (first | exact room3 (by assumption) (by decide) | exact room2 (by assumption) (by decide) | omega | (dsimp only [Ar, Around.deeper]; omega) | (simp only [depth_deeper, units_deeper]; dsimp only [Ar]; omega)))
  rintro _ h8 tk8 F8 N8 hk8 ⟨k, t8, rfl, hA⟩
  dsimp only
  (try k_fold)
  k_steps
  have hk2 : k ≤ vs.length := hA.2.1
  refine' kl_insert (l := vs.take k ++ xv :: vs.drop k) ?F ?N ?f ?e ?U ?z ?_
  (case F => assumption)
  (case N => assumption)
  (case f => unfold Builtin.List.listFitsIndex; simp; omega)
  (case e => (unfold kl_ins; (have e1 : (if (k : Int) < 0 then ((k : Int) + (vs.toArray.toList.length : Int)).toNat else min (k : Int).toNat vs.toArray.toList.length) = k := by (rw [if_neg (by omega)]; simp; omega)); rw [e1]))
  (case U => k_upd)
  (case z => rw [sizeLine_eq]; simp; omega)
  intro h9 F9 N9
  (try k_fold)
  k_steps
  (try dsimp only)
  exact ret_mut hret hg F9 N9 ⟨k, _, rfl, hA, rfl⟩
theorem ins_text (l : Addr) (vs : List Value) (n : Nat) (xs : List (List Nat)) (x : List Nat) (tx : Tok) (hn : xs.length ≤ 100) (hS : StrsAre vs (xs.map sl)) (hs : xs.Pairwise fun a b => ¬ b < a) :
    Mut Mine.hd2.heap_1 PySem.Challenge.rw_pe0272_02.row.prog 47 4 ⟨[.ref l, .str (sl x) tx], []⟩ [(l, listOf vs.toArray n)] (fun _ _ => True) (fun r S' => ∃ k n', r = .none ∧ At vs.length (fun i => !(decide (x < xs.getD i []))) 0 k ∧ S' = [(l, listOf (vs.take k ++ (.str (sl x) tx) :: vs.drop k).toArray n')]) :=
  fun w p loose mean mg mb dp un fr gd s Q E hS' X T _ hd hu hret => ins_core l vs n _ _ (fun tl => br_text4 l vs xs x tx tl hn hS hs) (by rw [hS.length]; simpa using hn) w p loose mean mg mb dp un fr gd s Q E hS' X T (cmp_text _ w _ x tx hS) hd hu hret

end
section
local macro_rules | `(tactic| walk_at "getMethod ref") => `(tactic| (k_here; (with_reducible show wpAny _ _ (getMethod (Value.ref _) (Str.ofString "search") _) _ _ _); (refine' Re.method_K ?X ?k ?_; (case X => k_in); (case k => k_is))))
local macro_rules | `(tactic| walk_at "call builtin:re.Pattern.search") => `(tactic| (k_here; (refine' Re.search_K ?X ?kP ?kT ?kc ?kx ?kl ?_; (case X => k_in); (case kP => k_is); (case kT => k_is); (case kx => assumption); (case kl => omega); (case kc => first | exact .inl rfl | exact .inr rfl))))
theorem conv_pure (I : Addr) (x : List Nat) (t : Tok) (b : Bool) (hx : x.length ≤ 200) (hc : ∀ c ∈ x, 32 ≤ c ∧ c < 127) :
    Pure Mine.hd2.heap_1 PySem.Challenge.rw_pe0272_02.row.prog 124 3 ⟨[.ref I, .str (sl x) t], [(Str.ofString "name", .bool b)]⟩ (fun _ _ => True) (fun r _ => r = .str (sl x) t) := by
  unfold Pure
  intro w p loose mean mg mb dp un fr gd s Q E X T _ hdp hun hret
  dsimp only at hret
  w_top off; revert X; k_fill; intro X
  (k_dflt (refine' enterS (args := ⟨_, _⟩) [] ?hS ?kX ?kT ?k6 ?k7 ?k8 ?k9 ?kB ?_ ?c2 ?c3 ?c4 ?c5; (case hS => exact List.forall_mem_nil _); (case kX => assumption); (case kT => assumption); (case k6 => k_is); (case k7 => k_is); (case k8 => (dsimp only [Ar]; omega)); (case k9 => first | exact BindsTo.of_eq rfl | exact binds_K (by k_in) rfl (by k_is) rfl rfl rfl | (refine' kp_binds ?kx ?ke; (case kx => k_in); (case ke => exact fun _ => rfl))); (case c5 => decide); (case kB => exact locs rfl); (case c2 => exact rfl); (case c3 => exact rfl); (case c4 => exact rfl); k_whole))
  intro g L' h' hg F' N' X' T' _
  (try dsimp only)
  cases b
  all_goals k_steps
  all_goals exact hret _ _ _ (by (refine' stays_of ?h1 ?h2; (case h1 => assumption); (case h2 => assumption))) rfl

end
noncomputable section
theorem sum_pure (x : List Nat) (tx : Tok) (l : Addr) (vs : List Value) (xs : List (List Nat)) (hx : ∀ c ∈ x, c < 128) (hxl : x.length ≤ 20) (hxs : ∀ y ∈ xs, (∀ c ∈ y, c < 128) ∧ y.length ≤ 20) (hn : xs.length ≤ 100) (hS : StrsAre vs (xs.map sl)) :
    Pure Mine.hd2.heap_1 PySem.Challenge.rw_pe0272_02.row.prog 254 20 ⟨[.str (sl x) tx, .ref l], []⟩ (fun _ h => h.IsList l vs.toArray) (fun r _ => ∃ t, r = .int (((xs.map fun y => cost x y).sum : Nat) : Int) t) := by
  unfold Pure
  intro w p loose mean mg mb dp un fr gd s Q E X T hl hdp hun hret
  dsimp only at hret
  w_top off; revert X; k_fill; intro X
  (k_dflt (refine' enterC (args := ⟨_, _⟩) [] ?hS ?kX ?kT ?k6 ?k7 ?k8 ?k9 ?kB ?kn ?_ ?c2 ?c3 ?c4; (case hS => exact List.forall_mem_nil _); (case kX => assumption); (case kT => assumption); (case k6 => k_is); (case k7 => k_is); (case k8 => (dsimp only [Ar]; omega)); (case k9 => first | exact BindsTo.of_eq rfl | exact binds_K (by k_in) rfl (by k_is) rfl rfl rfl | (refine' kp_binds ?kx ?ke; (case kx => k_in); (case ke => exact fun _ => rfl))); (case kB => exact rfl); (case kn => decide); (case c2 => exact rfl); (case c3 => exact rfl); (case c4 => exact rfl); k_whole))
  intro g L' h' tk cells hg F' N' Y X' T' _
  obtain ⟨oc, rfl, hoc⟩ := Y.one
  (try dsimp only)
  have hlg : g.IsList l vs.toArray := by obtain ⟨o, e, r⟩ := hl; exact ⟨o, hg _ _ e List.not_mem_nil, r⟩
  k_steps
  have hlen := strs_len hS
  have X2 := X'.keeps F'.keep
  have T2 := T'.keeps F'.keep
  have hc1 : h'.get? (L' + 1) = some oc := (N' _ (.head _)).1
  have hoc1 : oc.data = .cell (some (.str (sl x) tx)) := hoc
  have hl2 : h'.IsList l vs.toArray := by obtain ⟨o, e, r⟩ := hlg; exact ⟨o, F'.keep _ _ e, r⟩
  refine' CompX.list hl2 ?hz (fun _ i ys _ nw => nw = [] ∧ IntsAre ys ((xs.take i).map fun y => ((cost x y : Nat) : Int))) ?h0 ?st (doneL ?F N' ?fin)
  (case F => assumption)
  (case hz => exact hz_le (by first | omega | (simp; omega)))
  (case h0 => intro C cells hC hcl; cases hcl; exact ⟨rfl, .nil⟩)
  (case st =>
    intro C i v ys m nw rest h tk hi hJ hv F N hoff
    dsimp only at F N hi
    obtain ⟨rfl, hI⟩ := hJ
    obtain ⟨hi2, tv, rfl⟩ := strs_get hS (by simpa using hv)
    refine cmp_store F (fun h9 F9 hk9 => ?_) rfl rfl
    have N9 := news_but N hk9
    refine wpAny_tests_nil ?_
    simp only [if_true]
    k_steps
    refine' (lev_pure x xs[i] tx tv _ hx (hxs _ (List.getElem_mem _)).1 hxl (hxs _ (List.getElem_mem _)).2).use ?F X2 ?N T2 trivial ?rm ?un ?_
    (case F => assumption)
    (case N => assumption)
    (case rm => (first | exact room3 (by assumption) (by decide) | exact room2 (by assumption) (by decide) | omega | (dsimp only [Ar, Around.deeper]; omega) | (simp only [depth_deeper, units_deeper]; dsimp only [Ar]; omega)))
    (case un => (first | exact room3 (by assumption) (by decide) | exact room2 (by assumption) (by decide) | omega | (dsimp only [Ar, Around.deeper]; omega) | (simp only [depth_deeper, units_deeper]; dsimp only [Ar]; omega)))
    rintro _ h8 tk8 F8 N8 hk8 ⟨t8, rfl⟩
    dsimp only
    refine ⟨_, _, _, [], rfl, F8, N8, fun _ h => (nomatch h), rfl, ?_⟩
    rw [List.take_add_one, List.getElem?_eq_getElem hi2, Option.toList_some, List.map_append]
    exact IntsAre.snoc hI _ _)
  intro D C ys m nw h tk hJ F9 N9 hk9
  dsimp only at F9 N9 hk9
  obtain ⟨rfl, hI⟩ := hJ
  rw [List.take_of_length_le (by simp; omega)] at hI
  (try dsimp only)
  k_steps
  exact ret_int (s := s) hret (isum_map _ _) (by (refine' stays_of ?h1 ?h2; (case h1 => assumption); (case h2 => assumption)))

end
noncomputable section
theorem news_rot3 {h₀ h : Heap} {L : Addr} {a b c : Addr × Obj} {rest : List (Addr × Obj)} (N : News h₀ L h ([a, b, c] ++ rest)) : News h₀ L h (b :: c :: a :: rest) := fun q hq => by
  rcases List.mem_cons.mp hq with rfl | hq
  · exact N _ (.tail _ (.head _))
  · rcases List.mem_cons.mp hq with rfl | hq
    · exact N _ (.tail _ (.tail _ (.head _)))
    · rcases List.mem_cons.mp hq with rfl | hq
      · exact N _ (.head _)
      · exact N _ (.tail _ (.tail _ (.tail _ hq)))
theorem headers_new {w : World} {p : Program} {loose : List Str} {mean : ExcName → Option Value} {mg mb : Str → Option Value} {dp un : Nat} {fr : Option (List Env)} {gd : Option (List Code)} {s : Shared} {Q E : Value → Shared → Prop} {h₀ : Heap} {L : Addr} {m : Str → Option Value} {news : List (Addr × Obj)}
    (F : Fr h₀ L s.heap m) (X : (Mine.hd2.heap_1 w.params).In h₀) (N : News h₀ L s.heap news) (T : Top p loose mean mg mb h₀) (hdp : dp + 10 < recursionLimit) (hun : un + 100 < cLine)
    (hQ : ∀ I dI l h' tk' n₁ n₂ hsh t, Fr h₀ L h' m → News h₀ L h' ((I, instObj 223 dI) :: (dI, PySem.W.dictOf [⟨hsh, .str (Str.ofString "_headers") t, .ref l⟩] n₁) :: (l, listOf #[] n₂) :: news) → (∀ p ∈ news, p.1 < dI) → dI < I → I < l → Q (.ref I) { s with heap := h', toks := tk' }) :
    wpAny (model PySem.Challenge.rw_pe0272_02.row.prog w) (Ar dp un fr gd) (call (.ref 223) [] []) Q E s := by
  w_top off; revert X; k_fill; intro X
  refine' call_cls ?k1 ?k2 ?k3 ?k4 ?k5 ?k6 ?_
  (case k1 => exact F)
  (case k2 => exact X)
  (case k3 => exact N)
  (case k4 => k_is)
  (case k5 => k_is)
  (case k6 => k_is)
  intro I dI h1 F1 N1 l1 l2
  have hnw := l1
  have hdI := l2
  have st := mut_fore (S := [(I, instObj 223 dI), (dI, PySem.W.dictOf [] 0)]) F1 N1 (by intro q hq; simp at hq; rcases hq with rfl | rfl <;> simp)
  have X1 := X.keeps st
  have T1 := T.keeps st
  have hS : ∀ q ∈ [(I, instObj 223 dI), (dI, PySem.W.dictOf [] 0)], h1.get? q.1 = some q.2 := by
    intro q hq; simp at hq; rcases hq with rfl | rfl
    · exact (N1 _ (.head _)).1
    · exact (N1 _ (.tail _ (.head _))).1
  k_lt2 l2
  have X0 := X.keeps F1.keep
  have hroom : ((Ar dp un fr gd).under (Code.builtin "type.__call__" { pos := [Value.ref 223] })).depth < recursionLimit := by
    show dp + 1 < recursionLimit
    omega
  (k_dflt (refine' enterK (args := ⟨_, _⟩) _ ?hS ?kX ?kT ?k6 ?k7 ?k8 ?k9 ?kB ?_ ?c2 ?c3 ?c4 ?c5; (case hS => assumption); (case kX => assumption); (case kT => assumption); (case k6 => k_is); (case k7 => k_is); (case k8 => assumption); (case k9 => first | exact BindsTo.of_eq rfl | exact binds_K (by k_in) rfl (by k_is) rfl rfl rfl | (refine' kp_binds ?kx ?ke; (case kx => k_in); (case ke => exact fun _ => rfl))); (case c5 => decide); (case kB => exact locs rfl); (case c2 => exact rfl); (case c3 => exact rfl); (case c4 => exact rfl); k_whole))
  intro g L' h' hg F' N' X' T' _
  dsimp only
  k_steps
  refine ⟨rfl, ?_⟩
  have e1 := Mut.end (s := { s with heap := h1 }) hg (by assumption) (by assumption) (fun q hq => hq)
  have e2 := mut_back (rest := news) F1 N1 (S := [(I, instObj 223 dI), (dI, PySem.W.dictOf [] 0)]) (by intro q hq; simp at hq; rcases hq with rfl | rfl <;> simp) (fun q hq => ⟨.tail _ (.tail _ hq), ?o⟩) e1.1 e1.2
  (case o => have := l1 q hq; simp only [List.map_cons, List.map_nil, List.mem_cons, List.not_mem_nil, or_false, not_or]; exact ⟨Nat.ne_of_lt (Nat.lt_trans this l2), Nat.ne_of_lt this⟩)
  exact hQ I dI _ _ _ _ _ _ _ e2.1 (news_rot3 e2.2) hnw hdI (‹I < _ ∧ dI < _›).1

end
noncomputable section
theorem getall_mut (I dI l : Addr) (vs : List Value) (prs : List (List Nat × List Nat)) (x : List Nat) (t : Tok) (hx : x.length ≤ 200) (hc : ∀ c ∈ x, 32 ≤ c ∧ c < 127) (hn : prs.length ≤ 100) (hp : ∀ p ∈ prs, (∀ c ∈ p.1, c < 128) ∧ p.1.length ≤ 200) :
    Mut Mine.hd2.heap_1 PySem.Challenge.rw_pe0272_02.row.prog 162 10 ⟨[.ref I, .str (sl x) t], []⟩ [] (fun _ h => TabG 223 h I dI l vs prs)
      (fun r S' => ∃ D ys, r = .ref D ∧ S' = [(D, LCg.lst ys)] ∧ StrsAre ys (((prs.filter fun p => p.1.map lowc == x.map lowc).map (·.2)).map sl)) := by
  unfold Mut
  intro w p loose mean mg mb dp un fr gd s Q E hS X T ⟨hsh, t₁, n₁, hI, hdI, hl, hP⟩ hdp hun hret
  dsimp only at hret
  w_top off; revert X; k_fill; intro X
  have X0 : (Mine.hd2.heap_1 w.params).In s.heap := X.keeps fun b o e => of_hideAll _ e
  (k_dflt (refine' enterC (args := ⟨_, _⟩) [] ?hS ?kX ?kT ?k6 ?k7 ?k8 ?k9 ?kB ?kn ?_ ?c2 ?c3 ?c4; (case hS => exact List.forall_mem_nil _); (case kX => assumption); (case kT => assumption); (case k6 => k_is); (case k7 => k_is); (case k8 => (dsimp only [Ar]; omega)); (case k9 => first | exact BindsTo.of_eq rfl | exact binds_K (by k_in) rfl (by k_is) rfl rfl rfl | (refine' kp_binds ?kx ?ke; (case kx => k_in); (case ke => exact fun _ => rfl))); (case kB => exact rfl); (case kn => decide); (case c2 => exact rfl); (case c3 => exact rfl); (case c4 => exact rfl); k_whole))
  intro g L' h' tk cells hg F' N' Y X' T' _
  obtain ⟨oc, rfl, hoc⟩ := Y.one
  (try dsimp only)
  have hI' : g.get? I = some (instObj 223 dI) := hg _ _ hI List.not_mem_nil
  have hdI' := hg _ _ hdI List.not_mem_nil
  have hx1 : ∀ c ∈ x, c < 128 := fun c h => by have := hc c h; omega
  k_steps
  refine' (conv_pure I (x.map lowc) _ true (by simpa using hx) (lowc_ok hc)).use ?F X' N' T' trivial ?rm ?un ?_
  (case F => assumption)
  (case rm => (first | exact room3 (by assumption) (by decide) | exact room2 (by assumption) (by decide) | omega | (dsimp only [Ar, Around.deeper]; omega) | (simp only [depth_deeper, units_deeper]; dsimp only [Ar]; omega)))
  (case un => (first | exact room3 (by assumption) (by decide) | exact room2 (by assumption) (by decide) | omega | (dsimp only [Ar, Around.deeper]; omega) | (simp only [depth_deeper, units_deeper]; dsimp only [Ar]; omega)))
  rintro _ h8 tk8 F8 N8 hk8 rfl
  dsimp only
  (try k_fold)
  k_steps
  have Fz := ‹Fr g L' _ _›
  have Nz := ‹News g L' _ _›
  have X2 := X'.keeps Fz.keep
  have T2 := T'.keeps Fz.keep
  have hk2 : s.heap.StaysIn _ := fun b o e => Fz.keep b o (hg b o e List.not_mem_nil)
  have hl2 := stays_list hk2 hl
  have hP2 := hP.keeps hk2
  have hc1 := (Nz _ (.head _)).1
  dsimp only at hc1
  refine' CompX.list hl2 ?hz (fun _ i ys _ nw => nw = [] ∧ StrsAre ys ((((prs.take i).filter fun p => p.1.map lowc == x.map lowc).map (·.2)).map sl)) ?h0 ?st (doneL Fz Nz ?fin)
  (case hz => rw [sizeLine_eq]; simp [hP.length]; omega)
  (case h0 => intro C cells hC hcl; cases hcl; exact ⟨rfl, .nil⟩)
  (case st =>
    intro C i v ys m nw rest h tk hi hJ hv F N hoff
    dsimp only at F N hi
    obtain ⟨rfl, hI⟩ := hJ
    obtain ⟨hi2, T, tk1, tv1, rfl, hT⟩ := hP2.get (by simpa using hv)
    refine cmp_store F (fun h9 F9 hk9 => ?_) rfl rfl
    have N9 := news_but N hk9
    have hq1 := (hp _ (List.getElem_mem hi2)).1
    have hq2 := (hp _ (List.getElem_mem hi2)).2
    refine wpAny_tests_one ?_
    k_steps
    · refine ⟨_, _, _, [], rfl, F9, N9, fun _ h => (nomatch h), rfl, ?_⟩
      have e := ‹(sl _ == sl _) = true›
      rw [sl_beq] at e
      rw [filt_yes _ _ hi2 (by simpa using e), List.map_append, List.map_append]
      exact StrsAre.snoc hI _ _
    · refine ⟨_, _, _, [], rfl, F9, N9, fun _ h => (nomatch h), rfl, ?_⟩
      have e := ‹(sl _ == sl _) = false›
      rw [sl_beq] at e
      rw [filt_no _ _ hi2 (by simpa using e)]
      exact hI)
  (case fin =>
    intro D C ys m nw h tk hJ F9 N9 hk9
    obtain ⟨rfl, hI⟩ := hJ
    rw [List.take_of_length_le (by simp [hP.length])] at hI
    have e1 := Mut.end (S' := [(D, LCg.lst ys)]) hg F9 N9 (fun q hq => by rw [List.mem_singleton.mp hq]; exact .head _)
    exact hret _ _ _ _ e1.1 e1.2 ⟨D, ys, rfl, rfl, hI⟩)

end
noncomputable section
theorem add_eq {l T : Addr} {vs : List Value} {n : Nat} {o : Obj} : [(l, listOf (vs.toArray.push (Value.ref T)) n), (T, o)] = [(l, listOf (vs ++ [Value.ref T]).toArray n), (T, o)] := by rw [List.push_toArray]
theorem add_mut (I dI l : Addr) (vs : List Value) (prs : List (List Nat × List Nat)) (n : Nat) (x y : List Nat) (t u : Tok) (hx : x.length ≤ 200) (hc : ∀ c ∈ x, 32 ≤ c ∧ c < 127) (hy : y.length ≤ 200) (hd : ∀ c ∈ y, 32 ≤ c ∧ c < 127) (hn : prs.length ≤ 100) :
    Mut Mine.hd2.heap_1 PySem.Challenge.rw_pe0272_02.row.prog 220 10 ⟨[.ref I, .str (sl x) t, .str (sl y) u], []⟩ [(l, listOf vs.toArray n)] (fun _ h => TabG 223 h I dI l vs prs)
      (fun r S' => ∃ T tk tv n' n₂, r = .none ∧ S' = [(l, listOf (vs ++ [Value.ref T]).toArray n'), (T, { cls := .type "tuple", data := .seq #[.str (sl x) tk, .str (sl y) tv] n₂ })]) := by
  unfold Mut
  intro w p loose mean mg mb dp un fr gd s Q E hS X T ⟨hsh, t₁, n₁, hI, hdI, hl, hP⟩ hdp hun hret
  dsimp only at hret
  w_top off; revert X; k_fill; intro X
  have X0 : (Mine.hd2.heap_1 w.params).In s.heap := X.keeps fun b o e => of_hideAll _ e
  have hl0 : s.heap.get? l = some (listOf vs.toArray n) := hS _ (.head _)
  have hIl : I ≠ l := fun e => by rw [e, hl0] at hI; injection hI with hI; injection hI with h1; cases h1
  have hdl : dI ≠ l := fun e => by rw [e, hl0] at hdI; injection hdI with hI; injection hI with h1; exact absurd h1 (by decide)
  (k_dflt (refine' enterW (args := ⟨_, _⟩) _ ?hS ?kX ?kT ?k6 ?k7 ?k8 ?k9 ?kB ?_ ?c2 ?c3 ?c4 ?c5; (case hS => assumption); (case kX => assumption); (case kT => assumption); (case k6 => k_is); (case k7 => k_is); (case k8 => (dsimp only [Ar]; omega)); (case k9 => exact rfl); (case c5 => decide); (case kB => exact fun _ => locs rfl); (case c2 => exact rfl); (case c3 => exact rfl); (case c4 => exact rfl); k_whole))
  intro D g L' h' hg F' N' X' T' hlt hDL hDs
  (try dsimp only)
  have hI' : g.get? I = some (instObj 223 dI) := hg _ _ hI (by simpa using hIl)
  have hdI' := hg _ _ hdI (by simpa using hdl)
  have hlD : l < D := hlt _ (.head _)
  k_lt2 hlD
  k_steps
  refine' (conv_pure I y _ false hy hd).use ?F X' ?N T' trivial ?rm ?un ?_
  (case F => assumption)
  (case N => assumption)
  (case rm => (first | exact room3 (by assumption) (by decide) | exact room2 (by assumption) (by decide) | omega | (dsimp only [Ar, Around.deeper]; omega) | (simp only [depth_deeper, units_deeper]; dsimp only [Ar]; omega)))
  (case un => (first | exact room3 (by assumption) (by decide) | exact room2 (by assumption) (by decide) | omega | (dsimp only [Ar, Around.deeper]; omega) | (simp only [depth_deeper, units_deeper]; dsimp only [Ar]; omega)))
  rintro _ h8 tk8 F8 N8 hk8 rfl
  dsimp only
  (try k_fold)
  k_steps
  refine wpAny_For ?_ (fun _ => rfl)
  k_steps
  have Nz := ‹News g L' _ _›
  have Fz := ‹Fr g L' _ _›
  have hDz := (Nz _ (.tail _ (.head _))).1
  dsimp only at hDz
  refine items0_method hDz ?_
  k_steps
  dsimp only
  refine' items0_call ?F ?N ?e hDs ?_
  (case F => exact Fz)
  (case N => exact Nz)
  (case e => exact hDz)
  intro vw h7 F7 N7 hD7 hV7
  (try dsimp only)
  refine' for0 ?F ?N rfl ?e ?v ?_
  (case F => exact F7)
  (case N => exact N7)
  (case e => exact hD7)
  (case v => exact hV7)
  intro h6 F6 N6
  (try dsimp only)
  (try k_fold)
  k_steps
  refine' (conv_pure I x _ true hx hc).use ?F X' ?N T' trivial ?rm ?un ?_
  (case F => assumption)
  (case N => assumption)
  (case rm => (first | exact room3 (by assumption) (by decide) | exact room2 (by assumption) (by decide) | omega | (dsimp only [Ar, Around.deeper]; omega) | (simp only [depth_deeper, units_deeper]; dsimp only [Ar]; omega)))
  (case un => (first | exact room3 (by assumption) (by decide) | exact room2 (by assumption) (by decide) | omega | (dsimp only [Ar, Around.deeper]; omega) | (simp only [depth_deeper, units_deeper]; dsimp only [Ar]; omega)))
  rintro _ h5 tk5 F5 N5 hk5 rfl
  dsimp only
  (try k_fold)
  k_steps
  refine' join_listW (ys := [sl y]) ?l ?i ?s ?w ?_
  (case l => exact N5.isList (.head _))
  (case i => exact .cons _ _ .nil)
  (case s => decide)
  (case w => simp only [List.map_cons, List.map_nil, List.sum_cons, List.sum_nil, List.length_cons, List.length_nil, sl_length]; omega)
  intro t4 k4
  rw [show Txt.join (Str.ofString "; ") [sl y] = sl y from rfl]
  k_steps
  refine' append_K ?k1 ?k2 ?k3 ?_ ?z
  (case k1 => k_asm)
  (case k2 => k_asm)
  (case k3 => k_upd)
  (case z => (have e := hP.length); (have e2 : sizeLine = 16777216 := sizeLine_eq); (show vs.length ≤ sizeLine); rw [e2]; omega)
  intro h3 F3 N3
  dsimp only
  (try k_fold)
  k_steps
  have e1 := Mut.end (S' := [_, _]) hg F3 N3 (fun q hq => by
    rcases List.mem_cons.mp hq with rfl | hq
    · exact .tail _ (.tail _ (.tail _ (.head _)))
    · rw [List.mem_singleton.mp hq]; exact .head _)
  exact hret _ _ _ _ e1.1 e1.2 ⟨_, _, _, _, _, rfl, add_eq⟩

end
noncomputable section
/-- the spelling that a number tells -/
noncomputable def famOf (f : Nat) : List Nat := if f < 8 then [97, 98, 99] else [100, 101]
noncomputable def spell (f : Nat) : List Nat := (famOf f).zipIdx.map fun (c, k) => if f / 2 ^ k % 2 = 1 then upc c else c
theorem spell_len (f : Nat) : (spell f).length = (famOf f).length := by simp [spell]
theorem spell_get (f i : Nat) (h : i < (famOf f).length) : (spell f)[i]'(by rw [spell_len]; exact h) = if f / 2 ^ i % 2 = 1 then upc (famOf f)[i] else (famOf f)[i] := by
  simp [spell]
theorem bit_eq (x : Int) (i : Nat) : ((x.fmod 12).fdiv (2 ^ (0 + (i : Int)).toNat)).fmod 2 = 1 ↔ (x % 12).toNat / 2 ^ i % 2 = 1 := by
  rw [show x.fmod 12 = x % 12 from Int.fmod_eq_emod_of_nonneg _ (by decide), show (0 + (i : Int)).toNat = i by omega]
  obtain ⟨f, hf⟩ : ∃ f : Nat, x % 12 = (f : Int) := ⟨(x % 12).toNat, (Int.toNat_of_nonneg (Int.emod_nonneg _ (by decide))).symm⟩
  rw [hf]
  have e : ((2 : Int) ^ i) = ((2 ^ i : Nat) : Int) := by simp
  rw [e, Int.fdiv_eq_ediv_of_nonneg _ (Int.natCast_nonneg _), Int.fmod_eq_emod_of_nonneg _ (by decide), Int.toNat_natCast]
  have e2 : ((f / 2 ^ i : Nat) : Int) = (f : Int) / ((2 ^ i : Nat) : Int) := Int.natCast_ediv _ _
  rw [← e2]
  omega
theorem item_fam {l : List Nat} {i : Nat} (h : i < l.length) {z : Str} (hz : z = sl l) : Txt.item z (0 + (i : Int)) = sl [l[i]] := by
  rw [hz, show (0 + (i : Int)) = (i : Int) by omega, item_sl _ _ h]
theorem spelling_pure (x : Int) (t : Tok) : Pure Mine.hd2.heap_1 PySem.Challenge.rw_pe0272_02.row.prog 232 3 ⟨[.int x t], []⟩ (fun _ _ => True) (fun r _ => ∃ t, r = .str (sl (spell (x % 12).toNat)) t) := by
  unfold Pure
  intro w p loose mean mg mb dp un fr gd s Q E X T _ hdp hun hret
  dsimp only at hret
  w_top off; revert X; k_fill; intro X
  (k_dflt (refine' enterC (args := ⟨_, _⟩) [] ?hS ?kX ?kT ?k6 ?k7 ?k8 ?k9 ?kB ?kn ?_ ?c2 ?c3 ?c4; (case hS => exact List.forall_mem_nil _); (case kX => assumption); (case kT => assumption); (case k6 => k_is); (case k7 => k_is); (case k8 => (dsimp only [Ar]; omega)); (case k9 => first | exact BindsTo.of_eq rfl | exact binds_K (by k_in) rfl (by k_is) rfl rfl rfl | (refine' kp_binds ?kx ?ke; (case kx => k_in); (case ke => exact fun _ => rfl))); (case kB => exact rfl); (case kn => decide); (case c2 => exact rfl); (case c3 => exact rfl); (case c4 => exact rfl); k_whole))
  intro g L' h' tk cells hg F' N' Y X' T' _
  obtain ⟨o1, o2, rfl, ho1, ho2⟩ := Y.two
  (try dsimp only)
  k_steps
  · have Fz := ‹Fr g L' _ _›
    have Nz := ‹News g L' _ _›
    have hr := ‹IsRange _ _ _ _ _ _ _ _›
    have X2 := X'.keeps Fz.keep
    have T2 := T'.keeps Fz.keep
    have hc1 := (Nz _ (.head _)).1
    have hc2 := (Nz _ (.tail _ (.head _))).1
    dsimp only at hc1 hc2
    refine' CompX.range (n := 3) hr rfl rfl (by decide) (fun _ i ys _ nw => nw = [] ∧ StrsAre ys (((spell (x % 12).toNat).take i).map fun c => sl [c])) ?h0 ?st (doneL Fz Nz ?fin)
    (case h0 => intro C cells hC hcl; cases hcl; exact ⟨rfl, .nil⟩)
    (case st =>
      intro C i v ys m nw rest h tk hi hJ hv F N hoff
      dsimp only at F N hi
      obtain ⟨rfl, hI⟩ := hJ
      obtain ⟨tv, rfl⟩ := hv
      refine cmp_store F (fun h9 F9 hk9 => ?_) rfl rfl
      have N9 := news_but N hk9
      refine wpAny_tests_nil ?_
      simp only [if_true]
      have elen : (Str.ofString "abc").length = 3 := by rfl
      have h3 : i < ([97, 98, 99] : List Nat).length := hi
      have hit := item_fam h3 (z := Str.ofString "abc") rfl
      have ef : famOf (x % 12).toNat = [97, 98, 99] := by
        have e0 : x.fmod 12 = x % 12 := Int.fmod_eq_emod_of_nonneg _ (by decide)
        unfold famOf; rw [if_pos (by omega)]
      have hsl : i < (spell (x % 12).toNat).length := by rw [spell_len, ef]; exact h3
      have hsg := spell_get (x % 12).toNat i (by rw [ef]; exact h3)
      have hbit := bit_eq x i
      have hc128 : ∀ c ∈ [([97, 98, 99] : List Nat)[i]], c < 128 := by
        intro c hc
        rw [List.mem_singleton.mp hc]
        have h4 : i = 0 ∨ i = 1 ∨ i = 2 := by omega
        rcases h4 with rfl | rfl | rfl <;> simp
      have hstep : ∀ z, z = (spell (x % 12).toNat)[i] → ∀ tz, StrsAre (ys ++ [Value.str (sl [z]) tz]) (((spell (x % 12).toNat).take (i + 1)).map fun c => sl [c]) := fun z hz tz => by
        rw [map_step _ _ hsl, hz]; exact StrsAre.snoc hI _ _
      simp only [ef] at hsg
      k_steps
      · refine ⟨_, _, _, [], rfl, F9, N9, fun _ h => (nomatch h), rfl, ?_⟩
        rw [hit, upper_sl hc128]
        refine hstep (upc _) ?_ _
        rw [hsg, if_pos (hbit.mp (by assumption))]
      · refine ⟨_, _, _, [], rfl, F9, N9, fun _ h => (nomatch h), rfl, ?_⟩
        rw [hit]
        refine hstep _ ?_ _
        rw [hsg, if_neg (fun e => absurd (hbit.mpr e) (by assumption))])
    intro D C ys m nw h tk hJ F9 N9 hk9
    obtain ⟨rfl, hI⟩ := hJ
    dsimp only
    (try k_fold)
    k_steps
    have ef : famOf (x % 12).toNat = [97, 98, 99] := by
      have e0 : x.fmod 12 = x % 12 := Int.fmod_eq_emod_of_nonneg _ (by decide)
      unfold famOf; rw [if_pos (by omega)]
    have e3 : (spell (x % 12).toNat).length = 3 := by rw [spell_len, ef]; rfl
    rw [List.take_of_length_le (by omega)] at hI
    refine' join_listW (ys := (spell (x % 12).toNat).map fun c => sl [c]) ?l ?i ?s ?w ?_
    (case l => exact N9.isList (.head _))
    (case i => exact hI)
    (case s => decide)
    (case w => rw [len_ones, List.length_map, e3]; decide)
    intro t4 k4
    rw [show Txt.join (Str.ofString "") ((spell (x % 12).toNat).map fun c => sl [c]) = sl (spell (x % 12).toNat) from tjoin_ones _]
    (try k_fold)
    k_steps
    exact ret_str (s := s) hret rfl (by (refine' stays_of ?h1 ?h2; (case h1 => assumption); (case h2 => assumption)))
  · have Fz := ‹Fr g L' _ _›
    have Nz := ‹News g L' _ _›
    have hr := ‹IsRange _ _ _ _ _ _ _ _›
    have X2 := X'.keeps Fz.keep
    have T2 := T'.keeps Fz.keep
    have hc1 := (Nz _ (.head _)).1
    have hc2 := (Nz _ (.tail _ (.head _))).1
    dsimp only at hc1 hc2
    refine' CompX.range (n := 2) hr rfl rfl (by decide) (fun _ i ys _ nw => nw = [] ∧ StrsAre ys (((spell (x % 12).toNat).take i).map fun c => sl [c])) ?h0b ?stb (doneL Fz Nz ?finb)
    (case h0b => intro C cells hC hcl; cases hcl; exact ⟨rfl, .nil⟩)
    (case stb =>
      intro C i v ys m nw rest h tk hi hJ hv F N hoff
      dsimp only at F N hi
      obtain ⟨rfl, hI⟩ := hJ
      obtain ⟨tv, rfl⟩ := hv
      refine cmp_store F (fun h9 F9 hk9 => ?_) rfl rfl
      have N9 := news_but N hk9
      refine wpAny_tests_nil ?_
      simp only [if_true]
      have elen : (Str.ofString "de").length = 2 := by rfl
      have h3 : i < ([100, 101] : List Nat).length := hi
      have hit := item_fam h3 (z := Str.ofString "de") rfl
      have ef : famOf (x % 12).toNat = [100, 101] := by
        have e0 : x.fmod 12 = x % 12 := Int.fmod_eq_emod_of_nonneg _ (by decide)
        unfold famOf; rw [if_neg (by omega)]
      have hsl : i < (spell (x % 12).toNat).length := by rw [spell_len, ef]; exact h3
      have hsg := spell_get (x % 12).toNat i (by rw [ef]; exact h3)
      have hbit := bit_eq x i
      have hc128 : ∀ c ∈ [([100, 101] : List Nat)[i]], c < 128 := by
        intro c hc
        rw [List.mem_singleton.mp hc]
        have h4 : i = 0 ∨ i = 1 := by omega
        rcases h4 with rfl | rfl <;> simp
      have hstep : ∀ z, z = (spell (x % 12).toNat)[i] → ∀ tz, StrsAre (ys ++ [Value.str (sl [z]) tz]) (((spell (x % 12).toNat).take (i + 1)).map fun c => sl [c]) := fun z hz tz => by
        rw [map_step _ _ hsl, hz]; exact StrsAre.snoc hI _ _
      simp only [ef] at hsg
      k_steps
      · refine ⟨_, _, _, [], rfl, F9, N9, fun _ h => (nomatch h), rfl, ?_⟩
        rw [hit, upper_sl hc128]
        refine hstep (upc _) ?_ _
        rw [hsg, if_pos (hbit.mp (by assumption))]
      · refine ⟨_, _, _, [], rfl, F9, N9, fun _ h => (nomatch h), rfl, ?_⟩
        rw [hit]
        refine hstep _ ?_ _
        rw [hsg, if_neg (fun e => absurd (hbit.mpr e) (by assumption))])
    intro D C ys m nw h tk hJ F9 N9 hk9
    obtain ⟨rfl, hI⟩ := hJ
    dsimp only
    (try k_fold)
    k_steps
    have ef : famOf (x % 12).toNat = [100, 101] := by
      have e0 : x.fmod 12 = x % 12 := Int.fmod_eq_emod_of_nonneg _ (by decide)
      unfold famOf; rw [if_neg (by omega)]
    have e3 : (spell (x % 12).toNat).length = 2 := by rw [spell_len, ef]; rfl
    rw [List.take_of_length_le (by omega)] at hI
    refine' join_listW (ys := (spell (x % 12).toNat).map fun c => sl [c]) ?lb ?ib ?sb ?wb ?_
    (case lb => exact N9.isList (.head _))
    (case ib => exact hI)
    (case sb => decide)
    (case wb => rw [len_ones, List.length_map, e3]; decide)
    intro t4 k4
    rw [show Txt.join (Str.ofString "") ((spell (x % 12).toNat).map fun c => sl [c]) = sl (spell (x % 12).toNat) from tjoin_ones _]
    (try k_fold)
    k_steps
    exact ret_str (s := s) hret rfl (by (refine' stays_of ?h1 ?h2; (case h1 => assumption); (case h2 => assumption)))

end
noncomputable section
noncomputable def signs : List Nat := [97, 98, 99, 65, 66, 67, 100, 69]
noncomputable def strang (x : Nat) : List Nat := (List.range (x % 4 + 1)).map fun k => signs.getD (x / 4 / 8 ^ k % 8) 0
theorem sign_eq (x i : Nat) : ((((x : Int).fdiv 4).fdiv (8 ^ (0 + (i : Int)).toNat)).fmod 8) = ((x / 4 / 8 ^ i % 8 : Nat) : Int) := by
  rw [show (0 + (i : Int)).toNat = i by omega]
  have e : ((8 : Int) ^ i) = ((8 ^ i : Nat) : Int) := by simp
  have e1 : (x : Int).fdiv 4 = ((x / 4 : Nat) : Int) := by rw [Int.fdiv_eq_ediv_of_nonneg _ (by decide)]; omega
  have e2 : ((x / 4 / 8 ^ i : Nat) : Int) = ((x / 4 : Nat) : Int) / ((8 ^ i : Nat) : Int) := Int.natCast_ediv _ _
  rw [e, e1, Int.fdiv_eq_ediv_of_nonneg _ (Int.natCast_nonneg _), ← e2, Int.fmod_eq_emod_of_nonneg _ (by decide)]
  omega
theorem strang_len (x : Nat) : (strang x).length = x % 4 + 1 := by simp [strang]
theorem strang_get (x i : Nat) (h : i < (strang x).length) : (strang x)[i] = signs.getD (x / 4 / 8 ^ i % 8) 0 := by simp [strang]
theorem stranger_pure (x : Nat) (t : Tok) : Pure Mine.hd2.heap_1 PySem.Challenge.rw_pe0272_02.row.prog 237 3 ⟨[.int (x : Int) t], []⟩ (fun _ _ => True) (fun r _ => ∃ t, r = .str (sl (strang x)) t) := by
  unfold Pure
  intro w p loose mean mg mb dp un fr gd s Q E X T _ hdp hun hret
  dsimp only at hret
  w_top off; revert X; k_fill; intro X
  (k_dflt (refine' enterC (args := ⟨_, _⟩) [] ?hS ?kX ?kT ?k6 ?k7 ?k8 ?k9 ?kB ?kn ?_ ?c2 ?c3 ?c4; (case hS => exact List.forall_mem_nil _); (case kX => assumption); (case kT => assumption); (case k6 => k_is); (case k7 => k_is); (case k8 => (dsimp only [Ar]; omega)); (case k9 => first | exact BindsTo.of_eq rfl | exact binds_K (by k_in) rfl (by k_is) rfl rfl rfl | (refine' kp_binds ?kx ?ke; (case kx => k_in); (case ke => exact fun _ => rfl))); (case kB => exact rfl); (case kn => decide); (case c2 => exact rfl); (case c3 => exact rfl); (case c4 => exact rfl); k_whole))
  intro g L' h' tk cells hg F' N' Y X' T' _
  obtain ⟨oc, rfl, hoc⟩ := Y.one
  (try dsimp only)
  k_steps
  have Fz := ‹Fr g L' _ _›
  have Nz := ‹News g L' _ _›
  have hr := ‹IsRange _ _ _ _ _ _ _ _›
  have X2 := X'.keeps Fz.keep
  have T2 := T'.keeps Fz.keep
  have hc1 := (Nz _ (.head _)).1
  dsimp only at hc1
  have e4 : (x : Int).fmod 4 + 1 = ((x % 4 + 1 : Nat) : Int) := by rw [Int.fmod_eq_emod_of_nonneg _ (by decide)]; omega
  rw [e4] at hr
  have hoc1 : oc.data = .cell (some (.int (x : Int) t)) := hoc
  refine' CompX.range (n := x % 4 + 1) hr ?sm ?rs (by rw [sizeLine_eq]; omega) (fun _ i ys _ nw => nw = [] ∧ StrsAre ys (((strang x).take i).map fun c => sl [c])) ?h0 ?st (doneL Fz Nz ?fin)
  (case sm => exact small_any (by omega) (by omega) (.inl rfl))
  (case rs => (unfold Builtin.Range.rangeSize; rw [if_pos (by decide), if_pos (by omega)]; simp))
  (case h0 => intro C cells hC hcl; cases hcl; exact ⟨rfl, .nil⟩)
  (case st =>
    intro C i v ys m nw rest h tk hi hJ hv F N hoff
    dsimp only at F N hi
    obtain ⟨rfl, hI⟩ := hJ
    obtain ⟨tv, rfl⟩ := hv
    refine cmp_store F (fun h9 F9 hk9 => ?_) rfl rfl
    have N9 := news_but N hk9
    refine wpAny_tests_nil ?_
    simp only [if_true]
    have elen : (Str.ofString "abcABCdE").length = 8 := by rfl
    have hse := sign_eq x i
    have h8 : x / 4 / 8 ^ i % 8 < 8 := Nat.mod_lt _ (by decide)
    have hsl : i < (strang x).length := by rw [strang_len]; exact hi
    have hb8 : (0 : Int) < 8 ^ (0 + (i : Int)).toNat ∧ (8 : Int) ^ (0 + (i : Int)).toNat < 10000 := by
      have h4 : i = 0 ∨ i = 1 ∨ i = 2 ∨ i = 3 := by first | exact om_4 (by assumption) | omega
      rcases h4 with rfl | rfl | rfl | rfl <;> decide
    have hit : Txt.item (Str.ofString "abcABCdE") ((x / 4 / 8 ^ i % 8 : Nat) : Int) = sl [signs[x / 4 / 8 ^ i % 8]] := item_sl signs _ h8
    k_steps
    rw [hse] at *
    refine ⟨_, _, _, [], rfl, F9, N9, fun _ h => (nomatch h), rfl, ?_⟩
    rw [hit, map_step _ _ hsl, strang_get _ _ hsl, show signs.getD (x / 4 / 8 ^ i % 8) 0 = signs[x / 4 / 8 ^ i % 8]'h8 from by rw [List.getD_eq_getElem?_getD, List.getElem?_eq_getElem h8]; rfl]
    exact StrsAre.snoc hI _ _)
  intro D C ys m nw h tk hJ F9 N9 hk9
  obtain ⟨rfl, hI⟩ := hJ
  dsimp only
  (try k_fold)
  k_steps
  rw [List.take_of_length_le (by rw [strang_len]; omega)] at hI
  refine' join_listW (ys := (strang x).map fun c => sl [c]) ?l ?i ?s ?w ?_
  (case l => exact N9.isList (.head _))
  (case i => exact hI)
  (case s => decide)
  (case w => rw [len_ones, List.length_map, strang_len]; omega)
  intro t4 k4
  rw [show Txt.join (Str.ofString "") ((strang x).map fun c => sl [c]) = sl (strang x) from tjoin_ones _]
  (try k_fold)
  k_steps
  exact ret_str (s := s) hret rfl (by (refine' stays_of ?h1 ?h2; (case h1 => assumption); (case h2 => assumption)))
theorem strang_ok (x : Nat) : (∀ c ∈ strang x, c < 128) ∧ (strang x).length ≤ 4 := by
  refine ⟨fun c hc => ?_, by rw [strang_len]; omega⟩
  obtain ⟨k, _, rfl⟩ := List.mem_map.mp hc
  have h8 : x / 4 / 8 ^ k % 8 < 8 := Nat.mod_lt _ (by decide)
  generalize x / 4 / 8 ^ k % 8 = n at h8
  have : ∀ n, n < 8 → signs.getD n 0 < 128 := by decide
  exact this n h8

end
noncomputable section
-- spellings of one name: y.map lowc = nm
noncomputable def gr (nm : List Nat) (xs : List (List Nat)) (k : Nat) : Nat := (xs.filter fun y => y.getD k 0 != nm.getD k 0).length
noncomputable def colf (nm : List Nat) (xs : List (List Nat)) (k : Nat) : List Nat := List.replicate (gr nm xs k) (upc (nm.getD k 0)) ++ List.replicate (xs.length - gr nm xs k) (nm.getD k 0)
noncomputable def NmOk (nm : List Nat) : Prop := nm.Nodup ∧ ∀ c ∈ nm, 97 ≤ c ∧ c ≤ 122
theorem one_lt {a b : Nat} : (([a] : List Nat) < [b]) ↔ a < b := by
  rw [List.cons_lt_cons_iff]; simp
theorem gr_le (nm : List Nat) (xs : List (List Nat)) (k : Nat) : gr nm xs k ≤ xs.length := List.length_filter_le _ _
theorem gr_snoc (nm : List Nat) (xs : List (List Nat)) (y : List Nat) (k : Nat) : gr nm (xs ++ [y]) k = gr nm xs k + (if y.getD k 0 = nm.getD k 0 then 0 else 1) := by
  unfold gr
  rw [List.filter_append, List.length_append, List.filter_cons]
  by_cases h : y.getD k 0 = nm.getD k 0
  · rw [if_pos h, if_neg (by rw [h]; simp)]; rfl
  · rw [if_neg h, if_pos (bne_iff_ne.mpr h)]; rfl
theorem colf_len (nm : List Nat) (xs : List (List Nat)) (k : Nat) : (colf nm xs k).length = xs.length := by
  have := gr_le nm xs k
  unfold colf; rw [List.length_append, List.length_replicate, List.length_replicate]; omega
theorem colf_get (nm : List Nat) (xs : List (List Nat)) (k i : Nat) (hi : i < xs.length) : (colf nm xs k).getD i 0 = if i < gr nm xs k then upc (nm.getD k 0) else nm.getD k 0 := by
  have := gr_le nm xs k
  unfold colf
  rw [List.getD_eq_getElem?_getD, List.getElem?_append, List.length_replicate]
  by_cases h : i < gr nm xs k
  · rw [if_pos h, if_pos h, List.getElem?_replicate, if_pos h]; rfl
  · rw [if_neg h, if_neg h, List.getElem?_replicate, if_pos (by omega)]; rfl
theorem ones_get (l : List Nat) (i : Nat) (hi : i < l.length) : (l.map fun c => [c]).getD i [] = [l.getD i 0] := by
  rw [List.getD_eq_getElem?_getD, List.getElem?_map, List.getElem?_eq_getElem hi, List.getD_eq_getElem?_getD, List.getElem?_eq_getElem hi]; rfl
theorem nm_get {nm : List Nat} (hn : NmOk nm) {k : Nat} (hk : k < nm.length) : 97 ≤ nm.getD k 0 ∧ nm.getD k 0 ≤ 122 := by
  rw [List.getD_eq_getElem?_getD, List.getElem?_eq_getElem hk]; exact hn.2 _ (List.getElem_mem _)
theorem upc_lt {c : Nat} (h : 97 ≤ c ∧ c ≤ 122) : upc c < c := by unfold upc; rw [if_pos h]; omega
theorem lowc_cases {d c : Nat} (h : 97 ≤ c ∧ c ≤ 122) (e : lowc d = c) : d = c ∨ d = upc c := by
  unfold lowc at e; unfold upc; rw [if_pos h]; split at e <;> omega
theorem lowc_up {c : Nat} (h : 97 ≤ c ∧ c ≤ 122) : lowc (upc c) = c ∧ lowc c = c := by
  unfold upc lowc; rw [if_pos h]; constructor <;> split <;> omega
theorem fam_get {nm y : List Nat} (hn : NmOk nm) (h : y.map lowc = nm) {k : Nat} (hk : k < nm.length) : y.getD k 0 = nm.getD k 0 ∨ y.getD k 0 = upc (nm.getD k 0) := by
  refine lowc_cases (nm_get hn hk) ?_
  have hk' : k < y.length := by rw [← h] at hk; simpa using hk
  subst h
  rw [List.getD_eq_getElem?_getD, List.getElem?_eq_getElem hk', List.getD_eq_getElem?_getD, List.getElem?_map, List.getElem?_eq_getElem hk']; rfl
theorem fam_len {nm y : List Nat} (h : y.map lowc = nm) : y.length = nm.length := by rw [← h, List.length_map]
theorem col_srt {nm : List Nat} (hn : NmOk nm) (xs : List (List Nat)) {k : Nat} (hk : k < nm.length) : ((colf nm xs k).map fun c => [c]).Pairwise fun a b => ¬ b < a := by
  have h := upc_lt (nm_get hn hk)
  unfold colf
  rw [List.map_append, List.map_replicate, List.map_replicate, List.pairwise_append]
  refine ⟨?_, ?_, ?_⟩
  · exact List.pairwise_replicate.mpr (.inr (by rw [one_lt]; omega))
  · exact List.pairwise_replicate.mpr (.inr (by rw [one_lt]; omega))
  · intro a ha b hb
    rw [(List.mem_replicate.mp ha).2, (List.mem_replicate.mp hb).2, one_lt]; omega
theorem at_left {nm : List Nat} (hn : NmOk nm) {xs : List (List Nat)} {k r : Nat} (hk : k < nm.length)
    (h : At xs.length (fun i => decide (((colf nm xs k).map fun c => [c]).getD i [] < [nm.getD k 0])) 0 r) : r = gr nm xs k := by
  have hl := upc_lt (nm_get hn hk)
  obtain ⟨_, h1, h2, h3⟩ := h
  have hg := gr_le nm xs k
  rcases Nat.lt_trichotomy r (gr nm xs k) with c | c | c
  · have := h3 r (Nat.le_refl _) (by omega)
    rw [decide_eq_false_iff_not, ones_get _ _ (by rw [colf_len]; omega), one_lt, colf_get _ _ _ _ (by omega), if_pos c] at this
    omega
  · exact c
  · have := h2 (gr nm xs k) (Nat.zero_le _) c
    rw [decide_eq_true_eq, ones_get _ _ (by rw [colf_len]; omega), one_lt, colf_get _ _ _ _ (by omega), if_neg (Nat.lt_irrefl _)] at this
    omega
theorem at_right {nm : List Nat} (hn : NmOk nm) {xs : List (List Nat)} {k r : Nat} (hk : k < nm.length)
    (h : At xs.length (fun i => !(decide ([upc (nm.getD k 0)] < ((colf nm xs k).map fun c => [c]).getD i []))) 0 r) : r = gr nm xs k := by
  have hl := upc_lt (nm_get hn hk)
  obtain ⟨_, h1, h2, h3⟩ := h
  have hg := gr_le nm xs k
  simp only [Bool.not_eq_true', decide_eq_false_iff_not, Bool.not_eq_false', decide_eq_true_eq] at h2 h3
  rcases Nat.lt_trichotomy r (gr nm xs k) with c | c | c
  · have := h3 r (Nat.le_refl _) (by omega)
    rw [ones_get _ _ (by rw [colf_len]; omega), one_lt, colf_get _ _ _ _ (by omega), if_pos c] at this
    omega
  · exact c
  · have := h2 (gr nm xs k) (Nat.zero_le _) c
    rw [ones_get _ _ (by rw [colf_len]; omega), one_lt, colf_get _ _ _ _ (by omega), if_neg (Nat.lt_irrefl _)] at this
    omega
theorem at_small {nm : List Nat} (hn : NmOk nm) {xs : List (List Nat)} {k r : Nat} (hk : k < nm.length)
    (h : At xs.length (fun i => !(decide ([nm.getD k 0] < ((colf nm xs k).map fun c => [c]).getD i []))) 0 r) : r = xs.length := by
  have hl := upc_lt (nm_get hn hk)
  obtain ⟨_, h1, h2, h3⟩ := h
  simp only [Bool.not_eq_false', decide_eq_true_eq] at h3
  refine Decidable.byContradiction fun c => ?_
  have := h3 r (Nat.le_refl _) (by omega)
  rw [ones_get _ _ (by rw [colf_len]; omega), one_lt, colf_get _ _ _ _ (by omega)] at this
  split at this <;> omega
theorem col_ins {nm : List Nat} (hn : NmOk nm) {xs : List (List Nat)} {y : List Nat} {k r c : Nat} (hk : k < nm.length) (hy : y.map lowc = nm) (hc : c = y.getD k 0)
    (h : At xs.length (fun i => !(decide ([c] < ((colf nm xs k).map fun c => [c]).getD i []))) 0 r) :
    (colf nm xs k).take r ++ c :: (colf nm xs k).drop r = colf nm (xs ++ [y]) k := by
  have hl := upc_lt (nm_get hn hk)
  have hg := gr_le nm xs k
  subst hc
  have e2 : (colf nm (xs ++ [y]) k) = List.replicate (gr nm (xs ++ [y]) k) (upc (nm.getD k 0)) ++ List.replicate ((xs ++ [y]).length - gr nm (xs ++ [y]) k) (nm.getD k 0) := rfl
  rw [gr_snoc, List.length_append, List.length_singleton] at e2
  rcases fam_get hn hy hk with e | e
  · rw [e] at h ⊢
    rw [at_small hn hk h, List.take_of_length_le (by rw [colf_len]; exact Nat.le_refl _), List.drop_of_length_le (by rw [colf_len]; exact Nat.le_refl _), e2, if_pos e, Nat.add_zero]
    unfold colf
    rw [List.append_assoc, show xs.length + 1 - gr nm xs k = (xs.length - gr nm xs k) + 1 by omega, List.replicate_succ']
  · rw [e] at h ⊢
    rw [at_right hn hk h, e2, if_neg (by rw [e]; omega)]
    have l1 : (List.replicate (gr nm xs k) (upc (nm.getD k 0))).length = gr nm xs k := List.length_replicate
    have t1 : (colf nm xs k).take (gr nm xs k) = List.replicate (gr nm xs k) (upc (nm.getD k 0)) := by
      unfold colf; rw [List.take_append_of_le_length (by rw [l1]; exact Nat.le_refl _), List.take_of_length_le (by rw [l1]; exact Nat.le_refl _)]
    have t2 : (colf nm xs k).drop (gr nm xs k) = List.replicate (xs.length - gr nm xs k) (nm.getD k 0) := by
      unfold colf; rw [List.drop_append_of_le_length (by rw [l1]; exact Nat.le_refl _), List.drop_of_length_le (by rw [l1]; exact Nat.le_refl _)]; rfl
    rw [t1, t2, List.replicate_succ', show xs.length + 1 - (gr nm xs k + 1) = xs.length - gr nm xs k by omega]
    simp
-- the middle
noncomputable def midf (nm : List Nat) (xs : List (List Nat)) : List Nat := (List.range nm.length).map fun k => if xs.length < 2 * gr nm xs k then upc (nm.getD k 0) else nm.getD k 0
theorem col_mid {nm : List Nat} {xs : List (List Nat)} {k : Nat} (h : 0 < xs.length) : (colf nm xs k).getD (xs.length / 2) 0 = if xs.length < 2 * gr nm xs k then upc (nm.getD k 0) else nm.getD k 0 := by
  rw [colf_get _ _ _ _ (by omega)]
  by_cases c : xs.length < 2 * gr nm xs k
  · rw [if_pos c, if_pos (by omega)]
  · rw [if_neg c, if_neg (by omega)]
theorem map_getD (nm : List Nat) : (List.range nm.length).map (fun k => nm.getD k 0) = nm := by
  apply List.ext_getElem
  · simp
  · intro i h1 h2
    simp [List.getD_eq_getElem?_getD, h2]
theorem mid_fam {nm : List Nat} (hn : NmOk nm) (xs : List (List Nat)) : (midf nm xs).map lowc = nm := by
  conv => rhs; rw [← map_getD nm]
  unfold midf
  rw [List.map_map]
  refine List.map_congr_left fun k hk => ?_
  have hk := List.mem_range.mp hk
  dsimp only [Function.comp]
  split
  · exact (lowc_up (nm_get hn hk)).1
  · exact (lowc_up (nm_get hn hk)).2
theorem mid_get {nm : List Nat} {xs : List (List Nat)} {k : Nat} (hk : k < nm.length) : (midf nm xs).getD k 0 = if xs.length < 2 * gr nm xs k then upc (nm.getD k 0) else nm.getD k 0 := by
  unfold midf
  rw [List.getD_eq_getElem?_getD, List.getElem?_map, List.getElem?_range hk]; rfl
-- distances in a family
noncomputable def ham : List Nat → List Nat → Nat
  | x :: a, y :: b => (if x = y then 0 else 1) + ham a b
  | _, _ => 0
noncomputable def dl (t : List Nat) (c : Nat) : Nat := match t.find? (fun x => lowc x == lowc c) with
  | some x => if x = c then 0 else 1
  | none => 1
theorem dl_le (t : List Nat) (c : Nat) : dl t c ≤ 1 := by unfold dl; split <;> (try split) <;> omega
theorem dl_cons (x : Nat) (a : List Nat) (c : Nat) : dl (x :: a) c = if lowc x = lowc c then (if x = c then 0 else 1) else dl a c := by
  unfold dl
  rw [List.find?_cons]
  by_cases h : lowc x = lowc c
  · simp [h]
  · have : (lowc x == lowc c) = false := by simpa using h
    rw [this, if_neg h]
theorem fs_other (x : Nat) (a : List Nat) : ∀ s : List Nat, (∀ c ∈ s, lowc x ≠ lowc c) → (s.map (dl (x :: a))).sum = (s.map (dl a)).sum
  | [], _ => rfl
  | c :: s, h => by
    rw [List.map_cons, List.map_cons, List.sum_cons, List.sum_cons, fs_other x a s fun d hd => h d (.tail _ hd), dl_cons, if_neg (h c (.head _))]
theorem fs_one (x : Nat) (a : List Nat) : ∀ s : List Nat, (s.map lowc).Nodup → (s.map (dl (x :: a))).sum ≤ (s.map (dl a)).sum + 1
  | [], _ => Nat.zero_le _
  | c :: s, h => by
    rw [List.map_cons, List.nodup_cons] at h
    rw [List.map_cons, List.map_cons, List.sum_cons, List.sum_cons, dl_cons]
    by_cases e : lowc x = lowc c
    · rw [if_pos e, fs_other x a s fun d hd q => h.1 (by rw [← e, q]; exact List.mem_map_of_mem hd)]
      split <;> omega
    · rw [if_neg e]
      have := fs_one x a s h.2
      omega
theorem fs_cost : ∀ (t s : List Nat), (s.map lowc).Nodup → (s.map (dl t)).sum ≤ cost t s
  | [], s, _ => by
    rw [cost_nil]
    induction s with
    | nil => exact Nat.le_refl _
    | cons c s ih =>
      rename_i h
      rw [List.map_cons, List.nodup_cons] at h
      have := ih h.2
      have := dl_le [] c
      rw [List.map_cons, List.sum_cons, List.length_cons]; omega
  | x :: a, [], _ => Nat.zero_le _
  | x :: a, y :: b, h => by
    have h' := h
    rw [List.map_cons, List.nodup_cons] at h
    have i1 := fs_cost a b h.2
    have i2 := fs_cost a (y :: b) h'
    have i3 := fs_cost (x :: a) b h.2
    have o1 := fs_one x a (y :: b) h'
    have o2 := fs_one x a b h.2
    have d1 := dl_le (x :: a) y
    have key : ((y :: b).map (dl (x :: a))).sum ≤ subc x y + cost a b := by
      rw [List.map_cons, List.sum_cons]
      by_cases e : lowc x = lowc y
      · have e1 : dl (x :: a) y = subc x y := by
          rw [dl_cons, if_pos e]; unfold subc
          by_cases q : x = y
          · rw [if_pos q, if_pos q]
          · rw [if_neg q, if_neg q, if_pos e]
        rw [e1, fs_other x a b fun d hd q => h.1 (by rw [← e, q]; exact List.mem_map_of_mem hd)]
        omega
      · have e1 : subc x y = 2 := by
          unfold subc
          rw [if_neg (fun q => e (by rw [q])), if_neg e]
        omega
    have d2 : ((y :: b).map (dl (x :: a))).sum = dl (x :: a) y + (b.map (dl (x :: a))).sum := by rw [List.map_cons, List.sum_cons]
    rw [cost_cons]
    omega
termination_by t s => t.length + s.length
theorem ham_dl : ∀ (x y : List Nat), x.map lowc = y.map lowc → (y.map lowc).Nodup → (y.map (dl x)).sum = ham x y
  | [], [], _, _ => rfl
  | [], _ :: _, h, _ => by simp at h
  | _ :: _, [], h, _ => by simp at h
  | x :: a, y :: b, h, hn => by
    rw [List.map_cons, List.map_cons] at h
    injection h with h1 h2
    rw [List.map_cons, List.nodup_cons] at hn
    rw [List.map_cons, List.sum_cons, dl_cons, if_pos h1, fs_other x a b fun d hd q => hn.1 (by rw [← h1, q]; exact List.mem_map_of_mem hd), ham_dl a b h2 hn.2]
    rfl
theorem cost_ham : ∀ (x y : List Nat), x.map lowc = y.map lowc → cost x y ≤ ham x y
  | [], [], _ => by simp [cost_nil, ham]
  | [], _ :: _, h => by simp at h
  | _ :: _, [], h => by simp at h
  | x :: a, y :: b, h => by
    rw [List.map_cons, List.map_cons] at h
    injection h with h1 h2
    have i := cost_ham a b h2
    have c := cost_sub x y a b
    have e : subc x y = if x = y then 0 else 1 := by
      unfold subc
      by_cases q : x = y
      · rw [if_pos q, if_pos q]
      · rw [if_neg q, if_neg q, if_pos h1]
    rw [e] at c
    show _ ≤ (if x = y then 0 else 1) + ham a b
    omega
theorem cost_fam {nm x y : List Nat} (hn : NmOk nm) (hx : x.map lowc = nm) (hy : y.map lowc = nm) : cost x y = ham x y :=
  Nat.le_antisymm (cost_ham x y (hx.trans hy.symm)) (by rw [← ham_dl x y (hx.trans hy.symm) (hy ▸ hn.1)]; exact fs_cost x y (hy ▸ hn.1))
/-- the spelling of a name that a stranger is nearest to -/
noncomputable def near (t nm : List Nat) : List Nat := nm.map fun c => (t.find? (fun x => lowc x == c)).getD c
theorem near_fam {nm : List Nat} (hn : NmOk nm) (t : List Nat) : (near t nm).map lowc = nm := by
  conv => rhs; rw [← List.map_id nm]
  unfold near
  rw [List.map_map]
  refine List.map_congr_left fun c hc => ?_
  show lowc ((t.find? (fun x => lowc x == c)).getD c) = c
  cases e : t.find? (fun x => lowc x == c) with
  | none => exact (lowc_up (hn.2 c hc)).2
  | some x => have := List.find?_some e; simpa using this
theorem near_ham (t : List Nat) : ∀ s : List Nat, ham (near t (s.map lowc)) s ≤ (s.map (dl t)).sum
  | [] => Nat.le_refl _
  | c :: s => by
    have i := near_ham t s
    show (if (t.find? (fun x => lowc x == lowc c)).getD (lowc c) = c then 0 else 1) + ham (near t (s.map lowc)) s ≤ dl t c + (s.map (dl t)).sum
    have : (if (t.find? (fun x => lowc x == lowc c)).getD (lowc c) = c then 0 else 1) ≤ dl t c := by
      unfold dl
      cases t.find? (fun x => lowc x == lowc c) with
      | none => simp only; split <;> omega
      | some x => exact Nat.le_refl _
    omega
theorem near_cost {nm s : List Nat} (hn : NmOk nm) (hs : s.map lowc = nm) (t : List Nat) : cost (near t nm) s ≤ cost t s := by
  rw [cost_fam hn (near_fam hn t) hs]
  have := near_ham t s
  rw [hs] at this
  exact Nat.le_trans this (fs_cost t s (hs ▸ hn.1))
-- sums, place by place
noncomputable def cnt (nm : List Nat) (xs : List (List Nat)) (c : List Nat) (k : Nat) : Nat := if c.getD k 0 = nm.getD k 0 then gr nm xs k else xs.length - gr nm xs k
theorem ham_sum : ∀ (x y : List Nat), x.length = y.length → ham x y = ((List.range y.length).map fun k => if x.getD k 0 = y.getD k 0 then 0 else 1).sum
  | [], [], _ => rfl
  | [], _ :: _, h => by simp at h
  | _ :: _, [], h => by simp at h
  | x :: a, y :: b, h => by
    rw [List.length_cons, List.length_cons] at h
    rw [List.length_cons, List.range_succ_eq_map, List.map_cons, List.sum_cons, List.map_map]
    show (if x = y then 0 else 1) + ham a b = _
    rw [ham_sum a b (by omega)]
    rfl
theorem sum_add {α : Type} (f g : α → Nat) : ∀ l : List α, (l.map fun k => f k + g k).sum = (l.map f).sum + (l.map g).sum
  | [] => rfl
  | x :: l => by simp only [List.map_cons, List.sum_cons, sum_add f g l]; omega
theorem sum_le {α : Type} {f g : α → Nat} : ∀ {l : List α}, (∀ k ∈ l, f k ≤ g k) → (l.map f).sum ≤ (l.map g).sum
  | [], _ => Nat.le_refl _
  | x :: l, h => by
    have i := sum_le (l := l) fun k hk => h k (.tail _ hk)
    have := h x (.head _)
    simp only [List.map_cons, List.sum_cons]; omega
theorem sum_eq_of {α : Type} {f g : α → Nat} : ∀ {l : List α}, (∀ k ∈ l, f k ≤ g k) → (l.map g).sum ≤ (l.map f).sum → ∀ k ∈ l, f k = g k
  | [], _, _, _, h => nomatch h
  | x :: l, h, hs, k, hk => by
    have i := sum_le (l := l) fun k hk => h k (.tail _ hk)
    have := h x (.head _)
    simp only [List.map_cons, List.sum_cons] at hs
    rcases List.mem_cons.mp hk with rfl | hk
    · omega
    · exact sum_eq_of (fun k hk => h k (.tail _ hk)) (by omega) k hk
theorem cnt_snoc {nm : List Nat} (hn : NmOk nm) {c y : List Nat} (hc : c.map lowc = nm) (hy : y.map lowc = nm) (xs : List (List Nat)) {k : Nat} (hk : k < nm.length) :
    cnt nm (xs ++ [y]) c k = cnt nm xs c k + (if c.getD k 0 = y.getD k 0 then 0 else 1) := by
  have hl := upc_lt (nm_get hn hk)
  have hg := gr_le nm xs k
  unfold cnt
  rw [gr_snoc, List.length_append, List.length_singleton]
  have hne : upc (nm.getD k 0) ≠ nm.getD k 0 := Nat.ne_of_lt hl
  rcases fam_get hn hc hk with e | e <;> rcases fam_get hn hy hk with e' | e' <;> rw [e, e']
  · simp only [eq_self_iff_true, if_true, Nat.add_zero]
  · simp only [eq_self_iff_true, hne, hne.symm, if_true, if_false]
  · simp only [eq_self_iff_true, hne, if_true, if_false, Nat.add_zero]; exact Nat.succ_sub hg
  · simp only [eq_self_iff_true, hne, if_true, if_false, Nat.add_zero]; exact Nat.add_sub_add_right _ 1 _
theorem sum_cnt {nm c : List Nat} (hn : NmOk nm) (hc : c.map lowc = nm) : ∀ n (xs : List (List Nat)), xs.length = n → (∀ y ∈ xs, y.map lowc = nm) → (xs.map fun y => cost c y).sum = ((List.range nm.length).map (cnt nm xs c)).sum
  | 0, xs, h, _ => by
    rw [List.length_eq_zero_iff.mp h]
    have : ∀ l : List Nat, (l.map (cnt nm [] c)).sum = 0 := fun l => by
      induction l with
      | nil => rfl
      | cons k l ih => rw [List.map_cons, List.sum_cons, ih]; simp [cnt, gr]
    rw [this]; rfl
  | n + 1, xs, h, hx => by
    obtain ⟨ys, y, rfl⟩ : ∃ ys y, xs = ys ++ [y] := ⟨xs.dropLast, xs.getLast (by intro e; rw [e] at h; simp at h), (List.dropLast_concat_getLast _).symm⟩
    rw [List.length_append, List.length_singleton] at h
    have hy := hx y (by simp)
    have i := sum_cnt hn hc n ys (by omega) fun z hz => hx z (by simp [hz])
    rw [List.map_append, List.sum_append, i, List.map_cons, List.map_nil, List.sum_cons, List.sum_nil, cost_fam hn hc hy, ham_sum c y ((fam_len hc).trans (fam_len hy).symm), fam_len hy, Nat.add_zero, ← sum_add]
    exact congrArg List.sum (List.map_congr_left fun k hk => (cnt_snoc hn hc hy ys (List.mem_range.mp hk)).symm)
/-- the least sum -/
noncomputable def leastf (nm : List Nat) (xs : List (List Nat)) : Nat := ((List.range nm.length).map fun k => min (gr nm xs k) (xs.length - gr nm xs k)).sum
theorem cnt_min (nm : List Nat) (xs : List (List Nat)) (c : List Nat) (k : Nat) : min (gr nm xs k) (xs.length - gr nm xs k) ≤ cnt nm xs c k := by unfold cnt; split <;> omega
theorem least_le (nm : List Nat) (xs : List (List Nat)) (c : List Nat) : leastf nm xs ≤ ((List.range nm.length).map (cnt nm xs c)).sum := sum_le fun k _ => cnt_min nm xs c k
theorem least_iff (nm : List Nat) (xs : List (List Nat)) (c : List Nat) : ((List.range nm.length).map (cnt nm xs c)).sum = leastf nm xs ↔ ∀ k, k < nm.length → 2 * cnt nm xs c k ≤ xs.length := by
  constructor
  · intro h k hk
    have e := sum_eq_of (f := fun k => min (gr nm xs k) (xs.length - gr nm xs k)) (g := cnt nm xs c) (l := List.range nm.length) (fun k _ => cnt_min nm xs c k) (Nat.le_of_eq h) k (List.mem_range.mpr hk)
    rw [← e]
    show 2 * min _ _ ≤ _
    omega
  · intro h
    refine congrArg List.sum (List.map_congr_left fun k hk => ?_)
    have h1 := h k (List.mem_range.mp hk)
    have h2 := cnt_min nm xs c k
    have h3 := gr_le nm xs k
    have h4 : cnt nm xs c k = gr nm xs k ∨ cnt nm xs c k = xs.length - gr nm xs k := by unfold cnt; split <;> simp
    omega
theorem mid_least {nm : List Nat} (hn : NmOk nm) (xs : List (List Nat)) : ((List.range nm.length).map (cnt nm xs (midf nm xs))).sum = leastf nm xs := by
  refine (least_iff nm xs _).mpr fun k hk => ?_
  have hl := upc_lt (nm_get hn hk)
  have := gr_le nm xs k
  unfold cnt
  rw [mid_get hk]
  by_cases h : xs.length < 2 * gr nm xs k
  · rw [if_pos h, if_neg (by omega)]; omega
  · rw [if_neg h, if_pos rfl]; omega
theorem least_stranger {nm : List Nat} (hn : NmOk nm) {xs : List (List Nat)} (hx : ∀ y ∈ xs, y.map lowc = nm) (t : List Nat) : leastf nm xs ≤ (xs.map fun y => cost t y).sum := by
  refine Nat.le_trans (least_le nm xs (near t nm)) ?_
  rw [← sum_cnt hn (near_fam hn t) _ xs rfl hx]
  exact sum_le fun y hy => near_cost hn (hx y hy) t
/-- the middle of up to three lies between any two of them -/
theorem between {nm : List Nat} (hn : NmOk nm) {xs : List (List Nat)} (hx : ∀ y ∈ xs, y.map lowc = nm) (h3 : xs.length ≤ 3) {j k : Nat} (hjk : j < k) (hk : k < xs.length) :
    cost (midf nm xs) (xs.getD j []) + cost (midf nm xs) (xs.getD k []) = cost (xs.getD j []) (xs.getD k []) := by
  have hm := mid_fam hn xs
  have g1 : ∀ i, i < xs.length → (xs.getD i []).map lowc = nm := fun i hi => by
    rw [List.getD_eq_getElem?_getD, List.getElem?_eq_getElem hi]; exact hx _ (List.getElem_mem _)
  have hj := g1 j (by omega)
  have hk' := g1 k hk
  rw [cost_fam hn hm hj, cost_fam hn hm hk', cost_fam hn hj hk', ham_sum _ _ ((fam_len hm).trans (fam_len hj).symm), ham_sum _ _ ((fam_len hm).trans (fam_len hk').symm), ham_sum _ _ ((fam_len hj).trans (fam_len hk').symm), fam_len hj, fam_len hk', ← sum_add]
  refine congrArg List.sum (List.map_congr_left fun p hp => ?_)
  have hp := List.mem_range.mp hp
  have hl := upc_lt (nm_get hn hp)
  rw [mid_get hp]
  have eg : gr nm xs p = (xs.map fun y => if y.getD p 0 = nm.getD p 0 then 0 else 1).sum := by
    have : ∀ l : List (List Nat), gr nm l p = (l.map fun y => if y.getD p 0 = nm.getD p 0 then 0 else 1).sum := fun l => by
      induction l with
      | nil => rfl
      | cons a l ih =>
        unfold gr at ih ⊢
        rw [List.map_cons, List.sum_cons, ← ih, List.filter_cons]
        by_cases q : a.getD p 0 = nm.getD p 0
        · rw [if_pos q, if_neg (by simpa using q)]; omega
        · rw [if_neg q, if_pos (by simpa using q), List.length_cons]; omega
    exact this xs
  have hz : ∀ z, z ∈ xs → z.getD p 0 = nm.getD p 0 ∨ z.getD p 0 = upc (nm.getD p 0) := fun z hz => fam_get hn (hx z hz) hp
  rw [eg]
  clear eg g1 hj hk' hm hx
  generalize upc (nm.getD p 0) = U at *
  generalize nm.getD p 0 = l at *
  rcases xs with _ | ⟨a, _ | ⟨b, _ | ⟨c, _ | ⟨d, r⟩⟩⟩⟩
  · simp only [List.length_nil] at hk; omega
  · simp only [List.length_cons, List.length_nil] at hk; omega
  · simp only [List.length_cons, List.length_nil] at hk
    obtain rfl : j = 0 := by omega
    obtain rfl : k = 1 := by omega
    simp only [List.map_cons, List.map_nil, List.sum_cons, List.sum_nil, List.length_cons, List.length_nil, List.getD_cons_zero, List.getD_cons_succ]
    have z1 := hz a (by simp)
    have z2 := hz b (by simp)
    generalize a.getD p 0 = a1 at *
    generalize b.getD p 0 = b1 at *
    have hne : U ≠ l := Nat.ne_of_lt hl
    rcases z1 with rfl | rfl <;> rcases z2 with rfl | rfl <;> simp [hne, hne.symm]
  · simp only [List.length_cons, List.length_nil] at hk
    simp only [List.map_cons, List.map_nil, List.sum_cons, List.sum_nil, List.length_cons, List.length_nil]
    have z1 := hz a (by simp)
    have z2 := hz b (by simp)
    have z3 := hz c (by simp)
    have hc : (j = 0 ∧ k = 1) ∨ (j = 0 ∧ k = 2) ∨ (j = 1 ∧ k = 2) := by omega
    rcases hc with ⟨rfl, rfl⟩ | ⟨rfl, rfl⟩ | ⟨rfl, rfl⟩ <;> simp only [List.getD_cons_zero, List.getD_cons_succ]
    all_goals
      generalize a.getD p 0 = a1 at *
      generalize b.getD p 0 = b1 at *
      generalize c.getD p 0 = c1 at *
      have hne : U ≠ l := Nat.ne_of_lt hl
      rcases z1 with rfl | rfl <;> rcases z2 with rfl | rfl <;> rcases z3 with rfl | rfl <;> simp [hne, hne.symm]
  · simp only [List.length_cons] at h3; omega
theorem fam_small {nm y : List Nat} (hn : NmOk nm) (hy : y.map lowc = nm) : ∀ c ∈ y, c < 128 := fun c hc => by
  have h := hn.2 (lowc c) (hy ▸ List.mem_map_of_mem hc)
  unfold lowc at h
  split at h <;> omega

end
section
section
local macro_rules | `(tactic| walk_at "call builtin:list.append") => `(tactic| (k_here; refine Stop.out ?_))
theorem columns_mut (nm : List Nat) (hn : NmOk nm) (l : Addr) (vs : List Value) (xs : List (List Nat)) (hS : StrsAre vs (xs.map sl)) (hx : ∀ y ∈ xs, y.map lowc = nm) (h0 : 0 < xs.length) (hlen : xs.length ≤ 50) (hm : nm.length ≤ 20) :
    Mut Mine.hd2.heap_1 PySem.Challenge.rw_pe0272_02.row.prog 244 8 ⟨[.ref l], []⟩ [] (fun _ h => h.IsList l vs.toArray)
      (fun r S' => ∃ D cs n, r = .ref D ∧ S' = (D, listOf (cs.map fun p => Value.ref p.1).toArray n) :: cs ∧ ColsAre cs ((List.range nm.length).map (colf nm xs)) ∧ ∀ p ∈ cs, D < p.1) := by
  unfold Mut
  intro w p loose mean mg mb dp un fr gd s Q E hS' X T hl hdp hun hret
  dsimp only at hret
  w_top off; revert X; k_fill; intro X
  have X0 : (Mine.hd2.heap_1 w.params).In s.heap := X.keeps fun b o e => of_hideAll _ e
  (k_dflt (refine' enterS (args := ⟨_, _⟩) [] ?hS ?kX ?kT ?k6 ?k7 ?k8 ?k9 ?kB ?_ ?c2 ?c3 ?c4 ?c5; (case hS => exact List.forall_mem_nil _); (case kX => assumption); (case kT => assumption); (case k6 => k_is); (case k7 => k_is); (case k8 => (dsimp only [Ar]; omega)); (case k9 => first | exact BindsTo.of_eq rfl | exact binds_K (by k_in) rfl (by k_is) rfl rfl rfl | (refine' kp_binds ?kx ?ke; (case kx => k_in); (case ke => exact fun _ => rfl))); (case c5 => decide); (case kB => exact locs rfl); (case c2 => exact rfl); (case c3 => exact rfl); (case c4 => exact rfl); k_whole))
  intro g L' h' hg F' N' X' T' _
  (try dsimp only)
  have hlg : g.IsList l vs.toArray := stays_list' hg hl
  have hl2 := strs_len hS
  refine cutO (fun s' => ∃ u D n h1 tk1, s' = { s with heap := h1, toks := tk1 } ∧ Fr g L' h1 (mq [(Str.ofString "spellings", .ref l), (Str.ofString "columns", .ref D)] u) ∧ News g L' h1 [(D, listOf #[] n)]) 1 ?_ ?_
  · intro P' hP'; dsimp only [List.take]
    (try k_fold)
    k_steps
    refine hP' _ ?_
    refine' ⟨_, _, _, _, _, rfl, ?F, by assumption⟩
    (case F => wtm_at "frq")
  rintro _ ⟨u, D, n, h1, tk1, rfl, F1, N1⟩
  clear F' N'
  dsimp only [List.drop]
  refine wpAny_execs_cons ?_
  have e0 : ((xs.map sl).getD ((0 : Int).toNat) Str.empty).length = nm.length := by
    rw [show ((0 : Int).toNat) = 0 from rfl, List.getD_eq_getElem?_getD, List.getElem?_map, List.getElem?_eq_getElem h0]
    show (sl _).length = _
    rw [sl_length, fam_len (hx _ (List.getElem_mem _))]
  refine for_range (h₀ := g) (L := L') (a := 0) (b := (nm.length : Int)) (c := 1) (n := nm.length) (fun i m nw => ∃ u n cs, m = mq [(Str.ofString "spellings", .ref l), (Str.ofString "columns", .ref D)] u ∧ nw = (D, listOf (cs.map fun p => Value.ref p.1).toArray n) :: cs ∧ ColsAre cs ((List.range i).map (colf nm xs)) ∧ ∀ p ∈ cs, D < p.1) rfl rfl (small_nat (by omega)) (size_nat (by first | rfl | assumption)) rfl rfl ?h ?turn ?done
  case h =>
    (try k_fold)
    k_steps
    unfold Hit2
    rw [e0] at *
    refine' ⟨_, _, _, _, _, _, _, _, rfl, rfl, ?r, ?F, ?N, _, n, [], rfl, rfl, .nil, fun _ h => (nomatch h)⟩
    (case r => assumption)
    (case F => assumption)
    (case N => assumption)
  case done =>
    rintro m nw h tk ⟨u, n, cs, rfl, rfl, hC, hD⟩ Fd Nd
    dsimp only
    (try k_fold)
    k_steps
    dsimp only
    exact ret_mut hret hg Fd Nd ⟨D, cs, n, rfl, rfl, hC, hD⟩
  case turn =>
    rintro j v t m nw It o h tk hj hv ⟨u, n, cs, rfl, rfl, hC, hD⟩ hfr Ft Nt
    obtain rfl : v = (j : Int) := by omega
    refine cutO (fun s' => ∃ u c n2 t1 h1 tk1, s' = { s with heap := h1, toks := tk1 } ∧ Fr g L' h1 (mq [(Str.ofString "spellings", .ref l), (Str.ofString "columns", .ref D), (Str.ofString "k", .int (j : Nat) t1), (Str.ofString "column", .ref c)] u) ∧
      News g L' h1 ((c, listOf #[] n2) :: (It, o) :: (D, listOf (cs.map fun p => Value.ref p.1).toArray n) :: cs) ∧ It < c ∧ D < c ∧ ∀ p ∈ cs, p.1 < c) 1 ?_ ?_
    · intro P' hP'; dsimp only [List.take]
      (try k_fold)
      k_steps
      refine hP' _ ?_
      obtain ⟨q1, q2, q3⟩ := ‹It < _ ∧ _›
      refine' ⟨_, _, _, _, _, _, rfl, ?F, by assumption, q1, q2, allLt_to q3⟩
      (case F => wtm_at "frq")
    rintro _ ⟨u', c, n2, t1, h1, tk1, rfl, F7, N7, l1, l2, l3⟩
    clear Ft
    dsimp only [List.drop]
    refine cutO (fun s' => ∃ u n2 ws h1 tk1, s' = { s with heap := h1, toks := tk1 } ∧ Fr g L' h1 (mq [(Str.ofString "spellings", .ref l), (Str.ofString "columns", .ref D), (Str.ofString "column", .ref c)] u) ∧
      News g L' h1 ((c, listOf ws.toArray n2) :: (It, o) :: (D, listOf (cs.map fun p => Value.ref p.1).toArray n) :: cs) ∧ StrsAre ws ((colf nm xs j).map fun c => sl [c])) 1 ?_ ?_
    · intro P' hP'; dsimp only [List.take]
      refine wpAny_execs_cons ?_
      have hitems : vs.toArray.size = xs.length := by simp [hl2]
      refine for_list (h₀ := g) (L := L') (l := l) (items := vs.toArray) (fun i m nw => ∃ u n2 ws, m = mq [(Str.ofString "spellings", .ref l), (Str.ofString "columns", .ref D), (Str.ofString "k", .int (j : Nat) t1), (Str.ofString "column", .ref c)] u ∧
        nw = (c, listOf ws.toArray n2) :: (It, o) :: (D, listOf (cs.map fun p => Value.ref p.1).toArray n) :: cs ∧ StrsAre ws ((colf nm (xs.take i) j).map fun c => sl [c])) rfl rfl ?hl ?h ?turn ?done
      case hl => exact fun i m nw h _ F N => by obtain ⟨o, e, r⟩ := hlg; exact ⟨o, F.keep _ _ e, r⟩
      case h =>
        (try k_fold)
        k_steps
        unfold Hit2
        exact ⟨rfl, _, _, _, _, rfl, F7, N7, u', n2, [], rfl, rfl, .nil⟩
      case done =>
        rintro m nw h tk ⟨u, n2, ws, rfl, rfl, hW⟩ Fd Nd
        dsimp only
        rw [hitems, List.take_length] at hW
        (try k_fold)
        k_steps
        refine hP' _ ?_
        refine' ⟨_, _, _, _, _, rfl, ?F, Nd, hW⟩
        (case F => wtm_at "frq")
      case turn =>
        rintro i v m nw It2 o2 h tk hv ⟨u, n2, ws, rfl, rfl, hW⟩ hfr2 Ft Nt
        obtain ⟨hi, tv, rfl⟩ := strs_get hS (by simpa using hv)
        have e5 : (sl xs[i]).length = nm.length := by rw [sl_length, fam_len (hx _ (List.getElem_mem _))]
        have hj5 : j < xs[i].length := by rw [← sl_length, e5]; exact hj
        (try k_fold)
        k_steps
        rw [item_sl _ _ hj5]
        have hcl := colf_len nm (xs.take i) j
        rw [List.length_take, Nat.min_eq_left (Nat.le_of_lt hi)] at hcl
        have Nz := ‹News g L' _ ((It2, o2) :: _)›
        refine' (ins_text c ws n2 ((colf nm (xs.take i) j).map fun c => [c]) [xs[i][j]] _ ?ln (by rw [List.map_map]; exact hW) (col_srt hn _ hj)).use ((It2, o2) :: (It, o) :: (D, listOf (cs.map fun p => Value.ref p.1).toArray n) :: cs) ?F X' Nz T' ?hS ?hr trivial ?rm ?un ?_
        (case ln => rw [List.length_map]; omega)
        (case F => assumption)
        (case hS => intro q hq; rw [List.mem_singleton.mp hq]; exact .tail _ (.head _))
        (case hr =>
          intro q hq
          rw [List.map_cons, List.map_nil, List.mem_singleton]
          rcases List.mem_cons.mp hq with rfl | hq
          · exact ⟨.head _, fun e => hfr2 _ (.head _) e.symm⟩
          · refine ⟨.tail _ (.tail _ hq), ?_⟩
            rcases List.mem_cons.mp hq with rfl | hq
            · exact Nat.ne_of_lt l1
            · rcases List.mem_cons.mp hq with rfl | hq
              · exact Nat.ne_of_lt l2
              · exact Nat.ne_of_lt (l3 _ hq))
        (case rm => (first | exact room3 (by assumption) (by decide) | exact room2 (by assumption) (by decide) | omega | (dsimp only [Ar, Around.deeper]; omega) | (simp only [depth_deeper, units_deeper]; dsimp only [Ar]; omega)))
        (case un => (first | exact room3 (by assumption) (by decide) | exact room2 (by assumption) (by decide) | omega | (dsimp only [Ar, Around.deeper]; omega) | (simp only [depth_deeper, units_deeper]; dsimp only [Ar]; omega)))
        rintro _ h8 tk8 S8 F8 N8 hk8 ⟨r8, n8, rfl, hA, rfl⟩
        (try k_fold)
        k_steps
        have hlw : ws.length = (xs.take i).length := by rw [strs_len (xs := (colf nm (xs.take i) j).map fun c => [c]) (by rw [List.map_map]; exact hW), List.length_map, colf_len]
        rw [hlw] at hA
        have hW2 := fun tc => strs_ins (c := xs[i][j]) (tc := tc) r8 hW
        rw [col_ins hn hj (hx xs[i] (List.getElem_mem _)) (by rw [List.getD_eq_getElem?_getD, List.getElem?_eq_getElem hj5]; rfl) hA] at hW2
        refine' ⟨_, _, _, _, rfl, ?F, news_swap N8, ?fr, _, n8, _, rfl, rfl, ?W⟩
        (case F => wtm_at "frq")
        (case fr =>
          intro q hq
          rcases List.mem_cons.mp hq with rfl | hq
          · exact hfr2 (c, listOf ws.toArray n2) (.head _)
          · exact hfr2 q (.tail _ hq))
        (case W => rw [List.take_add_one, List.getElem?_eq_getElem hi, Option.toList_some]; exact hW2 _)
    rintro _ ⟨u2, n3, ws, h2, tk2, rfl, F8, N8, hW⟩
    clear F7 N7
    dsimp only [List.drop]
    (try k_fold)
    k_steps
    unfold Stop
    have hcl := hC.length
    simp only [List.length_map, List.length_range] at hcl
    have hDI : It ≠ D := fun e => hfr _ (.head _) e.symm
    refine' append_K (news' := (c, listOf ws.toArray n3) :: (It, o) :: (D, listOf ((cs.map fun p => Value.ref p.1).toArray.push (Value.ref c)) (n + 1)) :: cs) F8 N8 ?U ?_ ?z
    (case U => exact Upd.tail (Nat.ne_of_gt l2) (Upd.tail hDI (Upd.head fun q hq => Nat.ne_of_gt (hD q hq))))
    (case z => (simp only [List.size_toArray, List.length_map, sizeLine_eq]; omega))
    intro h9 F9 N9
    (try k_fold)
    k_steps
    refine' ⟨_, _, _, _, rfl, ?F, news_col N9, ?fr, _, n + 1, cs ++ [(c, listOf ws.toArray n3)], rfl, ?e, ?C, ?D⟩
    (case F => wtm_at "frq")
    (case fr =>
      intro q hq
      rcases List.mem_cons.mp hq with rfl | hq
      · exact fun e => hDI e.symm
      · rcases List.mem_append.mp hq with hq | hq
        · exact hfr q (.tail _ hq)
        · rw [List.mem_singleton.mp hq]; exact Nat.ne_of_gt l1)
    (case e => rw [List.map_append, List.push_toArray]; rfl)
    (case C => rw [List.range_succ, List.map_append]; exact hC.snoc hW)
    (case D =>
      intro q hq
      rcases List.mem_append.mp hq with hq | hq
      · exact hD q hq
      · rw [List.mem_singleton.mp hq]; exact l2)
end

end
noncomputable section
theorem middle_pure (nm : List Nat) (hn : NmOk nm) (l : Addr) (vs : List Value) (xs : List (List Nat)) (hS : StrsAre vs (xs.map sl)) (hx : ∀ y ∈ xs, y.map lowc = nm) (h0 : 0 < xs.length) (hlen : xs.length ≤ 50) (hm : nm.length ≤ 20) :
    Pure Mine.hd2.heap_1 PySem.Challenge.rw_pe0272_02.row.prog 249 12 ⟨[.ref l], []⟩ (fun _ h => h.IsList l vs.toArray) (fun r _ => ∃ t, r = .str (sl (midf nm xs)) t) := by
  unfold Pure
  intro w p loose mean mg mb dp un fr gd s Q E X T hl hdp hun hret
  dsimp only at hret
  w_top off; revert X; k_fill; intro X
  (k_dflt (refine' enterS (args := ⟨_, _⟩) [] ?hS ?kX ?kT ?k6 ?k7 ?k8 ?k9 ?kB ?_ ?c2 ?c3 ?c4 ?c5; (case hS => exact List.forall_mem_nil _); (case kX => assumption); (case kT => assumption); (case k6 => k_is); (case k7 => k_is); (case k8 => (dsimp only [Ar]; omega)); (case k9 => first | exact BindsTo.of_eq rfl | exact binds_K (by k_in) rfl (by k_is) rfl rfl rfl | (refine' kp_binds ?kx ?ke; (case kx => k_in); (case ke => exact fun _ => rfl))); (case c5 => decide); (case kB => exact locs rfl); (case c2 => exact rfl); (case c3 => exact rfl); (case c4 => exact rfl); k_whole))
  intro g L' h' hg F' N' X' T' _
  (try dsimp only)
  have hlg : g.IsList l vs.toArray := stays_list' hg hl
  k_steps
  refine' (columns_mut nm hn l vs xs hS hx h0 hlen hm).use [] ?F X' N' T' (fun _ h => nomatch h) (fun _ h => nomatch h) ?hp ?rm ?un ?_
  (case F => assumption)
  (case hp => obtain ⟨o, e, r⟩ := hlg; exact ⟨o, F'.keep _ _ e, r⟩)
  (case rm => (first | exact room3 (by assumption) (by decide) | exact room2 (by assumption) (by decide) | omega | (dsimp only [Ar, Around.deeper]; omega) | (simp only [depth_deeper, units_deeper]; dsimp only [Ar]; omega)))
  (case un => (first | exact room3 (by assumption) (by decide) | exact room2 (by assumption) (by decide) | omega | (dsimp only [Ar, Around.deeper]; omega) | (simp only [depth_deeper, units_deeper]; dsimp only [Ar]; omega)))
  rintro _ h8 tk8 S8 F8 N8 hk8 ⟨D, cs, n, rfl, rfl, hC, hD⟩
  dsimp only
  have hcl := hC.length
  simp only [List.length_map, List.length_range] at hcl
  rw [List.append_nil] at N8
  have X2 := X'.keeps F8.keep
  have T2 := T'.keeps F8.keep
  refine' CompX.list (N8.isList (.head _)) ?hz (fun _ i ys _ nw => nw = [] ∧ StrsAre ys (((midf nm xs).take i).map fun c => sl [c])) ?h0 ?st (doneL F8 N8 ?fin)
  (case hz => exact hz_le (by rw [List.length_map]; omega))
  (case h0 => intro C cells hC hcl; cases hcl; exact ⟨rfl, .nil⟩)
  (case st =>
    intro C i v ys m nw rest h tk hi hJ hv F N hoff
    dsimp only at F N hi
    obtain ⟨rfl, hI⟩ := hJ
    simp only [List.getElem?_toArray, List.getElem?_map] at hv
    obtain ⟨⟨a, oc⟩, ec, rfl⟩ := Option.map_eq_some_iff.mp hv
    obtain ⟨hi2, n2, ws, eo, hW⟩ := hC.get ec
    dsimp only at eo
    subst eo
    simp only [List.getElem_map, List.getElem_range] at hW
    have hwl : ws.length = xs.length := by rw [hW.length, List.length_map, colf_len]
    have hcf := colf_len nm xs i
    have hfd : ((ws.length : Int)).fdiv 2 = ((xs.length / 2 : Nat) : Int) := by rw [hwl, Int.fdiv_eq_ediv_of_nonneg _ (by decide)]; omega
    have hdl : xs.length / 2 < xs.length := by omega
    simp only [List.length_map, List.length_range] at hi2
    have hal : h8.IsList a ws.toArray := (N8.isList (.tail _ (List.mem_of_getElem? ec)))
    refine cmp_store F (fun h9 F9 hk9 => ?_) rfl rfl
    have N9 := news_but N hk9
    refine wpAny_tests_nil ?_
    simp only [if_true]
    k_steps
    rw [hfd, Int.toNat_natCast]
    have hmi : i < (midf nm xs).length := by simp [midf]; exact hi2
    have hmg : (midf nm xs)[i] = (colf nm xs i).getD (xs.length / 2) 0 := by
      have e := mid_get (xs := xs) hi2
      rw [List.getD_eq_getElem?_getD, List.getElem?_eq_getElem hmi] at e
      rw [col_mid h0]; exact e
    refine ⟨_, _, _, [], rfl, F9, N9, fun _ h => (nomatch h), rfl, ?_⟩
    rw [map_step _ _ hmi, hmg, ones_at _ _ (by rw [hcf]; exact hdl)]
    exact StrsAre.snoc hI _ _)
  (case fin =>
    intro D C ys m nw h tk hJ F9 N9 hk9
    obtain ⟨rfl, hI⟩ := hJ
    have em : (midf nm xs).length = nm.length := by simp [midf]
    rw [List.take_of_length_le (by simp; omega)] at hI
    dsimp only
    (try k_fold)
    k_steps
    refine' join_listW (ys := (midf nm xs).map fun c => sl [c]) ?jl ?ji ?js ?jw ?_
    (case jl => exact N9.isList (.head _))
    (case ji => exact hI)
    (case js => decide)
    (case jw => rw [len_ones, List.length_map, em]; omega)
    intro t4 k4
    rw [show Txt.join (Str.ofString "") ((midf nm xs).map fun c => sl [c]) = sl (midf nm xs) from tjoin_ones _]
    (try k_fold)
    k_steps
    exact ret_str (s := s) hret rfl (by (refine' stays_of ?h1 ?h2; (case h1 => assumption); (case h2 => assumption))))

end
noncomputable section
theorem between_pure (nm : List Nat) (hn : NmOk nm) (l : Addr) (vs : List Value) (xs : List (List Nat)) (hS : StrsAre vs (xs.map sl)) (hx : ∀ y ∈ xs, y.map lowc = nm) (h0 : 0 < xs.length) (hlen : xs.length ≤ 3) (hm : nm.length ≤ 20) :
    Pure Mine.hd2.heap_1 PySem.Challenge.rw_pe0272_02.row.prog 261 30 ⟨[.ref l], []⟩ (fun _ h => h.IsList l vs.toArray) (fun r _ => r = .bool true) := by
  unfold Pure
  intro w p loose mean mg mb dp un fr gd s Q E X T hl hdp hun hret
  dsimp only at hret
  w_top off; revert X; k_fill; intro X
  (k_dflt (refine' enterS (args := ⟨_, _⟩) [] ?hS ?kX ?kT ?k6 ?k7 ?k8 ?k9 ?kB ?_ ?c2 ?c3 ?c4 ?c5; (case hS => exact List.forall_mem_nil _); (case kX => assumption); (case kT => assumption); (case k6 => k_is); (case k7 => k_is); (case k8 => (dsimp only [Ar]; omega)); (case k9 => first | exact BindsTo.of_eq rfl | exact binds_K (by k_in) rfl (by k_is) rfl rfl rfl | (refine' kp_binds ?kx ?ke; (case kx => k_in); (case ke => exact fun _ => rfl))); (case c5 => decide); (case kB => exact locs rfl); (case c2 => exact rfl); (case c3 => exact rfl); (case c4 => exact rfl); k_whole))
  intro g L' h' hg F' N' X' T' _
  (try dsimp only)
  have hlg : g.IsList l vs.toArray := stays_list' hg hl
  have hl2 := strs_len hS
  have hgx : ∀ i, i < xs.length → (xs.map sl).getD ((i : Int).toNat) Str.empty = sl (xs.getD i []) := fun i hi => by
    rw [Int.toNat_natCast, List.getD_eq_getElem?_getD, List.getElem?_map, List.getElem?_eq_getElem hi, List.getD_eq_getElem?_getD, List.getElem?_eq_getElem hi]; rfl
  have hgf : ∀ i, i < xs.length → (xs.getD i []).map lowc = nm := fun i hi => by
    rw [List.getD_eq_getElem?_getD, List.getElem?_eq_getElem hi]; exact hx _ (List.getElem_mem _)
  have h128 : ∀ y : List Nat, y.map lowc = nm → (∀ c ∈ y, c < 128) ∧ y.length ≤ 20 := fun y hy => ⟨fam_small hn hy, by rw [fam_len hy]; exact hm⟩
  refine cut (fun s' => ∃ u t1 h1 tk1, s' = { s with heap := h1, toks := tk1 } ∧ Fr g L' h1 (mq [(Str.ofString "spellings", .ref l), (Str.ofString "middle", .str (sl (midf nm xs)) t1)] u) ∧ News g L' h1 []) 1 ?_ ?_
  · dsimp only [List.take]
    (try k_fold)
    k_steps
    refine' (middle_pure nm hn l vs xs hS hx h0 (by omega) hm).use ?F X' N' T' ?hp ?rm ?un ?_
    (case F => assumption)
    (case hp => obtain ⟨o, e, r⟩ := hlg; exact ⟨o, F'.keep _ _ e, r⟩)
    (case rm => (first | exact room3 (by assumption) (by decide) | exact room2 (by assumption) (by decide) | omega | (dsimp only [Ar, Around.deeper]; omega) | (simp only [depth_deeper, units_deeper]; dsimp only [Ar]; omega)))
    (case un => (first | exact room3 (by assumption) (by decide) | exact room2 (by assumption) (by decide) | omega | (dsimp only [Ar, Around.deeper]; omega) | (simp only [depth_deeper, units_deeper]; dsimp only [Ar]; omega)))
    rintro _ h8 tk8 F8 N8 hk8 ⟨t8, rfl⟩
    dsimp only
    (try k_fold)
    k_steps
    unfold Hit
    refine' ⟨_, _, _, _, rfl, ?F, by assumption⟩
    (case F => wtm_at "frq")
  rintro _ ⟨u, t1, h1, tk1, rfl, F1, N1⟩
  clear F' N'
  dsimp only [List.drop]
  have hlc : ∀ (h : Heap) (m : Str → Option Value), Fr g L' h m → h.IsList l vs.toArray := fun h m F => by obtain ⟨o, e, r⟩ := hlg; exact ⟨o, F.keep _ _ e, r⟩
  refine wpAny_execs_cons ?_
  refine for_range (h₀ := g) (L := L') (a := 0) (b := (xs.length : Int)) (c := 1) (n := xs.length) (fun i m nw => ∃ u, m = mq [(Str.ofString "spellings", .ref l), (Str.ofString "middle", .str (sl (midf nm xs)) t1)] u ∧ nw = []) rfl rfl (small_nat (by omega)) (size_nat (by first | rfl | assumption)) rfl rfl ?h ?turn ?done
  case h =>
    (try k_fold)
    k_steps
    unfold Hit2
    rw [hl2] at *
    refine' ⟨_, _, _, _, _, _, _, _, rfl, rfl, ?r, ?F, ?N, _, rfl, rfl⟩
    (case r => assumption)
    (case F => assumption)
    (case N => assumption)
  case done =>
    rintro m nw h tk ⟨u, rfl, rfl⟩ Fd Nd
    dsimp only
    (try k_fold)
    k_steps
    dsimp only
    exact hret _ _ _ (by (refine' stays_of ?h1 ?h2; (case h1 => assumption); (case h2 => assumption))) rfl
  case turn =>
    rintro k v t m nw It o h tk hk hv ⟨u, rfl, rfl⟩ hfr Ft Nt
    obtain rfl : v = (k : Int) := by omega
    refine wpAny_execs_cons ?_
    refine for_range (h₀ := g) (L := L') (a := 0) (b := (k : Int)) (c := 1) (n := k) (fun i m nw => ∃ u, m = mq [(Str.ofString "spellings", .ref l), (Str.ofString "middle", .str (sl (midf nm xs)) t1), (Str.ofString "k", .int (k : Nat) t)] u ∧ nw = [(It, o)]) rfl rfl (small_nat (by omega)) (size_nat (by first | rfl | assumption)) rfl rfl ?h ?turn ?done
    case h =>
      (try k_fold)
      k_steps
      unfold Hit2
      refine' ⟨_, _, _, _, _, _, _, _, rfl, rfl, ?r, ?F, ?N, _, rfl, rfl⟩
      (case r => assumption)
      (case F => wtm_at "frq")
      (case N => assumption)
    case done =>
      rintro m nw h tk ⟨u, rfl, rfl⟩ Fd Nd
      dsimp only
      (try k_fold)
      k_steps
      refine' ⟨_, _, _, [], rfl, ?F, Nd, fun _ h => (nomatch h), _, rfl, rfl⟩
      (case F => wtm_at "frq")
    case turn =>
      rintro j v t2 m nw It2 o2 h tk hj hv ⟨u, rfl, rfl⟩ hfr2 Ft2 Nt2
      obtain rfl : v = (j : Int) := by omega
      have hjx : j < xs.length := by omega
      (try k_fold)
      k_steps
      simp only [hgx j hjx, hgx k hk] at *
      have Nz := ‹News g L' _ (_ :: (It2, o2) :: _)›
      refine' (sum_pure (midf nm xs) t1 _ _ [xs.getD j [], xs.getD k []] (h128 _ (mid_fam hn xs)).1 (h128 _ (mid_fam hn xs)).2 ?hy (Nat.le_of_ble_eq_true rfl) (.cons _ _ (.cons _ _ .nil))).use ?F X' Nz T' (Nz.isList (.head _)) ?rm ?un ?_
      (case hy =>
        intro y hy
        rcases List.mem_cons.mp hy with rfl | hy
        · exact h128 _ (hgf _ hjx)
        · rw [List.mem_singleton.mp hy]; exact h128 _ (hgf _ hk))
      (case F => assumption)
      (case rm => (first | exact room3 (by assumption) (by decide) | exact room2 (by assumption) (by decide) | omega | (dsimp only [Ar, Around.deeper]; omega) | (simp only [depth_deeper, units_deeper]; dsimp only [Ar]; omega)))
      (case un => (first | exact room3 (by assumption) (by decide) | exact room2 (by assumption) (by decide) | omega | (dsimp only [Ar, Around.deeper]; omega) | (simp only [depth_deeper, units_deeper]; dsimp only [Ar]; omega)))
      rintro _ h8 tk8 F8 N8 hk8 ⟨t8, rfl⟩
      dsimp only
      (try k_fold)
      k_steps
      simp only [hgx j hjx, hgx k hk] at *
      have Nz2 := ‹News g L' _ (_ :: (It2, o2) :: _)›
      refine' (lev_pure (xs.getD j []) (xs.getD k []) _ _ _ (h128 _ (hgf _ hjx)).1 (h128 _ (hgf _ hk)).1 (h128 _ (hgf _ hjx)).2 (h128 _ (hgf _ hk)).2).use ?F X' Nz2 T' trivial ?rm ?un ?_
      (case F => assumption)
      (case rm => (first | exact room3 (by assumption) (by decide) | exact room2 (by assumption) (by decide) | omega | (dsimp only [Ar, Around.deeper]; omega) | (simp only [depth_deeper, units_deeper]; dsimp only [Ar]; omega)))
      (case un => (first | exact room3 (by assumption) (by decide) | exact room2 (by assumption) (by decide) | omega | (dsimp only [Ar, Around.deeper]; omega) | (simp only [depth_deeper, units_deeper]; dsimp only [Ar]; omega)))
      rintro _ h9 tk9 F9 N9 hk9 ⟨t9, rfl⟩
      dsimp only
      have hbt := between hn hx hlen hj hk
      (try k_fold)
      k_steps
      · exfalso
        have ha := ‹((_ : Nat) : Int) ≠ _›
        apply ha
        rw [← hbt]; simp
      · refine' ⟨_, _, _, [(It, o)], rfl, ?F, fun q hq => ?N, ?fr, _, rfl, rfl⟩
        (case F => wtm_at "frq")
        (case N =>
          rcases List.mem_cons.mp hq with rfl | hq
          · exact N9 _ (.tail _ (.head _))
          · exact N9 _ (.tail _ (.tail _ hq)))
        (case fr => exact hfr2)

end
noncomputable section
theorem delitem_mut (I dI l : Addr) (vs : List Value) (prs : List (List Nat × List Nat)) (n : Nat) (x : List Nat) (t : Tok) (hx : x.length ≤ 200) (hc : ∀ c ∈ x, 32 ≤ c ∧ c < 127) (hn : prs.length ≤ 100) (hp : ∀ p ∈ prs, (∀ c ∈ p.1, c < 128) ∧ p.1.length ≤ 200) :
    Mut Mine.hd2.heap_1 PySem.Challenge.rw_pe0272_02.row.prog 143 10 ⟨[.ref I, .str (sl x) t], []⟩ [(l, listOf vs.toArray n)] (fun _ h => TabG 223 h I dI l vs prs)
      (fun r S' => ∃ n', r = .none ∧ S' = [(l, listOf (vsF (fun p => p.1.map lowc != x.map lowc) vs prs).toArray n')]) := by
  unfold Mut
  intro w p loose mean mg mb dp un fr gd s Q E hS X T ⟨hsh, t₁, n₁, hI, hdI, hl, hP⟩ hdp hun hret
  dsimp only at hret
  w_top off; revert X; k_fill; intro X
  have X0 : (Mine.hd2.heap_1 w.params).In s.heap := X.keeps fun b o e => of_hideAll _ e
  have hl0 : s.heap.get? l = some (listOf vs.toArray n) := hS _ (.head _)
  have hIl : I ≠ l := fun e => by rw [e, hl0] at hI; injection hI with hI; injection hI with h1; cases h1
  have hdl : dI ≠ l := fun e => by rw [e, hl0] at hdI; injection hdI with hI; injection hI with h1; exact absurd h1 (by decide)
  (k_dflt (refine' enterC (args := ⟨_, _⟩) _ ?hS ?kX ?kT ?k6 ?k7 ?k8 ?k9 ?kB ?kn ?_ ?c2 ?c3 ?c4; (case hS => assumption); (case kX => assumption); (case kT => assumption); (case k6 => k_is); (case k7 => k_is); (case k8 => (dsimp only [Ar]; omega)); (case k9 => first | exact BindsTo.of_eq rfl | exact binds_K (by k_in) rfl (by k_is) rfl rfl rfl | (refine' kp_binds ?kx ?ke; (case kx => k_in); (case ke => exact fun _ => rfl))); (case kB => exact rfl); (case kn => decide); (case c2 => exact rfl); (case c3 => exact rfl); (case c4 => exact rfl); k_whole))
  intro g L' h' tk cells hg F' N' Y X' T' hlt
  obtain ⟨oc, rfl, hoc⟩ := Y.one
  (try dsimp only)
  have hI' : g.get? I = some (instObj 223 dI) := hg _ _ hI (by simpa using hIl)
  have hdI' := hg _ _ hdI (by simpa using hdl)
  have hx1 : ∀ c ∈ x, c < 128 := fun c h => by have := hc c h; omega
  k_steps
  refine' (conv_pure I (x.map lowc) _ true (by simpa using hx) (lowc_ok hc)).use ?F X' N' T' trivial ?rm ?un ?_
  (case F => assumption)
  (case rm => (first | exact room3 (by assumption) (by decide) | exact room2 (by assumption) (by decide) | omega | (dsimp only [Ar, Around.deeper]; omega) | (simp only [depth_deeper, units_deeper]; dsimp only [Ar]; omega)))
  (case un => (first | exact room3 (by assumption) (by decide) | exact room2 (by assumption) (by decide) | omega | (dsimp only [Ar, Around.deeper]; omega) | (simp only [depth_deeper, units_deeper]; dsimp only [Ar]; omega)))
  rintro _ h8 tk8 F8 N8 hk8 rfl
  dsimp only
  (try k_fold)
  k_steps
  have hcd := ‹Obj.data _ = .cell (some (.str (sl (x.map lowc)) _))›
  have Fz := ‹Fr g L' _ _›
  have Nz := ‹News g L' _ _›
  have X2 := X'.keeps Fz.keep
  have T2 := T'.keeps Fz.keep
  have hl2 := Nz.isList (a := l) (.tail _ (.head _))
  have hP2 := hP.keepsL hl0 (fun b o hb e => Fz.keep b o (hg b o e (by simpa using hb)))
  have hc1 := (Nz _ (.head _)).1
  dsimp only at hc1
  refine' CompX.list hl2 ?hz (fun _ i ys _ nw => nw = [] ∧ ys = vsF (fun p => p.1.map lowc != x.map lowc) (vs.take i) (prs.take i)) ?h0 ?st (doneL2 Fz Nz ?fin)
  (case hz => rw [sizeLine_eq]; simp [hP.length]; omega)
  (case h0 => intro C cells hC hcl; cases hcl; exact ⟨rfl, rfl⟩)
  (case st =>
    intro C i v ys m nw rest h tk hi hJ hv F N hoff
    dsimp only at F N hi
    obtain ⟨rfl, rfl⟩ := hJ
    have hv' : vs[i]? = some v := by simpa using hv
    obtain ⟨hi2, T, tk1, tv1, rfl, hT⟩ := hP2.get hv'
    refine cmp_store F (fun h9 F9 hk9 => ?_) rfl rfl
    have N9 := news_but N hk9
    have hq1 := (hp _ (List.getElem_mem hi2)).1
    have hq2 := (hp _ (List.getElem_mem hi2)).2
    refine wpAny_tests_one ?_
    k_steps
    · refine ⟨_, _, _, [], rfl, F9, N9, fun _ h => (nomatch h), rfl, ?_⟩
      have e := ‹(sl _ != sl _) = true›
      rw [bne, sl_beq] at e
      rw [vsF_step hv' hi2, if_pos (by simpa using e)]
    · refine ⟨_, _, _, [], rfl, F9, N9, fun _ h => (nomatch h), rfl, ?_⟩
      have e := ‹(sl _ != sl _) = false›
      rw [bne, sl_beq] at e
      rw [vsF_step hv' hi2, if_neg (by simpa using e), List.append_nil])
  (case fin =>
    intro D C ys m nw h tk hJ F9 N9 hk9 hD0 _ _
    obtain ⟨rfl, rfl⟩ := hJ
    have hvl := hP.length
    rw [List.take_of_length_le (by simp), List.take_of_length_le (by simp [hvl])] at N9
    (try k_fold)
    k_steps
    have hlD : l ≠ D := fun e => by obtain ⟨o, e2, _⟩ := hl2; rw [← e, e2] at hD0; cases hD0
    have hcl : L' + 1 ≠ l := fun e => by
      have := (Nz _ (.head _)).1
      dsimp only at this
      rw [e, (Nz (l, _) (.tail _ (.head _))).1] at this
      injection this with this
      rw [← this] at hcd
      cases hcd
    have hlh := Heap.lt_size (N9 (l, listOf vs.toArray n) (.tail _ (.tail _ (.head _)))).1
    refine' setItem_allN (l := l) (n := n) (new := (vsF (fun p => p.1.map lowc != x.map lowc) vs prs).toArray) (pre := [(_, _), (D, _), (L' + 1, _)]) (post := []) (F9.push _) (N9.push F9 _) ?hpre (fun _ h => (nomatch h)) (Heap.IsSliceOf.new ..) ((N9.isList (.head _)).push _) hlD ?hz1 ?hz2 ?_
    (case hpre =>
      intro p hp
      rcases List.mem_cons.mp hp with rfl | hp
      · exact Nat.ne_of_gt hlh
      · rcases List.mem_cons.mp hp with rfl | hp
        · exact Ne.symm hlD
        · rw [List.mem_singleton.mp hp]; exact hcl)
    (case hz1 => simp; omega)
    (case hz2 =>
      have q := vsF_len (p := fun p => p.1.map lowc != x.map lowc) (vs := vs) (prs := prs)
      simp only [List.size_toArray]; omega)
    intro h7 n7 F7 N7
    (try k_fold)
    k_steps
    have e1 := Mut.end (S' := [(l, listOf (vsF (fun p => p.1.map lowc != x.map lowc) vs prs).toArray n7)]) hg F7 N7 (fun q hq => by rw [List.mem_singleton.mp hq]; exact .tail _ (.tail _ (.tail _ (.head _))))
    exact hret _ _ _ _ e1.1 e1.2 ⟨n7, rfl, rfl⟩)

end
noncomputable section
theorem setitem_mut (I dI l : Addr) (vs : List Value) (prs : List (List Nat × List Nat)) (n : Nat) (x y : List Nat) (t u : Tok) (hx : x.length ≤ 200) (hc : ∀ c ∈ x, 32 ≤ c ∧ c < 127) (hy : y.length ≤ 200) (hd : ∀ c ∈ y, 32 ≤ c ∧ c < 127) (hn : prs.length ≤ 100) (hp : ∀ p ∈ prs, (∀ c ∈ p.1, c < 128) ∧ p.1.length ≤ 200) :
    Mut Mine.hd2.heap_1 PySem.Challenge.rw_pe0272_02.row.prog 138 14 ⟨[.ref I, .str (sl x) t, .str (sl y) u], []⟩ [(l, listOf vs.toArray n)] (fun _ h => TabG 223 h I dI l vs prs)
      (fun r S' => ∃ T tk tv n' n₂, r = .none ∧ S' = [(l, listOf (vsF (fun p => p.1.map lowc != x.map lowc) vs prs ++ [Value.ref T]).toArray n'), (T, { cls := .type "tuple", data := .seq #[.str (sl x) tk, .str (sl y) tv] n₂ })]) := by
  unfold Mut
  intro w p loose mean mg mb dp un fr gd s Q E hS X T ⟨hsh, t₁, n₁, hI, hdI, hl, hP⟩ hdp hun hret
  dsimp only at hret
  w_top off; revert X; k_fill; intro X
  have X0 : (Mine.hd2.heap_1 w.params).In s.heap := X.keeps fun b o e => of_hideAll _ e
  have hl0 : s.heap.get? l = some (listOf vs.toArray n) := hS _ (.head _)
  have hIl : I ≠ l := fun e => by rw [e, hl0] at hI; injection hI with hI; injection hI with h1; cases h1
  have hdl : dI ≠ l := fun e => by rw [e, hl0] at hdI; injection hdI with hI; injection hI with h1; exact absurd h1 (by decide)
  (k_dflt (refine' enterS (args := ⟨_, _⟩) _ ?hS ?kX ?kT ?k6 ?k7 ?k8 ?k9 ?kB ?_ ?c2 ?c3 ?c4 ?c5; (case hS => assumption); (case kX => assumption); (case kT => assumption); (case k6 => k_is); (case k7 => k_is); (case k8 => (dsimp only [Ar]; omega)); (case k9 => first | exact BindsTo.of_eq rfl | exact binds_K (by k_in) rfl (by k_is) rfl rfl rfl | (refine' kp_binds ?kx ?ke; (case kx => k_in); (case ke => exact fun _ => rfl))); (case c5 => decide); (case kB => exact locs rfl); (case c2 => exact rfl); (case c3 => exact rfl); (case c4 => exact rfl); k_whole))
  intro g L' h' hg F' N' X' T' hlt
  (try dsimp only)
  have hI' : g.get? I = some (instObj 223 dI) := hg _ _ hI (by simpa using hIl)
  have hdI' := hg _ _ hdI (by simpa using hdl)
  have hlg : h'.IsList l vs.toArray := N'.isList (.head _)
  have hP1 := hP.keepsL hl0 (fun b o hb e => F'.keep b o (hg b o e (by simpa using hb)))
  k_steps
  unfold Stop
  refine' own_delItem ?dF ?dX ?dI ?dQ ?dS ?dH ?_
  (case dF => k_asm)
  (case dX => k_asm)
  (case dI => k_inst)
  (case dS => k_is)
  (case dH => k_is)
  (case dQ => k_is)
  k_whole
  refine' (delitem_mut I dI l vs prs n x t hx hc hn hp).use [] ?F X' ?N T' ?hS (fun _ h => nomatch h) ⟨hsh, t₁, n₁, F'.keep _ _ hI', F'.keep _ _ hdI', hlg, hP1⟩ ?rm ?un ?_
  (case F => assumption)
  (case N => assumption)
  (case hS => exact fun q hq => hq)
  (case rm => (first | exact room3 (by assumption) (by decide) | exact room2 (by assumption) (by decide) | omega | (dsimp only [Ar, Around.deeper]; omega) | (simp only [depth_deeper, units_deeper]; dsimp only [Ar]; omega)))
  (case un => (first | exact room3 (by assumption) (by decide) | exact room2 (by assumption) (by decide) | omega | (dsimp only [Ar, Around.deeper]; omega) | (simp only [depth_deeper, units_deeper]; dsimp only [Ar]; omega)))
  rintro _ h8 tk8 S8 F8 N8 hk8 ⟨n8, rfl, rfl⟩
  dsimp only
  rw [List.append_nil] at N8
  have hvl := hP.length
  have hvf := vsF_len (p := fun p => p.1.map lowc != x.map lowc) (vs := vs) (prs := prs)
  (try k_fold)
  k_steps
  refine' (conv_pure I x _ true hx hc).use ?F X' ?N T' trivial ?rm ?un ?_
  (case F => assumption)
  (case N => assumption)
  (case rm => (first | exact room3 (by assumption) (by decide) | exact room2 (by assumption) (by decide) | omega | (dsimp only [Ar, Around.deeper]; omega) | (simp only [depth_deeper, units_deeper]; dsimp only [Ar]; omega)))
  (case un => (first | exact room3 (by assumption) (by decide) | exact room2 (by assumption) (by decide) | omega | (dsimp only [Ar, Around.deeper]; omega) | (simp only [depth_deeper, units_deeper]; dsimp only [Ar]; omega)))
  rintro _ h5 tk5 F5 N5 hk5 rfl
  dsimp only
  (try k_fold)
  k_steps
  refine' (conv_pure I y _ false hy hd).use ?F X' ?N T' trivial ?rm ?un ?_
  (case F => assumption)
  (case N => assumption)
  (case rm => (first | exact room3 (by assumption) (by decide) | exact room2 (by assumption) (by decide) | omega | (dsimp only [Ar, Around.deeper]; omega) | (simp only [depth_deeper, units_deeper]; dsimp only [Ar]; omega)))
  (case un => (first | exact room3 (by assumption) (by decide) | exact room2 (by assumption) (by decide) | omega | (dsimp only [Ar, Around.deeper]; omega) | (simp only [depth_deeper, units_deeper]; dsimp only [Ar]; omega)))
  rintro _ h4 tk4 F4 N4 hk4 rfl
  dsimp only
  (try k_fold)
  k_steps
  have e1 := Mut.end (S' := [_, _]) hg ‹Fr g L' _ _› ‹News g L' _ _› (fun q hq => by
    rcases List.mem_cons.mp hq with rfl | hq
    · exact .tail _ (.head _)
    · rw [List.mem_singleton.mp hq]; exact .head _)
  exact hret _ _ _ _ e1.1 e1.2 ⟨_, _, _, _, _, rfl, add_eq⟩
theorem settle_mut (I dI l : Addr) (vs : List Value) (prs : List (List Nat × List Nat)) (n : Nat) (x y : List Nat) (t u : Tok) (hx : x.length ≤ 200) (hc : ∀ c ∈ x, 32 ≤ c ∧ c < 127) (hy : y.length ≤ 200) (hd : ∀ c ∈ y, 32 ≤ c ∧ c < 127) (hn : prs.length ≤ 100) (hp : ∀ p ∈ prs, (∀ c ∈ p.1, c < 128) ∧ p.1.length ≤ 200) :
    Mut Mine.hd2.heap_1 PySem.Challenge.rw_pe0272_02.row.prog 268 18 ⟨[.ref I, .str (sl x) t, .str (sl y) u], []⟩ [(l, listOf vs.toArray n)] (fun _ h => TabG 223 h I dI l vs prs)
      (fun r S' => ∃ T tk tv n' n₂, r = .none ∧ S' = [(l, listOf (vsF (fun p => p.1.map lowc != x.map lowc) vs prs ++ [Value.ref T]).toArray n'), (T, { cls := .type "tuple", data := .seq #[.str (sl x) tk, .str (sl y) tv] n₂ })]) := by
  unfold Mut
  intro w p loose mean mg mb dp un fr gd s Q E hS X T ⟨hsh, t₁, n₁, hI, hdI, hl, hP⟩ hdp hun hret
  dsimp only at hret
  revert X; k_fill; intro X
  have X0 : (Mine.hd2.heap_1 w.params).In s.heap := X.keeps fun b o e => of_hideAll _ e
  have hl0 : s.heap.get? l = some (listOf vs.toArray n) := hS _ (.head _)
  have hIl : I ≠ l := fun e => by rw [e, hl0] at hI; injection hI with hI; injection hI with h1; cases h1
  have hdl : dI ≠ l := fun e => by rw [e, hl0] at hdI; injection hdI with hI; injection hI with h1; exact absurd h1 (by decide)
  (k_dflt (refine' enterS (args := ⟨_, _⟩) _ ?hS ?kX ?kT ?k6 ?k7 ?k8 ?k9 ?kB ?_ ?c2 ?c3 ?c4 ?c5; (case hS => assumption); (case kX => assumption); (case kT => assumption); (case k6 => k_is); (case k7 => k_is); (case k8 => (dsimp only [Ar]; omega)); (case k9 => first | exact BindsTo.of_eq rfl | exact binds_K (by k_in) rfl (by k_is) rfl rfl rfl | (refine' kp_binds ?kx ?ke; (case kx => k_in); (case ke => exact fun _ => rfl))); (case c5 => decide); (case kB => exact locs rfl); (case c2 => exact rfl); (case c3 => exact rfl); (case c4 => exact rfl); k_whole))
  intro g L' h' hg F' N' X' T' hlt
  (try dsimp only)
  have hI' : g.get? I = some (instObj 223 dI) := hg _ _ hI (by simpa using hIl)
  have hdI' := hg _ _ hdI (by simpa using hdl)
  have hlg : h'.IsList l vs.toArray := N'.isList (.head _)
  have hP1 := hP.keepsL hl0 (fun b o hb e => F'.keep b o (hg b o e (by simpa using hb)))
  k_steps
  refine' (setitem_mut I dI l vs prs n x y t u hx hc hy hd hn hp).use [] ?F X' ?N T' ?hS (fun _ h => nomatch h) ⟨hsh, t₁, n₁, F'.keep _ _ hI', F'.keep _ _ hdI', hlg, hP1⟩ ?rm ?un ?_
  (case F => assumption)
  (case N => assumption)
  (case hS => exact fun q hq => hq)
  (case rm => (first | exact room3 (by assumption) (by decide) | exact room2 (by assumption) (by decide) | omega | (dsimp only [Ar, Around.deeper]; omega) | (simp only [depth_deeper, units_deeper]; dsimp only [Ar]; omega)))
  (case un => (first | exact room3 (by assumption) (by decide) | exact room2 (by assumption) (by decide) | omega | (dsimp only [Ar, Around.deeper]; omega) | (simp only [depth_deeper, units_deeper]; dsimp only [Ar]; omega)))
  rintro _ h8 tk8 S8 F8 N8 hk8 ⟨T, tk, tv, n', n₂, rfl, rfl⟩
  dsimp only
  (try k_fold)
  k_steps
  have e1 := Mut.end (S' := [_, _]) hg F8 N8 (fun q hq => List.mem_append_left _ hq)
  exact hret _ _ _ _ e1.1 e1.2 ⟨_, _, _, _, _, rfl, rfl⟩

end
noncomputable section
theorem items_mut (I dI l : Addr) (vs : List Value) (prs : List (List Nat × List Nat)) (hn : prs.length ≤ 100) :
    Mut Mine.hd2.heap_1 PySem.Challenge.rw_pe0272_02.row.prog 187 6 ⟨[.ref I], []⟩ [] (fun _ h => TabG 223 h I dI l vs prs)
      (fun r S' => ∃ D n, r = .ref D ∧ S' = [(D, listOf vs.toArray n)]) := by
  unfold Mut
  intro w p loose mean mg mb dp un fr gd s Q E hS X T ⟨hsh, t₁, n₁, hI, hdI, hl, hP⟩ hdp hun hret
  dsimp only at hret
  w_top off; revert X; k_fill; intro X
  have X0 : (Mine.hd2.heap_1 w.params).In s.heap := X.keeps fun b o e => of_hideAll _ e
  (k_dflt (refine' enterS (args := ⟨_, _⟩) [] ?hS ?kX ?kT ?k6 ?k7 ?k8 ?k9 ?kB ?_ ?c2 ?c3 ?c4 ?c5; (case hS => exact List.forall_mem_nil _); (case kX => assumption); (case kT => assumption); (case k6 => k_is); (case k7 => k_is); (case k8 => (dsimp only [Ar]; omega)); (case k9 => first | exact BindsTo.of_eq rfl | exact binds_K (by k_in) rfl (by k_is) rfl rfl rfl | (refine' kp_binds ?kx ?ke; (case kx => k_in); (case ke => exact fun _ => rfl))); (case c5 => decide); (case kB => exact locs rfl); (case c2 => exact rfl); (case c3 => exact rfl); (case c4 => exact rfl); k_whole))
  intro g L' h' hg F' N' X' T' _
  (try dsimp only)
  have hI' : g.get? I = some (instObj 223 dI) := hg _ _ hI List.not_mem_nil
  have hdI' := hg _ _ hdI List.not_mem_nil
  have hlg : g.IsList l vs.toArray := by obtain ⟨o, e, r⟩ := hl; exact ⟨o, hg _ _ e List.not_mem_nil, r⟩
  have hlg' : h'.IsList l vs.toArray := by obtain ⟨o, e, r⟩ := hlg; exact ⟨o, F'.keep _ _ e, r⟩
  have hvl := hP.length
  k_steps
  dsimp only
  refine ret_mut hret hg ‹Fr g L' _ _› ‹News g L' _ _› ⟨_, 0, rfl, ?_⟩
  rw [slicePick_all]

end
noncomputable section
-- the two names, their spellings, what the turns do
noncomputable def nmOf (i : Nat) : List Nat := if i = 0 then [97, 98, 99] else [100, 101]
noncomputable def chOf (i : Nat) : List (List Nat) := if i = 0 then (List.range 8).map spell else (List.range 4).map fun k => spell (8 + k)
theorem nm_ok (i : Nat) : NmOk (nmOf i) := by
  unfold nmOf NmOk
  by_cases h : i = 0
  · rw [if_pos h]; decide
  · rw [if_neg h]; decide
theorem nm_len (i : Nat) : 2 ≤ (nmOf i).length ∧ (nmOf i).length ≤ 3 := by
  unfold nmOf; split <;> decide
theorem ch_len (i : Nat) : 4 ≤ (chOf i).length ∧ (chOf i).length ≤ 8 := by
  unfold chOf; split <;> decide
theorem ch_first (i : Nat) : (chOf i).getD 0 [] = nmOf i := by
  unfold chOf nmOf; split <;> decide
theorem ch_last (i : Nat) : (chOf i).getD ((chOf i).length - 1) [] = (nmOf i).map upc := by
  unfold chOf nmOf; split <;> decide
theorem ch_fam (i : Nat) : ∀ c ∈ chOf i, c.map lowc = nmOf i := by
  unfold chOf nmOf; split <;> decide
theorem fam3 {a b c : Nat} {y : List Nat} (ha : 97 ≤ a ∧ a ≤ 122) (hb : 97 ≤ b ∧ b ≤ 122) (hc : 97 ≤ c ∧ c ≤ 122) (h : y.map lowc = [a, b, c]) : ∃ p q r, y = [p, q, r] ∧ (p = a ∨ p = upc a) ∧ (q = b ∨ q = upc b) ∧ (r = c ∨ r = upc c) := by
  rcases y with _ | ⟨p, _ | ⟨q, _ | ⟨r, _ | ⟨_, _⟩⟩⟩⟩ <;> simp only [List.map_nil, List.map_cons, List.cons.injEq, reduceCtorEq, and_true, and_false, false_and] at h
  exact ⟨p, q, r, rfl, lowc_cases ha h.1, lowc_cases hb h.2.1, lowc_cases hc h.2.2⟩
theorem fam2 {a b : Nat} {y : List Nat} (ha : 97 ≤ a ∧ a ≤ 122) (hb : 97 ≤ b ∧ b ≤ 122) (h : y.map lowc = [a, b]) : ∃ p q, y = [p, q] ∧ (p = a ∨ p = upc a) ∧ (q = b ∨ q = upc b) := by
  rcases y with _ | ⟨p, _ | ⟨q, _ | ⟨_, _⟩⟩⟩ <;> simp only [List.map_nil, List.map_cons, List.cons.injEq, reduceCtorEq, and_true, and_false, false_and] at h
  exact ⟨p, q, rfl, lowc_cases ha h.1, lowc_cases hb h.2⟩
theorem ch_all (i : Nat) : ∀ c, c.map lowc = nmOf i → c ∈ chOf i := by
  intro c h
  unfold nmOf at h
  unfold chOf
  by_cases e : i = 0
  · rw [if_pos e] at h ⊢
    obtain ⟨p, q, r, rfl, h1, h2, h3⟩ := fam3 (by decide) (by decide) (by decide) h
    rcases h1 with rfl | rfl <;> rcases h2 with rfl | rfl <;> rcases h3 with rfl | rfl <;> decide
  · rw [if_neg e] at h ⊢
    obtain ⟨p, q, rfl, h1, h2⟩ := fam2 (by decide) (by decide) h
    rcases h1 with rfl | rfl <;> rcases h2 with rfl | rfl <;> decide
noncomputable def plains (A : List (List Nat)) (i : Nat) : List (List Nat) := A.filter fun y => y.map lowc == nmOf i
theorem plains_fam (A : List (List Nat)) (i : Nat) : ∀ y ∈ plains A i, y.map lowc = nmOf i := fun y hy => by simpa using (List.mem_filter.mp hy).2
noncomputable def midOf (A : List (List Nat)) (i : Nat) : List Nat := midf (nmOf i) (plains A i)
noncomputable def lstOf (A : List (List Nat)) (i : Nat) : Nat := leastf (nmOf i) (plains A i)
noncomputable def txtOf (n : Nat) : List Nat := (toString n).toList.map Char.toNat
noncomputable def tabAt (A : List (List Nat)) : Nat → List (List Nat × List Nat)
  | 0 => A.map fun y => (y, y)
  | i + 1 => (tabAt A i).filter (fun p => p.1.map lowc != (midOf A i).map lowc) ++ [(midOf A i, txtOf (lstOf A i))]
noncomputable def dueAt (A : List (List Nat)) (i : Nat) : List (List Nat × List Nat) := (List.range i).map fun k => (midOf A k, txtOf (lstOf A k))
theorem mid_low (A : List (List Nat)) (i : Nat) : (midOf A i).map lowc = nmOf i := mid_fam (nm_ok i) _
theorem tab_plain (A : List (List Nat)) : ∀ i, i < 2 → ((tabAt A i).filter fun p => p.1.map lowc == nmOf i).map (·.2) = plains A i
  | 0, _ => by
    show ((A.map fun y => (y, y)).filter fun p => p.1.map lowc == nmOf 0).map (·.2) = A.filter _
    rw [List.filter_map, List.map_map]
    show (List.filter _ A).map id = _
    rw [List.map_id]; rfl
  | 1, _ => by
    show ((((A.map fun y => (y, y)).filter _) ++ [(midOf A 0, txtOf (lstOf A 0))]).filter fun p => p.1.map lowc == nmOf 1).map (·.2) = A.filter _
    rw [List.filter_append, List.filter_cons, if_neg (by rw [mid_low]; decide), List.filter_nil, List.append_nil, List.filter_filter, List.filter_map, List.map_map]
    show (List.filter _ A).map id = _
    rw [List.map_id]
    refine List.filter_congr fun y _ => ?_
    show ((y.map lowc == nmOf 1) && (y.map lowc != (midOf A 0).map lowc)) = (y.map lowc == nmOf 1)
    rw [mid_low]
    by_cases h : y.map lowc = nmOf 1
    · rw [h]; decide
    · rw [show (y.map lowc == nmOf 1) = false from beq_eq_false_iff_ne.mpr h]; rfl
  | n + 2, h => absurd h (by omega)
theorem tab_end (A : List (List Nat)) (hA : ∀ y ∈ A, y.map lowc = nmOf 0 ∨ y.map lowc = nmOf 1) : tabAt A 2 = dueAt A 2 := by
  show ((((A.map fun y => (y, y)).filter _) ++ [(midOf A 0, txtOf (lstOf A 0))]).filter _) ++ [(midOf A 1, txtOf (lstOf A 1))] = [(midOf A 0, txtOf (lstOf A 0)), (midOf A 1, txtOf (lstOf A 1))]
  rw [List.filter_append, List.filter_cons, if_pos (by rw [mid_low, mid_low]; decide), List.filter_nil, List.filter_filter]
  have : (A.map fun y => (y, y)).filter (fun p => (p.1.map lowc != (midOf A 1).map lowc) && (p.1.map lowc != (midOf A 0).map lowc)) = [] := by
    rw [List.filter_eq_nil_iff]
    rintro p hp
    obtain ⟨y, hy, rfl⟩ := List.mem_map.mp hp
    rw [mid_low, mid_low]
    rcases hA y hy with e | e <;> rw [e] <;> decide
  rw [this]; rfl
theorem txt_ok : ∀ n, n < 100 → (∀ c ∈ txtOf n, 32 ≤ c ∧ c < 127) ∧ (txtOf n).length ≤ 2 := by decide +kernel
theorem tab_ok (A : List (List Nat)) (hA : ∀ y ∈ A, (∀ c ∈ y, 32 ≤ c ∧ c < 127) ∧ y.length ≤ 3) (hl : ∀ i, lstOf A i < 100) : ∀ i, (∀ p ∈ tabAt A i, (∀ c ∈ p.1, c < 128) ∧ p.1.length ≤ 200) ∧ (tabAt A i).length ≤ A.length + i
  | 0 => by
    refine ⟨fun p hp => ?_, by simp [tabAt]⟩
    obtain ⟨y, hy, rfl⟩ := List.mem_map.mp hp
    have := hA y hy
    exact ⟨fun c hc => by have := this.1 c hc; omega, by show y.length ≤ 200; omega⟩
  | i + 1 => by
    have ih := tab_ok A hA hl i
    refine ⟨fun p hp => ?_, ?_⟩
    · rcases List.mem_append.mp hp with hp | hp
      · exact ih.1 p (List.mem_filter.mp hp).1
      · rw [List.mem_singleton.mp hp]
        have := nm_len i
        exact ⟨fam_small (nm_ok i) (mid_low A i), by show (midOf A i).length ≤ 200; rw [fam_len (mid_low A i)]; omega⟩
    · show (List.filter _ _ ++ [_]).length ≤ _
      rw [List.length_append, List.length_singleton]
      have := List.length_filter_le (fun p => p.1.map lowc != (midOf A i).map lowc) (tabAt A i)
      omega
theorem lst_lt (A : List (List Nat)) (hA : A.length ≤ 11) (i : Nat) : lstOf A i < 100 := by
  have h1 : (plains A i).length ≤ 11 := Nat.le_trans (List.length_filter_le _ _) hA
  have h2 := nm_len i
  unfold lstOf leastf
  have : ∀ l : List Nat, (l.map fun k => min (gr (nmOf i) (plains A i) k) ((plains A i).length - gr (nmOf i) (plains A i) k)).sum ≤ 11 * l.length := fun l => by
    induction l with
    | nil => exact Nat.le_refl _
    | cons k l ih => rw [List.map_cons, List.sum_cons, List.length_cons]; omega
  have := this (List.range (nmOf i).length)
  rw [List.length_range] at this
  omega
theorem up_low (i : Nat) : ((nmOf i).map upc).map lowc = nmOf i := by
  unfold nmOf; split <;> decide
theorem up_ok (i : Nat) : (∀ c ∈ (nmOf i).map upc, 32 ≤ c ∧ c < 127) ∧ ((nmOf i).map upc).length ≤ 3 := by
  unfold nmOf; split <;> decide
theorem low_nm (i : Nat) : (nmOf i).map lowc = nmOf i := by
  unfold nmOf; split <;> decide
theorem told_eq (A : List (List Nat)) (i : Nat) : ((chOf i).map fun c => (((plains A i).map fun y => cost c y).sum : Nat) |> Int.ofNat) = (chOf i).map fun c => ((List.range (nmOf i).length).map fun k => ((cnt (nmOf i) (plains A i) c k : Nat) : Int)).sum := by
  refine List.map_congr_left fun c hc => ?_
  rw [isum_map, sum_cnt (nm_ok i) (ch_fam i c hc) _ _ rfl (plains_fam A i)]
  rfl
theorem mid_ch (A : List (List Nat)) (i : Nat) : midOf A i ∈ chOf i := ch_all i _ (mid_low A i)
theorem sum_ch (A : List (List Nat)) (i : Nat) {c : List Nat} (hc : c ∈ chOf i) : ((plains A i).map fun y => cost c y).sum = ((List.range (nmOf i).length).map (cnt (nmOf i) (plains A i) c)).sum :=
  sum_cnt (nm_ok i) (ch_fam i c hc) _ _ rfl (plains_fam A i)
theorem least_eq (A : List (List Nat)) (i : Nat) {M : Int} (h1 : M ∈ (chOf i).map fun c => Int.ofNat ((plains A i).map fun y => cost c y).sum) (h2 : ∀ a, a ∈ (chOf i).map (fun c => Int.ofNat ((plains A i).map fun y => cost c y).sum) → M ≤ a) : M = ((lstOf A i : Nat) : Int) := by
  obtain ⟨c, hc, rfl⟩ := List.mem_map.mp h1
  have h3 := h2 _ (List.mem_map_of_mem (mid_ch A i))
  rw [sum_ch A i (mid_ch A i), show ((List.range (nmOf i).length).map (cnt (nmOf i) (plains A i) (midOf A i))).sum = lstOf A i from mid_least (nm_ok i) _] at h3
  rw [sum_ch A i hc] at h3 ⊢
  have h4 : lstOf A i ≤ ((List.range (nmOf i).length).map (cnt (nmOf i) (plains A i) c)).sum := least_le _ _ _
  have h5 : (Int.ofNat ((List.range (nmOf i).length).map (cnt (nmOf i) (plains A i) c)).sum : Int) ≤ Int.ofNat (lstOf A i) := h3
  have h6 := Int.ofNat_le.mp h5
  exact congrArg Int.ofNat (Nat.le_antisymm h6 h4)
noncomputable def nearP (A : List (List Nat)) (i : Nat) (c : List Nat) : Bool := decide (((plains A i).map fun y => cost c y).sum = lstOf A i)
theorem near_iff (A : List (List Nat)) (i : Nat) {c : List Nat} (hc : c ∈ chOf i) : nearP A i c = true ↔ ∀ k, k < (nmOf i).length → 2 * cnt (nmOf i) (plains A i) c k ≤ (plains A i).length := by
  unfold nearP
  rw [decide_eq_true_eq, sum_ch A i hc]
  exact least_iff _ _ _
theorem near_max (A : List (List Nat)) (i : Nat) {c : List Nat} (hc : c ∈ chOf i) {M : Int} (h1 : M ∈ (List.range (nmOf i).length).map fun k => ((cnt (nmOf i) (plains A i) c k : Nat) : Int)) (h2 : ∀ a, a ∈ (List.range (nmOf i).length).map (fun k => ((cnt (nmOf i) (plains A i) c k : Nat) : Int)) → a ≤ M) :
    nearP A i c = true ↔ 2 * M ≤ ((plains A i).length : Int) := by
  rw [near_iff A i hc]
  constructor
  · intro h
    obtain ⟨k, hk, rfl⟩ := List.mem_map.mp h1
    have := h k (List.mem_range.mp hk)
    omega
  · intro h k hk
    have := h2 _ (List.mem_map_of_mem (List.mem_range.mpr hk))
    omega
theorem near_mid (A : List (List Nat)) (i : Nat) : midOf A i ∈ (chOf i).filter (nearP A i) := by
  refine List.mem_filter.mpr ⟨mid_ch A i, ?_⟩
  unfold nearP
  rw [decide_eq_true_eq, sum_ch A i (mid_ch A i)]
  exact mid_least (nm_ok i) _
theorem txt_str : ∀ n : Nat, n < 100 → Str.ofString (toString (n : Int)) = sl (txtOf n) := by decide +kernel
theorem ch_ok (i : Nat) : ∀ c ∈ chOf i, (∀ x ∈ c, 32 ≤ x ∧ x < 127) ∧ c.length ≤ 3 := by
  unfold chOf; split <;> decide
theorem mid_ok (A : List (List Nat)) (i : Nat) : (∀ c ∈ midOf A i, 32 ≤ c ∧ c < 127) ∧ (midOf A i).length ≤ 3 := by
  have h := ch_ok i
  exact h _ (mid_ch A i)

end
section
local macro_rules | `(tactic| walk_at "call builtin:list.append") => `(tactic| (k_here; refine Stop.out ?_))
local macro_rules | `(tactic| walk_at "call type:zip") => `(tactic| (k_here; refine Stop.out ?_))
local macro_rules | `(tactic| walk_at "compareOp NotEq ref ref") => `(tactic| (k_here; refine Stop.out ?_))
local macro_rules | `(tactic| walk_at "compareOp Eq ref ref") => `(tactic| (k_here; refine Stop.out ?_))
local macro_rules | `(tactic| wtm_at "mem") => `(tactic| first | exact List.Mem.head _ | exact List.mem_append_right _ (List.Mem.head _) | (refine' List.Mem.tail _ ?_; wtm_at "mem"))
local macro_rules | `(tactic| wtm_at "sub") => `(tactic| first
  | exact List.forall_mem_nil _
  | (refine' sub_cons ?a ?b; (case a => wtm_at "mem"); (case b => wtm_at "sub"))
  | (refine' sub_app ?a ?b; (case a => wtm_at "sub"); (case b => wtm_at "sub"))
  | exact fun _ h => h
  | exact fun _ h => List.mem_append_left _ h
  | exact fun _ h => List.mem_append_right _ h
  | exact fun _ h => List.mem_append_left _ (vsF_mem h)
  | (refine' sub_skip ?a; (case a => wtm_at "sub")))
noncomputable def figsI (ns : List Int) : List Int := ns.take 6 ++ [2, 4, 3, 9, 10]
noncomputable def arrs (ns : List Int) : List (List Nat) := (figsI ns).map fun x => spell (x % 12).toNat
noncomputable def strN (ns : List Int) : Nat := ((ns.map fun x => x % 16384).sum + 418).toNat
theorem strN_eq (ns : List Int) : ((ns.map fun x => x.fmod 16384).sum + 418) = ((strN ns : Nat) : Int) := by
  have e : (ns.map fun x : Int => x.fmod 16384) = ns.map fun x => x % 16384 := List.map_congr_left fun x _ => Int.fmod_eq_emod_of_nonneg _ (by decide)
  have h0 : ∀ l : List Int, 0 ≤ (l.map fun x => x % 16384).sum := fun l => by
    induction l with
    | nil => exact Int.le_refl _
    | cons x l ih => rw [List.map_cons, List.sum_cons]; have := Int.emod_nonneg x (b := 16384) (by decide); omega
  rw [e]
  unfold strN
  have := h0 ns
  omega
theorem spell_ok : ∀ f, f < 12 → (∀ c ∈ spell f, 32 ≤ c ∧ c < 127) ∧ (spell f).length ≤ 3 := by decide
theorem arrs_ok (ns : List Int) : ∀ y ∈ arrs ns, (∀ c ∈ y, 32 ≤ c ∧ c < 127) ∧ y.length ≤ 3 := fun y hy => by
  obtain ⟨x, _, rfl⟩ := List.mem_map.mp hy
  exact spell_ok _ (by omega)
theorem spell_fam : ∀ f, f < 12 → (spell f).map lowc = nmOf 0 ∨ (spell f).map lowc = nmOf 1 := by decide
theorem arrs_fam (ns : List Int) : ∀ y ∈ arrs ns, y.map lowc = nmOf 0 ∨ y.map lowc = nmOf 1 := fun y hy => by
  obtain ⟨x, _, rfl⟩ := List.mem_map.mp hy
  exact spell_fam _ (by omega)
theorem plains_len (ns : List Int) (i : Nat) : 0 < (plains (arrs ns) i).length := by
  unfold plains nmOf
  by_cases h : i = 0
  · refine List.length_pos_of_mem (a := spell 2) (List.mem_filter.mpr ⟨List.mem_map.mpr ⟨2, by simp [figsI], by decide⟩, by rw [if_pos h]; decide⟩)
  · refine List.length_pos_of_mem (a := spell 9) (List.mem_filter.mpr ⟨List.mem_map.mpr ⟨9, by simp [figsI], by decide⟩, by rw [if_neg h]; decide⟩)
set_option maxHeartbeats 100000000 in
theorem law_pure (a : Addr) (vs : List Value) (ns : List Int) (hI : IntsAre vs ns) (hlen : ns.length ≤ 63) :
    Pure Mine.hd2.heap_1 PySem.Challenge.rw_pe0272_02.row.prog 273 60 ⟨[.ref a], []⟩ (fun _ h => h.IsList a vs.toArray) (fun r _ => r = .bool true) := by
  unfold Pure
  intro w p loose mean mg mb dp un fr gd s Q E X T hl hdp hun hret
  dsimp only at hret
  w_top off; revert X; k_fill; intro X
  (k_dflt (refine' enterC (args := ⟨_, _⟩) [] ?hS ?kX ?kT ?k6 ?k7 ?k8 ?k9 ?kB ?kn ?_ ?c2 ?c3 ?c4; (case hS => exact List.forall_mem_nil _); (case kX => assumption); (case kT => assumption); (case k6 => k_is); (case k7 => k_is); (case k8 => (dsimp only [Ar]; omega)); (case k9 => first | exact BindsTo.of_eq rfl | exact binds_K (by k_in) rfl (by k_is) rfl rfl rfl | (refine' kp_binds ?kx ?ke; (case kx => k_in); (case ke => exact fun _ => rfl))); (case kB => exact rfl); (case kn => decide); (case c2 => exact rfl); (case c3 => exact rfl); (case c4 => exact rfl); k_whole))
  intro g L' h' tk cells hg F' N' Y X' T' _
  obtain ⟨cL, cG, cC, cP, cN, rfl, hcL, hcG, hcC, hcP, hcN⟩ := cells5 Y
  (try dsimp only)
  dsimp only at N'
  rw [List.append_nil] at N'
  have hlg : g.IsList a vs.toArray := by obtain ⟨o, e, r⟩ := hl; exact ⟨o, hg _ _ e List.not_mem_nil, r⟩
  have hvl := hI.length
  refine cutO (fun s' => ∃ u DA ws nA h1 tk1, s' = { s with heap := h1, toks := tk1 } ∧ Fr g L' h1 (mq [(Str.ofString "script", .ref a), (Str.ofString "arrivals", .ref DA)] u) ∧ News g L' h1 ((DA, listOf ws.toArray nA) :: [(L' + 1 + 1 + 1 + 1 + 1, cL), (L' + 1 + 1 + 1 + 1, cG), (L' + 1 + 1 + 1, cC), (L' + 1 + 1, cP), (L' + 1, cN)]) ∧ StrsAre ws ((arrs ns).map sl) ∧ L' + 1 + 1 + 1 + 1 + 1 < DA) 1 ?_ ?_
  ·
    --{{A
    intro P' hP'; dsimp only [List.take]
    (try k_fold)
    k_steps
    have Fz := ‹Fr g L' _ _›
    have Nz := ‹News g L' _ _›
    have X2 := X'.keeps Fz.keep
    have T2 := T'.keeps Fz.keep
    have hI5 := ‹IntsAre _ (List.take 6 ns ++ [2, 4, 3, 9, 10])›
    have h5l := hI5.length
    simp only [List.length_append, List.length_take, List.length_cons, List.length_nil] at h5l
    refine' CompX.list (Nz.isList (.head _)) ?hz (fun _ i ys _ nw => nw = [] ∧ StrsAre ys (((arrs ns).take i).map sl)) ?h0 ?st (doneS2 Fz Nz rfl rfl ?finA)
    (case hz => exact hz_le (by first | omega | (simp; omega)))
    (case h0 => intro C cells hC hcl; cases hcl; exact ⟨rfl, .nil⟩)
    (case st =>
      intro C i v ys m nw rest h tk hi hJ hv F N hoff
      dsimp only at F N hi
      obtain ⟨rfl, hY⟩ := hJ
      obtain ⟨hi2, tv, rfl⟩ := ints_get hI5 (by simpa using hv)
      refine cmp_store F (fun h9 F9 hk9 => ?_) rfl rfl
      have N9 := news_but N hk9
      refine wpAny_tests_nil ?_
      simp only [if_true]
      k_steps
      refine' (spelling_pure _ _).use ?F X2 ?N T2 trivial ?rm ?un ?_
      (case F => assumption)
      (case N => assumption)
      (case rm => (first | exact room3 (by assumption) (by decide) | exact room2 (by assumption) (by decide) | omega | (dsimp only [Ar, Around.deeper]; omega) | (simp only [depth_deeper, units_deeper]; dsimp only [Ar]; omega)))
      (case un => (first | exact room3 (by assumption) (by decide) | exact room2 (by assumption) (by decide) | omega | (dsimp only [Ar, Around.deeper]; omega) | (simp only [depth_deeper, units_deeper]; dsimp only [Ar]; omega)))
      rintro _ h8 tk8 F8 N8 hk8 ⟨t8, rfl⟩
      dsimp only
      have hia : i < (arrs ns).length := by rw [arrs, List.length_map]; exact hi2
      refine ⟨_, _, _, [], rfl, F8, N8, fun _ h => (nomatch h), rfl, ?_⟩
      rw [map_step _ _ hia]
      have ea : (arrs ns)[i] = spell ((figsI ns)[i]'hi2 % 12).toNat := List.getElem_map ..
      rw [ea]
      exact StrsAre.snoc hY _ _)
    intro D C ys m nw h tk hJ F9 N9 hk9 hD0 _ hlt
    obtain ⟨rfl, hY⟩ := hJ
    rw [List.take_of_length_le (by simp [arrs, figsI]; omega)] at hY
    (try dsimp only)
    (try k_fold)
    k_steps
    refine hP' _ ?_
    refine' ⟨_, _, _, _, _, _, rfl, ?F, news_sub N9 ?sb, hY, hlt _ (.tail _ (.tail _ (.tail _ (.head _))))⟩
    (case F => wtm_at "frq")
    (case sb =>
      intro q hq
      rcases List.mem_cons.mp hq with rfl | hq
      · exact .head _
      · exact .tail _ (.tail _ (.tail _ (.tail _ hq))))
    --}}A
  rintro _ ⟨u1, DA, ws, nA, h1, tk1, rfl, F1, N1, hW, lA⟩
  k_lt2 lA
  clear F' N' Y
  dsimp only [List.drop]
  refine cutO (fun s' => ∃ u ts h1 tk1, s' = { s with heap := h1, toks := tk1 } ∧ Fr g L' h1 (mq [(Str.ofString "script", .ref a), (Str.ofString "arrivals", .ref DA), (Str.ofString "stranger", .str (sl (strang (strN ns))) ts)] u) ∧ News g L' h1 ((DA, listOf ws.toArray nA) :: [(L' + 1 + 1 + 1 + 1 + 1, cL), (L' + 1 + 1 + 1 + 1, cG), (L' + 1 + 1 + 1, cC), (L' + 1 + 1, cP), (L' + 1, cN)])) 1 ?_ ?_
  ·
    --{{B
    intro P' hP'; dsimp only [List.take]
    (try k_fold)
    k_steps
    have X2 := X'.keeps F1.keep
    have T2 := T'.keeps F1.keep
    have hl2 : h1.IsList a vs.toArray := by obtain ⟨o, e, r⟩ := hlg; exact ⟨o, F1.keep _ _ e, r⟩
    refine' CompX.list hl2 ?hz (fun _ i ys _ nw => nw = [] ∧ IntsAre ys ((ns.take i).map fun x => x.fmod 16384)) ?h0 ?st (doneL2 F1 N1 ?finB)
    (case hz => exact hz_le (by first | omega | (simp; omega)))
    (case h0 => intro C cells hC hcl; cases hcl; exact ⟨rfl, .nil⟩)
    (case st =>
      intro C i v ys m nw rest h tk hi hJ hv F N hoff
      dsimp only at F N hi
      obtain ⟨rfl, hY⟩ := hJ
      obtain ⟨hi2, tv, rfl⟩ := ints_get hI (by simpa using hv)
      refine cmp_store F (fun h9 F9 hk9 => ?_) rfl rfl
      have N9 := news_but N hk9
      refine wpAny_tests_nil ?_
      simp only [if_true]
      k_steps
      refine ⟨_, _, _, [], rfl, F9, N9, fun _ h => (nomatch h), rfl, ?_⟩
      rw [map_step _ _ hi2]
      exact IntsAre.snoc hY _ _)
    intro D C ys m nw h tk hJ F9 N9 hk9 hD0 _ hlt
    obtain ⟨rfl, hY⟩ := hJ
    rw [List.take_of_length_le (by simp; omega)] at hY
    (try dsimp only)
    (try k_fold)
    k_steps
    rw [show ((ns.map fun x => x.fmod 16384).sum + 418) = ((strN ns : Nat) : Int) from strN_eq ns]
    have Fz := ‹Fr g L' _ _›
    have Nz := ‹News g L' _ _›
    refine' (stranger_pure (strN ns) _).use Fz X' Nz T' trivial ?rm ?un ?_
    (case rm => (first | exact room3 (by assumption) (by decide) | exact room2 (by assumption) (by decide) | omega | (dsimp only [Ar, Around.deeper]; omega) | (simp only [depth_deeper, units_deeper]; dsimp only [Ar]; omega)))
    (case un => (first | exact room3 (by assumption) (by decide) | exact room2 (by assumption) (by decide) | omega | (dsimp only [Ar, Around.deeper]; omega) | (simp only [depth_deeper, units_deeper]; dsimp only [Ar]; omega)))
    rintro _ h8 tk8 F8 N8 hk8 ⟨t8, rfl⟩
    dsimp only
    (try k_fold)
    k_steps
    refine hP' _ ?_
    refine' ⟨_, _, _, _, rfl, ?F, news_sub ‹News g L' _ _› (fun q hq => .tail _ hq)⟩
    (case F => wtm_at "frq")
    --}}B
  rintro _ ⟨u2, ts, h2, tk2, rfl, F2, N2⟩
  clear F1 N1
  dsimp only [List.drop]
  refine cutO (fun s' => ∃ u I dI l n₁ n₂ hsh th h1 tk1, s' = { s with heap := h1, toks := tk1 } ∧ Fr g L' h1 (mq [(Str.ofString "script", .ref a), (Str.ofString "arrivals", .ref DA), (Str.ofString "stranger", .str (sl (strang (strN ns))) ts), (Str.ofString "table", .ref I)] u) ∧
    News g L' h1 ((I, instObj 223 dI) :: (dI, PySem.W.dictOf [⟨hsh, .str (Str.ofString "_headers") th, .ref l⟩] n₁) :: (l, listOf #[] n₂) :: (DA, listOf ws.toArray nA) :: [(L' + 1 + 1 + 1 + 1 + 1, cL), (L' + 1 + 1 + 1 + 1, cG), (L' + 1 + 1 + 1, cC), (L' + 1 + 1, cP), (L' + 1, cN)]) ∧ DA < dI ∧ dI < I ∧ I < l) 1 ?_ ?_
  ·
    --{{C
    intro P' hP'; dsimp only [List.take]
    (try k_fold)
    k_steps
    refine headers_new F2 X' N2 T' (by (first | exact room3 (by assumption) (by decide) | exact room2 (by assumption) (by decide) | omega | (dsimp only [Ar, Around.deeper]; omega) | (simp only [depth_deeper, units_deeper]; dsimp only [Ar]; omega))) (by (first | exact room3 (by assumption) (by decide) | exact room2 (by assumption) (by decide) | omega | (dsimp only [Ar, Around.deeper]; omega) | (simp only [depth_deeper, units_deeper]; dsimp only [Ar]; omega))) ?_
    intro I dI l h8 tk8 n₁ n₂ hsh th F8 N8 hlt l2 l3
    dsimp only
    (try k_fold)
    k_steps
    refine hP' _ ?_
    refine' ⟨_, _, _, _, _, _, _, _, _, _, rfl, ?F, ‹News g L' _ _›, hlt _ (.head _), l2, l3⟩
    (case F => wtm_at "frq")
    --}}C
  rintro _ ⟨u3, I, dI, l, n₁, n₂, hsh, th, h3, tk3, rfl, F3, N3, ld, lI, ll⟩
  k_lt2 ld
  k_lt2 lI
  k_lt2 ll
  clear F2 N2
  dsimp only [List.drop]
  refine cutO (fun s' => ∃ u n tps h1 tk1, s' = { s with heap := h1, toks := tk1 } ∧ Fr g L' h1 (mq [(Str.ofString "arrivals", .ref DA), (Str.ofString "stranger", .str (sl (strang (strN ns))) ts), (Str.ofString "table", .ref I)] u) ∧
    News g L' h1 ((l, listOf (tps.map fun q => Value.ref q.1).toArray n) :: (I, instObj 223 dI) :: (dI, PySem.W.dictOf [⟨hsh, .str (Str.ofString "_headers") th, .ref l⟩] n₁) :: (DA, listOf ws.toArray nA) :: (L' + 1 + 1 + 1 + 1 + 1, cL) :: (L' + 1 + 1 + 1 + 1, cG) :: (L' + 1 + 1 + 1, cC) :: (L' + 1 + 1, cP) :: (L' + 1, cN) :: tps) ∧ TupsAre tps ((arrs ns).map fun y => (y, y))) 1 ?_ ?_
  ·
    --{{D
    intro P' hP'; dsimp only [List.take]
    refine wpAny_execs_cons ?_
    have hwl := strs_len hW
    have hal : (arrs ns).length ≤ 11 := by simp [arrs, figsI]; omega
    refine for_list (h₀ := g) (L := L') (l := DA) (items := ws.toArray) (fun i m nw => ∃ u n tps, m = mq [(Str.ofString "arrivals", .ref DA), (Str.ofString "stranger", .str (sl (strang (strN ns))) ts), (Str.ofString "table", .ref I)] u ∧
      nw = ((l, listOf (tps.map fun q => Value.ref q.1).toArray n) :: (I, instObj 223 dI) :: (dI, PySem.W.dictOf [⟨hsh, .str (Str.ofString "_headers") th, .ref l⟩] n₁) :: (DA, listOf ws.toArray nA) :: (L' + 1 + 1 + 1 + 1 + 1, cL) :: (L' + 1 + 1 + 1 + 1, cG) :: (L' + 1 + 1 + 1, cC) :: (L' + 1 + 1, cP) :: (L' + 1, cN) :: tps) ∧ TupsAre tps (((arrs ns).take i).map fun y => (y, y))) rfl rfl ?hl ?h ?turn ?done
    case hl => rintro i m nw h ⟨u, n, tps, rfl, rfl, _⟩ F N; exact N.isList (.tail _ (.tail _ (.tail _ (.head _))))
    case h =>
      (try k_fold)
      k_steps
      unfold Hit2
      refine' ⟨rfl, _, _, _, _, rfl, ?F, news_sub ‹News g L' _ _› ?sb, _, n₂, [], rfl, rfl, .nil⟩
      (case F => wtm_at "frq")
      (case sb => wtm_at "sub")
    case done =>
      rintro m nw h tk ⟨u, n, tps, rfl, rfl, hT⟩ Fd Nd
      dsimp only
      rw [List.size_toArray, hwl, List.take_length] at hT
      (try k_fold)
      k_steps
      refine hP' _ ?_
      exact ⟨_, n, tps, _, _, rfl, Fd, Nd, hT⟩
    case turn =>
      rintro i v m nw It o h tk hv ⟨u, n, tps, rfl, rfl, hT⟩ hfr Ft Nt
      obtain ⟨hi, tv, rfl⟩ := strs_get hW (by simpa using hv)
      have hok := arrs_ok ns (arrs ns)[i] (List.getElem_mem _)
      (try k_fold)
      k_steps
      have Fz := ‹Fr g L' _ _›
      have Nz := ‹News g L' _ ((It, o) :: _)›
      have hTn := hT.length
      rw [List.length_map, List.length_take, Nat.min_eq_left (Nat.le_of_lt hi)] at hTn
      have hl1 := tups_list Nz hT (by wtm_at "sub") (a := l) (.tail _ (.head _))
      have hItl : It ≠ l := fun e => hfr _ (.head _) e.symm
      have hItl' := neN hItl
      have hdl : @LT.lt Nat _ dI l := Nat.lt_trans lI ll
      have hAl : @LT.lt Nat _ DA l := Nat.lt_trans ld hdl
      have hLl : @LT.lt Nat _ (L' + 1 + 1 + 1 + 1 + 1) l := Nat.lt_trans lA hAl
      have hP := hT.prs (h := ‹Heap›) (fun q hq => (Nz q ((by wtm_at "sub" : ∀ q ∈ tps, q ∈ _) q hq)).1)
      refine' (add_mut I dI l (tps.map fun q => Value.ref q.1) (((arrs ns).take i).map fun y => (y, y)) n (arrs ns)[i] (arrs ns)[i] tv tv (by omega) hok.1 (by omega) hok.1 (by simp; omega)).use2
        ((It, o) :: (I, instObj 223 dI) :: (dI, PySem.W.dictOf [⟨hsh, .str (Str.ofString "_headers") th, .ref l⟩] n₁) :: (DA, listOf ws.toArray nA) :: (L' + 1 + 1 + 1 + 1 + 1, cL) :: (L' + 1 + 1 + 1 + 1, cG) :: (L' + 1 + 1 + 1, cC) :: (L' + 1 + 1, cP) :: (L' + 1, cN) :: tps) Fz X' Nz T' ?hS ?hr ⟨hsh, th, n₁, (Nz _ (.tail _ (.tail _ (.head _)))).1, (Nz _ (.tail _ (.tail _ (.tail _ (.head _))))).1, Nz.isList (.tail _ (.head _)), hP⟩ ?rm ?un ?_
      (case hS => wtm_at "sub")
      (case hr =>
        have hne : ∀ q ∈ ((It, o) :: (I, instObj 223 dI) :: (dI, PySem.W.dictOf [⟨hsh, .str (Str.ofString "_headers") th, .ref l⟩] n₁) :: (DA, listOf ws.toArray nA) :: (L' + 1 + 1 + 1 + 1 + 1, cL) :: (L' + 1 + 1 + 1 + 1, cG) :: (L' + 1 + 1 + 1, cC) :: (L' + 1 + 1, cP) :: (L' + 1, cN) :: tps), q.1 ≠ l := by k_all
        exact fun q hq => ⟨(by wtm_at "sub" : ∀ q ∈ _, q ∈ _) q hq, by rw [List.map_cons, List.map_nil, List.mem_singleton]; exact hne q hq⟩)
      (case rm => (first | exact room3 (by assumption) (by decide) | exact room2 (by assumption) (by decide) | omega | (dsimp only [Ar, Around.deeper]; omega) | (simp only [depth_deeper, units_deeper]; dsimp only [Ar]; omega)))
      (case un => (first | exact room3 (by assumption) (by decide) | exact room2 (by assumption) (by decide) | omega | (dsimp only [Ar, Around.deeper]; omega) | (simp only [depth_deeper, units_deeper]; dsimp only [Ar]; omega)))
      rintro _ h8 tk8 S8 F8 N8 hk8 hnew ⟨T, tkk, tvv, n', n₂', rfl, rfl⟩
      dsimp only
      have hTl : T ≠ l := fun e => by
        have e1 := (N8 _ (.tail _ (.head _))).1
        have e2 := (N8 _ (.head _)).1
        dsimp only at e1 e2
        rw [e, e2] at e1
        injection e1 with e1
        injection e1 with e1
        exact absurd e1 (by decide)
      have hTI : It ≠ T := by
        rcases hnew _ (.tail _ (.head _)) with q | q
        · exact absurd (by simpa using q) hTl
        · exact q _ (.head _)
      (try k_fold)
      k_steps
      refine' ⟨_, _, _, _, rfl, ?F, news_sub N8 ?sb, ?fr, _, n', tps ++ [(T, { cls := .type "tuple", data := .seq #[.str (sl (arrs ns)[i]) tkk, .str (sl (arrs ns)[i]) tvv] n₂' })], rfl, rfl, ?C⟩
      (case F => wtm_at "frq")
      (case sb => (rw [List.map_append]); wtm_at "sub")
      (case fr =>
        intro q hq
        rcases List.mem_cons.mp hq with rfl | hq
        · exact fun e => hItl e.symm
        · rcases List.mem_append.mp (show q ∈ ((I, instObj 223 dI) :: (dI, PySem.W.dictOf [⟨hsh, .str (Str.ofString "_headers") th, .ref l⟩] n₁) :: (DA, listOf ws.toArray nA) :: (L' + 1 + 1 + 1 + 1 + 1, cL) :: (L' + 1 + 1 + 1 + 1, cG) :: (L' + 1 + 1 + 1, cC) :: (L' + 1 + 1, cP) :: (L' + 1, cN) :: tps) ++ [_] from hq) with hq | hq
          · exact hfr q (.tail _ hq)
          · rw [List.mem_singleton.mp hq]; exact fun e => hTI e.symm)
      (case C => rw [map_step _ _ hi]; exact hT.append (.cons (p := ((arrs ns)[i], (arrs ns)[i])) .nil))
    --}}D
  rintro _ ⟨u4, nl, tps, h4, tk4, rfl, F4, N4, hT⟩
  clear F3 N3
  dsimp only [List.drop]
  refine cutO (fun s' => ∃ u DU nd h1 tk1, s' = { s with heap := h1, toks := tk1 } ∧ Fr g L' h1 (mq [(Str.ofString "arrivals", .ref DA), (Str.ofString "stranger", .str (sl (strang (strN ns))) ts), (Str.ofString "table", .ref I), (Str.ofString "due", .ref DU)] u) ∧
    News g L' h1 ((DU, listOf #[] nd) :: (l, listOf (tps.map fun q => Value.ref q.1).toArray nl) :: (I, instObj 223 dI) :: (dI, PySem.W.dictOf [⟨hsh, .str (Str.ofString "_headers") th, .ref l⟩] n₁) :: (DA, listOf ws.toArray nA) :: (L' + 1 + 1 + 1 + 1 + 1, cL) :: (L' + 1 + 1 + 1 + 1, cG) :: (L' + 1 + 1 + 1, cC) :: (L' + 1 + 1, cP) :: (L' + 1, cN) :: tps) ∧ l < DU) 1 ?_ ?_
  ·
    --{{E
    intro P' hP'; dsimp only [List.take]
    (try k_fold)
    k_steps
    refine hP' _ ?_
    refine' ⟨_, _, _, _, _, rfl, ?F, ‹News g L' _ _›, (‹l < _ ∧ _›).1⟩
    (case F => wtm_at "frq")
    --}}E
  rintro _ ⟨u5, DU, nd, h5, tk5, rfl, F5, N5, lU⟩
  k_lt2 lU
  clear F4 N4
  dsimp only [List.drop]
  refine cutO (fun s' => ∃ u nl nd tps dtp h1 tk1, s' = { s with heap := h1, toks := tk1 } ∧ Fr g L' h1 (mq [(Str.ofString "arrivals", .ref DA), (Str.ofString "stranger", .str (sl (strang (strN ns))) ts), (Str.ofString "table", .ref I), (Str.ofString "due", .ref DU)] u) ∧ News g L' h1 ((l, listOf (tps.map fun q => Value.ref q.1).toArray nl) :: (DU, listOf (dtp.map fun q => Value.ref q.1).toArray nd) :: (I, instObj 223 dI) :: (dI, PySem.W.dictOf [⟨hsh, .str (Str.ofString "_headers") th, .ref l⟩] n₁) :: (tps ++ dtp)) ∧ TupsAre tps (tabAt (arrs ns) 2) ∧ TupsAre dtp (dueAt (arrs ns) 2)) 1 ?_ ?_
  ·
    intro P' hP'; dsimp only [List.take]
    refine wpAny_execs_cons ?_
    refine for_listY (h₀ := g) (L := L') (fun p : Addr × Addr × Addr × List Value × List Value => p.1) (fun p => #[.ref p.2.1, .ref p.2.2.1])
      (fun p i m nw => ∃ AL A1 A2 us1 us2 u nl nd tps dtp oL oG oC oP oN vL vG vC vP vN, p = (AL, A1, A2, us1, us2) ∧ StrsAre us1 ((chOf 0).map sl) ∧ StrsAre us2 ((chOf 1).map sl) ∧ @LT.lt Nat _ DU A1 ∧ @LT.lt Nat _ A1 A2 ∧ @LT.lt Nat _ A2 AL ∧ m = mq [(Str.ofString "arrivals", .ref DA), (Str.ofString "stranger", .str (sl (strang (strN ns))) ts), (Str.ofString "table", .ref I), (Str.ofString "due", .ref DU)] u ∧ nw = ((l, listOf (tps.map fun q => Value.ref q.1).toArray nl) :: (DU, listOf (dtp.map fun q => Value.ref q.1).toArray nd) :: (AL, listOf #[.ref A1, .ref A2] 0) :: (A1, LCg.lst us1) :: (A2, LCg.lst us2) :: (I, instObj 223 dI) :: (dI, PySem.W.dictOf [⟨hsh, .str (Str.ofString "_headers") th, .ref l⟩] n₁) :: (DA, listOf ws.toArray nA) :: (L' + 1 + 1 + 1 + 1 + 1, oL) :: (L' + 1 + 1 + 1 + 1, oG) :: (L' + 1 + 1 + 1, oC) :: (L' + 1 + 1, oP) :: (L' + 1, oN) :: (tps ++ dtp)) ∧ TupsAre tps (tabAt (arrs ns) i) ∧ TupsAre dtp (dueAt (arrs ns) i) ∧ oL.data = .cell vL ∧ oG.data = .cell vG ∧ oC.data = .cell vC ∧ oP.data = .cell vP ∧ oN.data = .cell vN)
      rfl rfl ?h ?hl ?turn ?done
    case h =>
      --{{F
      k_steps
      have Fz := ‹Fr g L' _ _›
      have X2 := X'.keeps Fz.keep
      have T2 := T'.keeps Fz.keep
      refine' CompX.range (n := 8) ‹IsRange _ _ _ _ _ _ _ _› rfl rfl (by decide) (fun _ i ys _ nw => nw = [] ∧ StrsAre ys (((chOf 0).take i).map sl)) ?h00 ?st0 (doneL2 ‹Fr g L' _ _› ‹News g L' _ _› ?fin0)
      (case h00 => intro C cells hC hcl; cases hcl; exact ⟨rfl, .nil⟩)
      (case st0 =>
        intro C j v ys m nw rest h tk hj hJ hv F N hoff
        dsimp only at F N hj
        obtain ⟨rfl, hY⟩ := hJ
        obtain ⟨tv, rfl⟩ := hv
        refine cmp_store F (fun h9 F9 hk9 => ?_) rfl rfl
        have N9 := news_but N hk9
        refine wpAny_tests_nil ?_
        simp only [if_true]
        k_steps
        refine' (spelling_pure _ _).use ?F X2 ?N T2 trivial ?rm ?un ?_
        (case F => assumption)
        (case N => assumption)
        (case rm => (first | exact room3 (by assumption) (by decide) | exact room2 (by assumption) (by decide) | omega | (dsimp only [Ar, Around.deeper]; omega) | (simp only [depth_deeper, units_deeper]; dsimp only [Ar]; omega)))
        (case un => (first | exact room3 (by assumption) (by decide) | exact room2 (by assumption) (by decide) | omega | (dsimp only [Ar, Around.deeper]; omega) | (simp only [depth_deeper, units_deeper]; dsimp only [Ar]; omega)))
        rintro _ h8 tk8 F8 N8 hk8 ⟨t8, rfl⟩
        dsimp only
        have hjc : j < (chOf 0).length := hj
        have ej : (chOf 0)[j] = spell ((0 + (j : Int)) % 12).toNat := by
          exact (by decide : ∀ j, ∀ h : j < (chOf 0).length, (chOf 0)[j] = spell ((0 + (j : Int)) % 12).toNat) j hjc
        refine ⟨_, _, _, [], rfl, F8, N8, fun _ h => (nomatch h), rfl, ?_⟩
        rw [map_step _ _ hjc, ej]
        exact StrsAre.snoc hY _ _)
      intro D0 C ys0 m nw h0 tk hJ F0 N0 hk9 hD0 _ hlt0
      obtain ⟨rfl, hY0⟩ := hJ
      rw [List.take_of_length_le (by decide)] at hY0
      rw [List.nil_append] at N0
      (try dsimp only)
      k_steps
      have Fz := ‹Fr g L' _ _›
      have X2 := X'.keeps Fz.keep
      have T2 := T'.keeps Fz.keep

      refine' CompX.range (n := 4) ‹IsRange _ _ _ _ _ _ _ _› rfl rfl (by decide) (fun _ i ys _ nw => nw = [] ∧ StrsAre ys (((chOf 1).take i).map sl)) ?h01 ?st1 (doneL2 ‹Fr g L' _ _› ‹News g L' _ _› ?fin1)
      (case h01 => intro C cells hC hcl; cases hcl; exact ⟨rfl, .nil⟩)
      (case st1 =>
        intro C j v ys m nw rest h tk hj hJ hv F N hoff
        dsimp only at F N hj
        obtain ⟨rfl, hY⟩ := hJ
        obtain ⟨tv, rfl⟩ := hv
        refine cmp_store F (fun h9 F9 hk9 => ?_) rfl rfl
        have N9 := news_but N hk9
        refine wpAny_tests_nil ?_
        simp only [if_true]
        k_steps
        refine' (spelling_pure _ _).use ?F X2 ?N T2 trivial ?rm ?un ?_
        (case F => assumption)
        (case N => assumption)
        (case rm => (first | exact room3 (by assumption) (by decide) | exact room2 (by assumption) (by decide) | omega | (dsimp only [Ar, Around.deeper]; omega) | (simp only [depth_deeper, units_deeper]; dsimp only [Ar]; omega)))
        (case un => (first | exact room3 (by assumption) (by decide) | exact room2 (by assumption) (by decide) | omega | (dsimp only [Ar, Around.deeper]; omega) | (simp only [depth_deeper, units_deeper]; dsimp only [Ar]; omega)))
        rintro _ h8 tk8 F8 N8 hk8 ⟨t8, rfl⟩
        dsimp only
        have hjc : j < (chOf 1).length := hj
        have ej : (chOf 1)[j] = spell ((8 + (j : Int)) % 12).toNat := by
          exact (by decide : ∀ j, ∀ h : j < (chOf 1).length, (chOf 1)[j] = spell ((8 + (j : Int)) % 12).toNat) j hjc
        refine ⟨_, _, _, [], rfl, F8, N8, fun _ h => (nomatch h), rfl, ?_⟩
        rw [map_step _ _ hjc, ej]
        exact StrsAre.snoc hY _ _)
      intro D1 C ys1 m nw h1 tk hJ F1 N1 hk9 hD0 _ hlt1
      obtain ⟨rfl, hY1⟩ := hJ
      rw [List.take_of_length_le (by decide)] at hY1
      rw [List.nil_append] at N1
      (try dsimp only)
      k_steps
      rename_i AL hX FX NX lX
      have hU0 := ltN (hlt0 _ (.head _))
      have h01 := ltN (hlt1 _ (.head _))
      have h1L := ltN lX.1
      unfold Hit2
      exact ⟨(AL, D0, D1, ys0, ys1), _, _, _, _, rfl, rfl, FX, news_sub NX (by wtm_at "sub"), AL, D0, D1, ys0, ys1, u5, nl, nd, tps, [], cL, cG, cC, cP, cN, _, _, _, _, _, rfl, hY0, hY1, hU0, h01, h1L, rfl, rfl, hT, .nil, hcL, hcG, hcC, hcP, hcN⟩
      --}}F
    case hl =>
      rintro p i m nw h ⟨AL, A1, A2, us1, us2, u, nl, nd, tps, dtp, oL, oG, oC, oP, oN, vL, vG, vC, vP, vN, rfl, h1, h2, h3, h4, h5, rfl, rfl, _⟩ F N
      exact N.isList (.tail _ (.tail _ (.head _)))
    case done =>
      rintro p m nw h tk ⟨AL, A1, A2, us1, us2, u, nl, nd, tps, dtp, oL, oG, oC, oP, oN, vL, vG, vC, vP, vN, rfl, h1, h2, h3, h4, h5, rfl, rfl, hT, hD, _⟩ F N
      dsimp only
      (try k_fold)
      k_steps
      refine hP' _ ?_
      exact ⟨u, nl, nd, tps, dtp, _, _, rfl, F, news_sub N (by wtm_at "sub"), hT, hD⟩
    case turn =>
      clear hT N5 F5 hcL hcG hcC hcP hcN
      rintro p i v m nw It o h tk hv ⟨AL, A1, A2, us1, us2, u, nl, nd, tps, dtp, oL, oG, oC, oP, oN, vL, vG, vC, vP, vN, rfl, hU1, hU2, hU0, h01, h1L, rfl, rfl, hT, hD, dL, dG, dC, dP, dN⟩ hfr Ft Nt
      have hi2 : i < 2 := by
        have := (Array.getElem?_eq_some_iff.mp hv).1
        simpa using this
      obtain ⟨AC, us, rfl, hAC, hUS, hlC⟩ : ∃ AC us, v = .ref AC ∧ ((AC, LCg.lst us) = (A1, LCg.lst us1) ∨ (AC, LCg.lst us) = (A2, LCg.lst us2)) ∧ StrsAre us ((chOf i).map sl) ∧ @LT.lt Nat _ DU AC := by
        have h4 : i = 0 ∨ i = 1 := by omega
        rcases h4 with rfl | rfl
        · exact ⟨A1, us1, by simpa using hv.symm, .inl rfl, hU1, hU0⟩
        · exact ⟨A2, us2, by simpa using hv.symm, .inr rfl, hU2, Nat.lt_trans hU0 h01⟩
      clear hv
      have hUl := strs_len hUS
      have hcl := ch_len i
      have hnl := nm_len i
      have hTL := hT.append hD
      have nN := tups_cell Nt hTL (by wtm_at "sub") (a := L' + 1) (by wtm_at "mem") dN
      have nP := tups_cell Nt hTL (by wtm_at "sub") (a := L' + 1 + 1) (by wtm_at "mem") dP
      have nC := tups_cell Nt hTL (by wtm_at "sub") (a := L' + 1 + 1 + 1) (by wtm_at "mem") dC
      have nG := tups_cell Nt hTL (by wtm_at "sub") (a := L' + 1 + 1 + 1 + 1) (by wtm_at "mem") dG
      have nL := tups_cell Nt hTL (by wtm_at "sub") (a := L' + 1 + 1 + 1 + 1 + 1) (by wtm_at "mem") dL
      have nl' := tups_list Nt hTL (by wtm_at "sub") (a := l) (by wtm_at "mem")
      have nU := tups_list Nt hTL (by wtm_at "sub") (a := DU) (by wtm_at "mem")
      have i1 := neN (hfr (L' + 1, oN) (by wtm_at "mem"))
      have i2 := neN (hfr (L' + 1 + 1, oP) (by wtm_at "mem"))
      have i3 := neN (hfr (L' + 1 + 1 + 1, oC) (by wtm_at "mem"))
      have i4 := neN (hfr (L' + 1 + 1 + 1 + 1, oG) (by wtm_at "mem"))
      have i5 := neN (hfr (L' + 1 + 1 + 1 + 1 + 1, oL) (by wtm_at "mem"))
      have i6 := neN (hfr (l, _) (by wtm_at "mem"))
      have i7 := neN (hfr (DU, _) (by wtm_at "mem"))
      dsimp only at i1 i2 i3 i4 i5 i6 i7
      have p0_1 : @LT.lt Nat _ (L' + 1 + 1 + 1 + 1 + 1) DA := ‹@LT.lt Nat _ (L' + 1 + 1 + 1 + 1 + 1) DA›
      have p1_2 : @LT.lt Nat _ DA dI := ‹@LT.lt Nat _ DA dI›
      have p2_3 : @LT.lt Nat _ dI I := ‹@LT.lt Nat _ dI I›
      have p3_4 : @LT.lt Nat _ I l := ‹@LT.lt Nat _ I l›
      have p4_5 : @LT.lt Nat _ l DU := ‹@LT.lt Nat _ l DU›
      have p5_6 : @LT.lt Nat _ DU A1 := ‹@LT.lt Nat _ DU A1›
      have p6_7 : @LT.lt Nat _ A1 A2 := ‹@LT.lt Nat _ A1 A2›
      have p7_8 : @LT.lt Nat _ A2 AL := ‹@LT.lt Nat _ A2 AL›
      have p0_2 : @LT.lt Nat _ (L' + 1 + 1 + 1 + 1 + 1) dI := Nat.lt_trans p0_1 p1_2
      have p1_3 : @LT.lt Nat _ DA I := Nat.lt_trans p1_2 p2_3
      have p2_4 : @LT.lt Nat _ dI l := Nat.lt_trans p2_3 p3_4
      have p3_5 : @LT.lt Nat _ I DU := Nat.lt_trans p3_4 p4_5
      have p4_6 : @LT.lt Nat _ l A1 := Nat.lt_trans p4_5 p5_6
      have p5_7 : @LT.lt Nat _ DU A2 := Nat.lt_trans p5_6 p6_7
      have p6_8 : @LT.lt Nat _ A1 AL := Nat.lt_trans p6_7 p7_8
      have p0_3 : @LT.lt Nat _ (L' + 1 + 1 + 1 + 1 + 1) I := Nat.lt_trans p0_2 p2_3
      have p1_4 : @LT.lt Nat _ DA l := Nat.lt_trans p1_3 p3_4
      have p2_5 : @LT.lt Nat _ dI DU := Nat.lt_trans p2_4 p4_5
      have p3_6 : @LT.lt Nat _ I A1 := Nat.lt_trans p3_5 p5_6
      have p4_7 : @LT.lt Nat _ l A2 := Nat.lt_trans p4_6 p6_7
      have p5_8 : @LT.lt Nat _ DU AL := Nat.lt_trans p5_7 p7_8
      have p0_4 : @LT.lt Nat _ (L' + 1 + 1 + 1 + 1 + 1) l := Nat.lt_trans p0_3 p3_4
      have p1_5 : @LT.lt Nat _ DA DU := Nat.lt_trans p1_4 p4_5
      have p2_6 : @LT.lt Nat _ dI A1 := Nat.lt_trans p2_5 p5_6
      have p3_7 : @LT.lt Nat _ I A2 := Nat.lt_trans p3_6 p6_7
      have p4_8 : @LT.lt Nat _ l AL := Nat.lt_trans p4_7 p7_8
      have p0_5 : @LT.lt Nat _ (L' + 1 + 1 + 1 + 1 + 1) DU := Nat.lt_trans p0_4 p4_5
      have p1_6 : @LT.lt Nat _ DA A1 := Nat.lt_trans p1_5 p5_6
      have p2_7 : @LT.lt Nat _ dI A2 := Nat.lt_trans p2_6 p6_7
      have p3_8 : @LT.lt Nat _ I AL := Nat.lt_trans p3_7 p7_8
      have p0_6 : @LT.lt Nat _ (L' + 1 + 1 + 1 + 1 + 1) A1 := Nat.lt_trans p0_5 p5_6
      have p1_7 : @LT.lt Nat _ DA A2 := Nat.lt_trans p1_6 p6_7
      have p2_8 : @LT.lt Nat _ dI AL := Nat.lt_trans p2_7 p7_8
      have p0_7 : @LT.lt Nat _ (L' + 1 + 1 + 1 + 1 + 1) A2 := Nat.lt_trans p0_6 p6_7
      have p1_8 : @LT.lt Nat _ DA AL := Nat.lt_trans p1_7 p7_8
      have p0_8 : @LT.lt Nat _ (L' + 1 + 1 + 1 + 1 + 1) AL := Nat.lt_trans p0_7 p7_8
      have pC0 : @LT.lt Nat _ (L' + 1 + 1 + 1 + 1 + 1) AC := Nat.lt_trans p0_5 hlC
      have pC1 : @LT.lt Nat _ DA AC := Nat.lt_trans p1_5 hlC
      have pC2 : @LT.lt Nat _ dI AC := Nat.lt_trans p2_5 hlC
      have pC3 : @LT.lt Nat _ I AC := Nat.lt_trans p3_5 hlC
      have pC4 : @LT.lt Nat _ l AC := Nat.lt_trans p4_5 hlC
      have pC5 : @LT.lt Nat _ DU AC := hlC
      refine wpAny_mono (Q := fun _ s' => Hit (fun s' => ∃ u h1 tk1, s' = { s with heap := h1, toks := tk1 } ∧ Fr g L' h1 (mq [(Str.ofString "choices", .ref AC), (Str.ofString "arrivals", .ref DA), (Str.ofString "stranger", .str (sl (strang (strN ns))) ts), (Str.ofString "table", .ref I), (Str.ofString "due", .ref DU)] u) ∧ News g L' h1 ((It, o) :: (AC, LCg.lst us) :: (l, listOf (tps.map fun q => Value.ref q.1).toArray nl) :: (DU, listOf (dtp.map fun q => Value.ref q.1).toArray nd) :: (AL, listOf #[.ref A1, .ref A2] 0) :: (A1, LCg.lst us1) :: (A2, LCg.lst us2) :: (I, instObj 223 dI) :: (dI, PySem.W.dictOf [⟨hsh, .str (Str.ofString "_headers") th, .ref l⟩] n₁) :: (DA, listOf ws.toArray nA) :: (L' + 1 + 1 + 1 + 1 + 1, oL) :: (L' + 1 + 1 + 1 + 1, oG) :: (L' + 1 + 1 + 1, oC) :: (L' + 1 + 1, oP) :: (L' + 1, oN) :: (tps ++ dtp))) s') ?asg (fun _ s' hs' => ?_) (fun _ _ x => x)
      · have Nt2 : News g L' h ((It, o) :: (AC, LCg.lst us) :: (l, listOf (tps.map fun q => Value.ref q.1).toArray nl) :: (DU, listOf (dtp.map fun q => Value.ref q.1).toArray nd) :: (AL, listOf #[.ref A1, .ref A2] 0) :: (A1, LCg.lst us1) :: (A2, LCg.lst us2) :: (I, instObj 223 dI) :: (dI, PySem.W.dictOf [⟨hsh, .str (Str.ofString "_headers") th, .ref l⟩] n₁) :: (DA, listOf ws.toArray nA) :: (L' + 1 + 1 + 1 + 1 + 1, oL) :: (L' + 1 + 1 + 1 + 1, oG) :: (L' + 1 + 1 + 1, oC) :: (L' + 1 + 1, oP) :: (L' + 1, oN) :: (tps ++ dtp)) := news_sub Nt (sub_cons (by wtm_at "mem") (sub_cons (by rcases hAC with e | e <;> rw [e] <;> wtm_at "mem") (by wtm_at "sub")))
        clear Nt
        k_steps
        unfold Hit
        refine' ⟨_, _, _, rfl, ?F, ‹News g L' _ _›⟩
        (case F => wtm_at "frq")
      obtain ⟨u1, h1, tk1, rfl, G1, M1⟩ := hs'
      clear Ft Nt
      refine cutO (fun s' => ∃ u tN oN h1 tk1, s' = { s with heap := h1, toks := tk1 } ∧ Fr g L' h1 (mq [(Str.ofString "choices", .ref AC), (Str.ofString "arrivals", .ref DA), (Str.ofString "stranger", .str (sl (strang (strN ns))) ts), (Str.ofString "table", .ref I), (Str.ofString "due", .ref DU)] u) ∧ oN.data = .cell (some (.str (sl (nmOf i)) tN)) ∧ News g L' h1 ((It, o) :: (AC, LCg.lst us) :: (l, listOf (tps.map fun q => Value.ref q.1).toArray nl) :: (DU, listOf (dtp.map fun q => Value.ref q.1).toArray nd) :: (AL, listOf #[.ref A1, .ref A2] 0) :: (A1, LCg.lst us1) :: (A2, LCg.lst us2) :: (I, instObj 223 dI) :: (dI, PySem.W.dictOf [⟨hsh, .str (Str.ofString "_headers") th, .ref l⟩] n₁) :: (DA, listOf ws.toArray nA) :: (L' + 1 + 1 + 1 + 1 + 1, oL) :: (L' + 1 + 1 + 1 + 1, oG) :: (L' + 1 + 1 + 1, oC) :: (L' + 1 + 1, oP) :: (L' + 1, oN) :: (tps ++ dtp))) 1 ?_ ?_
      ·
        --{{G
        intro P' hP'; dsimp only [List.take]
        (try k_fold)
        k_steps
        have d' := ‹Obj.data _ = Data.cell (some (Value.str ((List.map sl (chOf i)).getD _ _) _))›
        rw [show (List.map sl (chOf i)).getD (Int.toNat 0) Str.empty = sl (nmOf i) from by rw [getD_map_sl _ _ (by show 0 < _; omega)]; exact congrArg sl (ch_first i)] at d'
        refine hP' _ ?_
        exact ⟨_, _, _, _, _, rfl, ‹Fr g L' _ _›, d', ‹News g L' _ _›⟩
        --}}G
      rintro _ ⟨u2, tN, oN2, h2, tk2, rfl, G2, dN2, M2⟩
      clear G1 M1 dN
      dsimp only [List.drop]
      refine cutO (fun s' => ∃ u oP DP ps h1 tk1, s' = { s with heap := h1, toks := tk1 } ∧ Fr g L' h1 (mq [(Str.ofString "choices", .ref AC), (Str.ofString "arrivals", .ref DA), (Str.ofString "stranger", .str (sl (strang (strN ns))) ts), (Str.ofString "table", .ref I), (Str.ofString "due", .ref DU)] u) ∧ oP.data = .cell (some (.ref DP)) ∧ StrsAre ps ((plains (arrs ns) i).map sl) ∧ @LT.lt Nat _ DU DP ∧ News g L' h1 ((It, o) :: (AC, LCg.lst us) :: (DP, LCg.lst ps) :: (l, listOf (tps.map fun q => Value.ref q.1).toArray nl) :: (DU, listOf (dtp.map fun q => Value.ref q.1).toArray nd) :: (AL, listOf #[.ref A1, .ref A2] 0) :: (A1, LCg.lst us1) :: (A2, LCg.lst us2) :: (I, instObj 223 dI) :: (dI, PySem.W.dictOf [⟨hsh, .str (Str.ofString "_headers") th, .ref l⟩] n₁) :: (DA, listOf ws.toArray nA) :: (L' + 1 + 1 + 1 + 1 + 1, oL) :: (L' + 1 + 1 + 1 + 1, oG) :: (L' + 1 + 1 + 1, oC) :: (L' + 1 + 1, oP) :: (L' + 1, oN2) :: (tps ++ dtp))) 1 ?_ ?_
      ·
        --{{H
        intro P' hP'; dsimp only [List.take]
        (try k_fold)
        k_steps
        have X2 := X'.keeps G2.keep
        have T2 := T'.keeps G2.keep
        have hc1 := (M2 (L' + 1, oN2) (by wtm_at "mem")).1
        dsimp only at hc1
        have hwl := strs_len hW
        have hal : (arrs ns).length ≤ 11 := by simp [arrs, figsI]; omega
        refine' CompX.list (M2.isList (a := DA) (by wtm_at "mem")) ?hz (fun _ i' ys _ nw => nw = [] ∧ StrsAre ys ((((arrs ns).take i').filter fun y => y.map lowc == nmOf i).map sl)) ?h0 ?st (doneL2 G2 M2 ?finP)
        (case hz => exact hz_le (by first | omega | (simp; omega)))
        (case h0 => intro C cells hC hcl; cases hcl; exact ⟨rfl, .nil⟩)
        (case st =>
          intro C j v ys m nw rest h tk hj hJ hv F N hoff
          dsimp only at F N hj
          obtain ⟨rfl, hY⟩ := hJ
          obtain ⟨hj2, tv, rfl⟩ := strs_get hW (by simpa using hv)
          refine cmp_store F (fun h9 F9 hk9 => ?_) rfl rfl
          have N9 := news_but N hk9
          have hok := arrs_ok ns _ (List.getElem_mem hj2)
          have hq1 : ∀ c ∈ (arrs ns)[j], c < 128 := fun c hc => by have := hok.1 c hc; omega
          have hq2 := hok.2
          refine wpAny_tests_one ?_
          k_steps
          · refine ⟨_, _, _, [], rfl, F9, N9, fun _ h => (nomatch h), rfl, ?_⟩
            have e := ‹(sl _ == sl _) = true›
            rw [sl_beq] at e
            rw [filt_yes _ _ hj2 (by simpa using e), List.map_append]
            exact StrsAre.snoc hY _ _
          · refine ⟨_, _, _, [], rfl, F9, N9, fun _ h => (nomatch h), rfl, ?_⟩
            have e := ‹(sl _ == sl _) = false›
            rw [sl_beq] at e
            rw [filt_no _ _ hj2 (by simpa using e)]
            exact hY)
        intro D C ys m nw h tk hJ F9 N9 hk9 hD0 _ hlt
        obtain ⟨rfl, hY⟩ := hJ
        rw [List.take_of_length_le (by simp; omega)] at hY
        rw [List.nil_append] at N9
        have hDc := ltN (hlt (DU, _) (by wtm_at "mem"))
        replace hlt := allLt_of hlt
        simp only [AllLt] at hlt
        (try dsimp only)
        (try k_fold)
        k_steps
        have d' := ‹Obj.data _ = Data.cell (some (Value.ref D))›
        refine hP' _ ?_
        exact ⟨_, _, D, ys, _, _, rfl, ‹Fr g L' _ _›, d', hY, hDc, news_sub ‹News g L' _ _› (by wtm_at "sub")⟩
        --}}H
      rintro _ ⟨u3, oP2, DP, ps, h3, tk3, rfl, G3, dP2, hPS, lP, M3⟩
      have pP0 : @LT.lt Nat _ (L' + 1 + 1 + 1 + 1 + 1) DP := Nat.lt_trans p0_5 lP
      have pP4 : @LT.lt Nat _ l DP := Nat.lt_trans p4_5 lP
      clear G2 M2 dP
      dsimp only [List.drop]
      have hal : (arrs ns).length ≤ 11 := by simp [arrs, figsI]; omega
      have hTab := tab_ok (arrs ns) (arrs_ok ns) (lst_lt (arrs ns) hal) i
      have hPF := plains_fam (arrs ns) i
      have hPN := plains_len ns i
      have hP11 : (plains (arrs ns) i).length ≤ 11 := Nat.le_trans (List.length_filter_le _ _) hal
      refine cutO (fun s' => ∃ u oC DC cs h1 tk1, s' = { s with heap := h1, toks := tk1 } ∧ Fr g L' h1 (mq [(Str.ofString "choices", .ref AC), (Str.ofString "arrivals", .ref DA), (Str.ofString "stranger", .str (sl (strang (strN ns))) ts), (Str.ofString "table", .ref I), (Str.ofString "due", .ref DU)] u) ∧ oC.data = .cell (some (.ref DC)) ∧ StrsAre cs ((plains (arrs ns) i).map sl) ∧ Off L' l DU DC ∧ News g L' h1 ((It, o) :: (AC, LCg.lst us) :: (DP, LCg.lst ps) :: (DC, LCg.lst cs) :: (l, listOf (tps.map fun q => Value.ref q.1).toArray nl) :: (DU, listOf (dtp.map fun q => Value.ref q.1).toArray nd) :: (AL, listOf #[.ref A1, .ref A2] 0) :: (A1, LCg.lst us1) :: (A2, LCg.lst us2) :: (I, instObj 223 dI) :: (dI, PySem.W.dictOf [⟨hsh, .str (Str.ofString "_headers") th, .ref l⟩] n₁) :: (DA, listOf ws.toArray nA) :: (L' + 1 + 1 + 1 + 1 + 1, oL) :: (L' + 1 + 1 + 1 + 1, oG) :: (L' + 1 + 1 + 1, oC) :: (L' + 1 + 1, oP2) :: (L' + 1, oN2) :: (tps ++ dtp))) 2 ?_ ?_
      ·
        --{{I
        intro P' hP'; dsimp only [List.take]
        (try k_fold)
        k_steps
        rw [show (List.map sl (chOf i)).getD ((-1 : Int) + ((List.map sl (chOf i)).length : Nat)).toNat Str.empty = sl ((nmOf i).map upc) from by rw [show ((-1 : Int) + ((List.map sl (chOf i)).length : Nat)).toNat = (chOf i).length - 1 by rw [List.length_map]; exact om_pred _, getD_map_sl _ _ (by omega), ch_last]]
        have hPrs := hT.prs (h := h3) (fun q hq => (M3 q ((by wtm_at "sub" : ∀ q ∈ tps, q ∈ _) q hq)).1)
        have hup := up_ok i
        refine' (getall_mut I dI l (tps.map fun q => Value.ref q.1) (tabAt (arrs ns) i) ((nmOf i).map upc) _ (by omega) hup.1 (by omega) hTab.1).use2 _ G3 X' M3 T' (fun _ h => nomatch h) (fun q hq => ⟨hq, List.not_mem_nil⟩) ⟨hsh, th, n₁, (M3 (I, _) (by wtm_at "mem")).1, (M3 (dI, _) (by wtm_at "mem")).1, M3.isList (a := l) (by wtm_at "mem"), hPrs⟩ ?rm ?un ?_
        (case rm => (first | exact room3 (by assumption) (by decide) | exact room2 (by assumption) (by decide) | omega | (dsimp only [Ar, Around.deeper]; omega) | (simp only [depth_deeper, units_deeper]; dsimp only [Ar]; omega)))
        (case un => (first | exact room3 (by assumption) (by decide) | exact room2 (by assumption) (by decide) | omega | (dsimp only [Ar, Around.deeper]; omega) | (simp only [depth_deeper, units_deeper]; dsimp only [Ar]; omega)))
        rintro _ h8 tk8 S8 F8 N8 hk8 hnew ⟨DC, cs, rfl, rfl, hCS⟩
        rw [show (fun p : List Nat × List Nat => p.1.map lowc == ((nmOf i).map upc).map lowc) = fun p => p.1.map lowc == nmOf i from by rw [up_low], tab_plain _ _ hi2] at hCS
        have hOC : Off L' l DU DC := by
          rcases hnew _ (.head _) with q | q
          · exact absurd q List.not_mem_nil
          · exact Off.of q (by wtm_at "mem") (by wtm_at "mem") (by wtm_at "mem") (by wtm_at "mem") (by wtm_at "mem") (by wtm_at "mem") (by wtm_at "mem")
        obtain ⟨o1, o2, o3, o4, o5, o6, o7⟩ := hOC.out
        dsimp only
        (try k_fold)
        k_steps
        unfold Stop
        have Nz := ‹News g L' _ _›
        refine ne_texts (Nz.isList (a := DC) (by wtm_at "mem")) (Nz.isList (a := DP) (by wtm_at "mem")) hCS hPS (fun y hy => fam_small (nm_ok i) (hPF y hy)) (fun y hy => fam_small (nm_ok i) (hPF y hy)) (by (first | exact room3 (by assumption) (by decide) | exact room2 (by assumption) (by decide) | omega | (dsimp only [Ar, Around.deeper]; omega) | (simp only [depth_deeper, units_deeper]; dsimp only [Ar]; omega))) ?_
        simp only [decide_true, Bool.not_true]
        k_steps
        have d' := ‹Obj.data _ = Data.cell (some (Value.ref DC))›
        refine hP' _ ?_
        exact ⟨_, _, DC, cs, _, _, rfl, ‹Fr g L' _ _›, d', hCS, hOC, news_sub ‹News g L' _ _› (by wtm_at "sub")⟩
        --}}I
      rintro _ ⟨u4, oC2, DC, cs, h4, tk4, rfl, G4, dC2, hCS, hOC, M4⟩
      obtain ⟨o1, o2, o3, o4, o5, o6, o7⟩ := hOC.out
      clear G3 M3 dC
      dsimp only [List.drop]
      refine cutO (fun s' => ∃ u oG DG gs h1 tk1, s' = { s with heap := h1, toks := tk1 } ∧ Fr g L' h1 (mq [(Str.ofString "choices", .ref AC), (Str.ofString "arrivals", .ref DA), (Str.ofString "stranger", .str (sl (strang (strN ns))) ts), (Str.ofString "table", .ref I), (Str.ofString "due", .ref DU)] u) ∧ oG.data = .cell (some (.ref DG)) ∧ IntsAre gs ((List.range (nmOf i).length).map fun k => ((gr (nmOf i) (plains (arrs ns) i) k : Nat) : Int)) ∧ @LT.lt Nat _ DU DG ∧ News g L' h1 ((It, o) :: (AC, LCg.lst us) :: (DP, LCg.lst ps) :: (DC, LCg.lst cs) :: (DG, LCg.lst gs) :: (l, listOf (tps.map fun q => Value.ref q.1).toArray nl) :: (DU, listOf (dtp.map fun q => Value.ref q.1).toArray nd) :: (AL, listOf #[.ref A1, .ref A2] 0) :: (A1, LCg.lst us1) :: (A2, LCg.lst us2) :: (I, instObj 223 dI) :: (dI, PySem.W.dictOf [⟨hsh, .str (Str.ofString "_headers") th, .ref l⟩] n₁) :: (DA, listOf ws.toArray nA) :: (L' + 1 + 1 + 1 + 1 + 1, oL) :: (L' + 1 + 1 + 1 + 1, oG) :: (L' + 1 + 1 + 1, oC2) :: (L' + 1 + 1, oP2) :: (L' + 1, oN2) :: (tps ++ dtp))) 1 ?_ ?_
      ·
        --{{J
        intro P' hP'; dsimp only [List.take]
        (try k_fold)
        have hnl2 : (sl (nmOf i)).length = (nmOf i).length := sl_length _
        k_steps
        have Fz := ‹Fr g L' _ _›
        have Nz := ‹News g L' _ _›
        have hr := ‹IsRange _ _ _ _ _ _ _ _›
        rw [hnl2] at hr
        have X2 := X'.keeps Fz.keep
        have T2 := T'.keeps Fz.keep
        have hcN := (Nz (L' + 1, oN2) (by wtm_at "mem")).1
        have hcP := (Nz (L' + 1 + 1, oP2) (by wtm_at "mem")).1
        have hlP := Nz.isList (a := DP) (by wtm_at "mem")
        have hpl := strs_len hPS
        dsimp only at hcN hcP
        refine' CompX.range (n := (nmOf i).length) hr (small_nat (Nat.le_trans hnl.2 (by decide))) (size_nat rfl) (line_le (Nat.le_trans hnl.2 (by decide)))
          (fun C i' ys _ nw => ∃ ok vk, nw = [(C + 1, ok)] ∧ ok.data = .cell vk ∧ IntsAre ys ((List.range i').map fun k => ((gr (nmOf i) (plains (arrs ns) i) k : Nat) : Int))) ?h0 ?st (doneL2 Fz Nz ?finG)
        (case h0 => intro C cells hC hcl; obtain ⟨ok, rfl, hok⟩ := hcl.one; exact ⟨ok, _, rfl, hok, .nil⟩)
        (case st =>
          intro C j v ys m nw rest h tk hj hJ hv F N hoff
          dsimp only at F N hj
          obtain ⟨ok, vk, rfl, hok, hY⟩ := hJ
          obtain ⟨tv, rfl⟩ := hv
          refine cmp_storeC (c := C + 1) F N (fun p hp => Ne.symm (hoff _ (.head _) p hp)) rfl hok (fun h9 ok9 F9 N9 hok9 hk9 => ?_) rfl rfl
          refine wpAny_tests_nil ?_
          simp only [if_true]
          have hlP9 : h9.IsList DP ps.toArray := by obtain ⟨oo, e, r⟩ := hlP; exact ⟨oo, F9.keep _ _ e, r⟩
          have hcN9 := F9.keep _ _ hcN
          have hcP9 := F9.keep _ _ hcP
          have hck9 := (N9 (C + 1, ok9) (.head _)).1
          dsimp only at hck9
          k_steps
          have hjm : j < (nmOf i).length := hj
          refine' CompX.list hlP9 ?hz2 (fun _ q ys2 _ nw2 => nw2 = [] ∧ ys2.length = (((plains (arrs ns) i).take q).filter fun y => y.getD j 0 != (nmOf i).getD j 0).length) ?h02 ?st2 (doneL2 F9 N9 ?finG2)
          (case hz2 => exact hz_le (by first | omega | (simp; omega)))
          (case h02 => intro C2 cells hC hcl; cases hcl; exact ⟨rfl, rfl⟩)
          (case st2 =>
            intro C2 q v ys2 m2 nw2 rest2 h2 tk2 hq hJ2 hv2 F2 N2 hoff2
            dsimp only at F2 N2 hq
            obtain ⟨rfl, hY2⟩ := hJ2
            obtain ⟨hq2, tv2, rfl⟩ := strs_get hPS (by simpa using hv2)
            refine cmp_store F2 (fun h5 F5 hk5 => ?_) rfl rfl
            have N5 := news_but N2 hk5
            have hyl : (sl (plains (arrs ns) i)[q]).length = (nmOf i).length := by rw [sl_length, fam_len (hPF _ (List.getElem_mem hq2))]
            have hyl2 : j < (plains (arrs ns) i)[q].length := by rw [← sl_length, hyl]; exact hj
            refine wpAny_tests_one ?_
            k_steps
            · have e := ‹(Txt.item _ _ != Txt.item _ _) = true›
              rw [item_fam hyl2 rfl, item_fam hjm rfl, bne, sl_beq, getD_at, getD_at] at e
              refine ⟨_, _, _, [], rfl, F5, N5, fun _ h => (nomatch h), rfl, ?_⟩
              rw [filt_yes _ _ hq2 (by simpa using e), List.length_append, List.length_append, hY2]; rfl
            · have e := ‹(Txt.item _ _ != Txt.item _ _) = false›
              rw [item_fam hyl2 rfl, item_fam hjm rfl, bne, sl_beq, getD_at, getD_at] at e
              refine ⟨_, _, _, [], rfl, F5, N5, fun _ h => (nomatch h), rfl, ?_⟩
              rw [filt_no _ _ hq2 (by simpa using e)]; exact hY2)
          intro D2 C2 ys2 m2 nw2 h2 tk2 hJ2 F2 N2 hk2 _ _ _
          obtain ⟨rfl, hY2⟩ := hJ2
          rw [List.take_of_length_le (by simp; omega)] at hY2
          rw [List.nil_append] at N2
          have h11 : ys2.length ≤ 11 := by rw [hY2]; exact Nat.le_trans (List.length_filter_le _ _) hP11
          (try dsimp only)
          k_steps
          refine ⟨_, _, _, [(C + 1, ok9)], rfl, F2, fun p hp => N2 p (.tail _ hp), fun p hp q hq => by rw [List.mem_singleton.mp hp]; exact hoff _ (.head _) q hq, ok9, _, rfl, hok9, ?_⟩
          rw [List.range_succ, List.map_append, hY2]
          exact IntsAre.snoc hY _ _)
        intro D C ys m nw h tk hJ F9 N9 hk9 hD0 _ hlt
        obtain ⟨ok, vk, rfl, hok, hY⟩ := hJ
        have hDc := ltN (hlt (DU, _) (by wtm_at "mem"))
        replace hlt := allLt_of hlt
        simp only [AllLt] at hlt
        replace N9 := news_mid N9
        (try dsimp only)
        (try k_fold)
        k_steps
        have d' := ‹Obj.data _ = Data.cell (some (Value.ref D))›
        refine hP' _ ?_
        exact ⟨_, _, D, ys, _, _, rfl, ‹Fr g L' _ _›, d', hY, hDc, news_sub ‹News g L' _ _› (by wtm_at "sub")⟩
        --}}J
      rintro _ ⟨u5', oG2, DG, gs, h5', tk5', rfl, G5, dG2, hGS, lG, M5⟩
      have pG0 : @LT.lt Nat _ (L' + 1 + 1 + 1 + 1 + 1) DG := Nat.lt_trans p0_5 lG
      have pG4 : @LT.lt Nat _ l DG := Nat.lt_trans p4_5 lG
      clear G4 M4 dG
      dsimp only [List.drop]
      refine cutO (fun s' => ∃ u DL nC cols h1 tk1, s' = { s with heap := h1, toks := tk1 } ∧ Fr g L' h1 (mq [(Str.ofString "choices", .ref AC), (Str.ofString "columns", .ref DL), (Str.ofString "arrivals", .ref DA), (Str.ofString "stranger", .str (sl (strang (strN ns))) ts), (Str.ofString "table", .ref I), (Str.ofString "due", .ref DU)] u) ∧ ColsAre cols ((List.range (nmOf i).length).map (colf (nmOf i) (plains (arrs ns) i))) ∧
        News g L' h1 ((DL, listOf (cols.map fun p => Value.ref p.1).toArray nC) :: (It, o) :: (AC, LCg.lst us) :: (DP, LCg.lst ps) :: (DC, LCg.lst cs) :: (DG, LCg.lst gs) :: (l, listOf (tps.map fun q => Value.ref q.1).toArray nl) :: (DU, listOf (dtp.map fun q => Value.ref q.1).toArray nd) :: (AL, listOf #[.ref A1, .ref A2] 0) :: (A1, LCg.lst us1) :: (A2, LCg.lst us2) :: (I, instObj 223 dI) :: (dI, PySem.W.dictOf [⟨hsh, .str (Str.ofString "_headers") th, .ref l⟩] n₁) :: (DA, listOf ws.toArray nA) :: (L' + 1 + 1 + 1 + 1 + 1, oL) :: (L' + 1 + 1 + 1 + 1, oG2) :: (L' + 1 + 1 + 1, oC2) :: (L' + 1 + 1, oP2) :: (L' + 1, oN2) :: ((tps ++ dtp) ++ cols))) 1 ?_ ?_
      ·
        --{{K
        intro P' hP'; dsimp only [List.take]
        (try k_fold)
        k_steps
        refine' (columns_mut (nmOf i) (nm_ok i) DC cs (plains (arrs ns) i) hCS hPF hPN (by omega) (by omega)).use2 _ G5 X' M5 T' (fun _ h => nomatch h) (fun q hq => ⟨hq, List.not_mem_nil⟩) (M5.isList (a := DC) (by wtm_at "mem")) ?rm ?un ?_
        (case rm => (first | exact room3 (by assumption) (by decide) | exact room2 (by assumption) (by decide) | omega | (dsimp only [Ar, Around.deeper]; omega) | (simp only [depth_deeper, units_deeper]; dsimp only [Ar]; omega)))
        (case un => (first | exact room3 (by assumption) (by decide) | exact room2 (by assumption) (by decide) | omega | (dsimp only [Ar, Around.deeper]; omega) | (simp only [depth_deeper, units_deeper]; dsimp only [Ar]; omega)))
        rintro _ h8 tk8 S8 F8 N8 hk8 hnew ⟨DL, cols, nC, rfl, rfl, hCols, _⟩
        dsimp only
        replace N8 := news_push N8
        (try k_fold)
        k_steps
        refine hP' _ ?_
        refine' ⟨_, DL, nC, cols, _, _, rfl, ?F, hCols, ‹News g L' _ _›⟩
        (case F => wtm_at "frq")
        --}}K
      rintro _ ⟨u6', DL, nC, cols, h6', tk6', rfl, G6, hCols, M6⟩
      clear G5 M5
      dsimp only [List.drop]
      have hColL := hCols.length
      rw [List.length_map, List.length_range] at hColL
      have hasc : (sl (nmOf i)).cps.all (· < 128) = true := sl_all (fam_small (nm_ok i) (low_nm i))
      refine cutO (fun s' => ∃ u h1 tk1, s' = { s with heap := h1, toks := tk1 } ∧ Fr g L' h1 (mq [(Str.ofString "choices", .ref AC), (Str.ofString "columns", .ref DL), (Str.ofString "arrivals", .ref DA), (Str.ofString "stranger", .str (sl (strang (strN ns))) ts), (Str.ofString "table", .ref I), (Str.ofString "due", .ref DU)] u) ∧
        News g L' h1 ((DL, listOf (cols.map fun p => Value.ref p.1).toArray nC) :: (It, o) :: (AC, LCg.lst us) :: (DP, LCg.lst ps) :: (DC, LCg.lst cs) :: (DG, LCg.lst gs) :: (l, listOf (tps.map fun q => Value.ref q.1).toArray nl) :: (DU, listOf (dtp.map fun q => Value.ref q.1).toArray nd) :: (AL, listOf #[.ref A1, .ref A2] 0) :: (A1, LCg.lst us1) :: (A2, LCg.lst us2) :: (I, instObj 223 dI) :: (dI, PySem.W.dictOf [⟨hsh, .str (Str.ofString "_headers") th, .ref l⟩] n₁) :: (DA, listOf ws.toArray nA) :: (L' + 1 + 1 + 1 + 1 + 1, oL) :: (L' + 1 + 1 + 1 + 1, oG2) :: (L' + 1 + 1 + 1, oC2) :: (L' + 1 + 1, oP2) :: (L' + 1, oN2) :: ((tps ++ dtp) ++ cols))) 1 ?_ ?_
      ·
        --{{M
        intro P' hP'; dsimp only [List.take]
        (try k_fold)
        k_steps
        have X2 := X'.keeps G6.keep
        have T2 := T'.keeps G6.keep
        unfold Stop
        refine' zipS_comp (M6.isList (.head _)) hasc ?hz ?hle (fun _ q ys _ nw => nw = [] ∧ IntsAre ys ((List.range q).map fun k => ((gr (nmOf i) (plains (arrs ns) i) k : Nat) : Int))) ?h0 ?st (doneL2 G6 M6 ?finK)
        (case hz => exact hz_le (by first | omega | (simp; omega)))
        (case hle => simp [sl]; omega)
        (case h0 => intro C cells hC hcl; cases hcl; exact ⟨rfl, .nil⟩)
        (case st =>
          rintro C j v ys m nw rest h tk hj ⟨rfl, hY⟩ ⟨T, x, c, u, rfl, hx, hc, hT⟩ F N hoff
          dsimp only at F N hj
          simp only [List.size_toArray, List.length_map] at hj
          simp only [List.getElem?_toArray, List.getElem?_map] at hx
          obtain ⟨⟨ca, oc⟩, ec, rfl⟩ := Option.map_eq_some_iff.mp hx
          obtain ⟨hj2, n2, wv, eo, hW⟩ := hCols.get ec
          dsimp only at eo
          subst eo
          simp only [List.getElem_map, List.getElem_range] at hW
          have hjm : j < (nmOf i).length := by omega
          have hcj : c = (nmOf i).getD j 0 := by
            rw [← getD_at hjm]
            have q : (nmOf i)[j]? = some c := by simpa [sl] using hc
            rw [List.getElem?_eq_getElem hjm] at q
            injection q with q; exact q.symm
          subst hcj
          have hcal : h6'.IsList ca wv.toArray := M6.isList ((by wtm_at "sub" : ∀ q ∈ cols, q ∈ _) _ (List.mem_of_getElem? ec))
          refine cmp_store2 rfl F hT (fun h9 tk9 F9 hk9 => ?_) rfl rfl rfl
          have N9 := news_but N hk9
          refine wpAny_tests_nil ?_
          simp only [if_true]
          k_steps
          have hcal9 : h9.IsList ca wv.toArray := by obtain ⟨oo, e, r⟩ := hcal; exact ⟨oo, F9.keep _ _ e, r⟩
          refine' (bl_pure2 ca wv ((colf (nmOf i) (plains (arrs ns) i) j).map fun c => [c]) [(nmOf i).getD j 0] u (by rw [List.length_map, colf_len]; omega) (by rw [List.map_map]; exact hW) (col_srt (nm_ok i) _ hjm)).use F9 X2 N9 T2 hcal9 ?rm ?un ?_
          (case rm => (first | exact room3 (by assumption) (by decide) | exact room2 (by assumption) (by decide) | omega | (dsimp only [Ar, Around.deeper]; omega) | (simp only [depth_deeper, units_deeper]; dsimp only [Ar]; omega)))
          (case un => (first | exact room3 (by assumption) (by decide) | exact room2 (by assumption) (by decide) | omega | (dsimp only [Ar, Around.deeper]; omega) | (simp only [depth_deeper, units_deeper]; dsimp only [Ar]; omega)))
          rintro _ h8 tk8 F8 N8 hk8 ⟨r8, t8, rfl, hA⟩
          dsimp only
          rw [List.length_map, colf_len] at hA
          refine ⟨_, _, _, [], rfl, F8, N8, fun _ h => (nomatch h), rfl, ?_⟩
          rw [at_left (nm_ok i) hjm hA, List.range_succ, List.map_append]
          exact IntsAre.snoc hY _ _)
        intro D C ys m nw h tk hJ F9 N9 hk9 hD0 _ hlt
        obtain ⟨rfl, hY⟩ := hJ
        rw [List.nil_append] at N9
        simp only [List.size_toArray, List.length_map, hColL] at hY
        (try dsimp only)
        (try k_fold)
        k_steps
        unfold Stop
        refine ke_ne_ints (N9.isList (.head _)) (N9.isList (a := DG) (by wtm_at "mem")) hY hGS (by (first | exact room3 (by assumption) (by decide) | exact room2 (by assumption) (by decide) | omega | (dsimp only [Ar, Around.deeper]; omega) | (simp only [depth_deeper, units_deeper]; dsimp only [Ar]; omega))) ?_
        simp only [decide_true, Bool.not_true]
        k_steps
        refine hP' _ ?_
        exact ⟨_, _, _, rfl, F9, news_sub N9 (by wtm_at "sub")⟩
        --}}M
      rintro _ ⟨u7', h7', tk7', rfl, G7, M7⟩
      clear G6 M6
      dsimp only [List.drop]
      have hasu : (sl ((nmOf i).map upc)).cps.all (· < 128) = true := sl_all fun c hc => by have := (up_ok i).1 c hc; omega
      refine cutO (fun s' => ∃ u h1 tk1, s' = { s with heap := h1, toks := tk1 } ∧ Fr g L' h1 (mq [(Str.ofString "choices", .ref AC), (Str.ofString "columns", .ref DL), (Str.ofString "arrivals", .ref DA), (Str.ofString "stranger", .str (sl (strang (strN ns))) ts), (Str.ofString "table", .ref I), (Str.ofString "due", .ref DU)] u) ∧
        News g L' h1 ((DL, listOf (cols.map fun p => Value.ref p.1).toArray nC) :: (It, o) :: (AC, LCg.lst us) :: (DP, LCg.lst ps) :: (DC, LCg.lst cs) :: (DG, LCg.lst gs) :: (l, listOf (tps.map fun q => Value.ref q.1).toArray nl) :: (DU, listOf (dtp.map fun q => Value.ref q.1).toArray nd) :: (AL, listOf #[.ref A1, .ref A2] 0) :: (A1, LCg.lst us1) :: (A2, LCg.lst us2) :: (I, instObj 223 dI) :: (dI, PySem.W.dictOf [⟨hsh, .str (Str.ofString "_headers") th, .ref l⟩] n₁) :: (DA, listOf ws.toArray nA) :: (L' + 1 + 1 + 1 + 1 + 1, oL) :: (L' + 1 + 1 + 1 + 1, oG2) :: (L' + 1 + 1 + 1, oC2) :: (L' + 1 + 1, oP2) :: (L' + 1, oN2) :: ((tps ++ dtp) ++ cols))) 1 ?_ ?_
      ·
        --{{N
        intro P' hP'; dsimp only [List.take]
        (try k_fold)
        k_steps
        rw [show (List.map sl (chOf i)).getD ((-1 : Int) + ((List.map sl (chOf i)).length : Nat)).toNat Str.empty = sl ((nmOf i).map upc) from by rw [show ((-1 : Int) + ((List.map sl (chOf i)).length : Nat)).toNat = (chOf i).length - 1 by rw [List.length_map]; exact om_pred _, getD_map_sl _ _ (by omega), ch_last]]
        have X2 := X'.keeps G7.keep
        have T2 := T'.keeps G7.keep
        unfold Stop
        refine' zipS_comp (M7.isList (.head _)) hasu ?hz ?hle (fun _ q ys _ nw => nw = [] ∧ IntsAre ys ((List.range q).map fun k => ((gr (nmOf i) (plains (arrs ns) i) k : Nat) : Int))) ?h0 ?st (doneL2 G7 M7 ?finM)
        (case hz => exact hz_le (by first | omega | (simp; omega)))
        (case hle => simp [sl]; omega)
        (case h0 => intro C cells hC hcl; cases hcl; exact ⟨rfl, .nil⟩)
        (case st =>
          rintro C j v ys m nw rest h tk hj ⟨rfl, hY⟩ ⟨T, x, c, u, rfl, hx, hc, hT⟩ F N hoff
          dsimp only at F N hj
          simp only [List.size_toArray, List.length_map] at hj
          simp only [List.getElem?_toArray, List.getElem?_map] at hx
          obtain ⟨⟨ca, oc⟩, ec, rfl⟩ := Option.map_eq_some_iff.mp hx
          obtain ⟨hj2, n2, wv, eo, hW⟩ := hCols.get ec
          dsimp only at eo
          subst eo
          simp only [List.getElem_map, List.getElem_range] at hW
          have hjm : j < (nmOf i).length := by omega
          have hcj : c = upc ((nmOf i).getD j 0) := by
            rw [← getD_at hjm]
            have q : ((nmOf i).map upc)[j]? = some c := by simpa [sl] using hc
            rw [List.getElem?_map, List.getElem?_eq_getElem hjm] at q
            injection q with q; exact q.symm
          subst hcj
          have hcal : h7'.IsList ca wv.toArray := M7.isList ((by wtm_at "sub" : ∀ q ∈ cols, q ∈ _) _ (List.mem_of_getElem? ec))
          refine cmp_store2 rfl F hT (fun h9 tk9 F9 hk9 => ?_) rfl rfl rfl
          have N9 := news_but N hk9
          refine wpAny_tests_nil ?_
          simp only [if_true]
          k_steps
          have hcal9 : h9.IsList ca wv.toArray := by obtain ⟨oo, e, r⟩ := hcal; exact ⟨oo, F9.keep _ _ e, r⟩
          refine' (br_text2 ca wv ((colf (nmOf i) (plains (arrs ns) i) j).map fun c => [c]) [upc ((nmOf i).getD j 0)] u (by rw [List.length_map, colf_len]; omega) (by rw [List.map_map]; exact hW) (col_srt (nm_ok i) _ hjm)).use F9 X2 N9 T2 ⟨hcal9, cmp_text _ w _ _ _ (by rw [List.map_map]; exact hW)⟩ ?rm ?un ?_
          (case rm => (first | exact room3 (by assumption) (by decide) | exact room2 (by assumption) (by decide) | omega | (dsimp only [Ar, Around.deeper]; omega) | (simp only [depth_deeper, units_deeper]; dsimp only [Ar]; omega)))
          (case un => (first | exact room3 (by assumption) (by decide) | exact room2 (by assumption) (by decide) | omega | (dsimp only [Ar, Around.deeper]; omega) | (simp only [depth_deeper, units_deeper]; dsimp only [Ar]; omega)))
          rintro _ h8 tk8 F8 N8 hk8 ⟨r8, t8, rfl, hA⟩
          dsimp only
          rw [hW.length, List.length_map, colf_len] at hA
          refine ⟨_, _, _, [], rfl, F8, N8, fun _ h => (nomatch h), rfl, ?_⟩
          rw [at_right (nm_ok i) hjm hA, List.range_succ, List.map_append]
          exact IntsAre.snoc hY _ _)
        intro D C ys m nw h tk hJ F9 N9 hk9 hD0 _ hlt
        obtain ⟨rfl, hY⟩ := hJ
        rw [List.nil_append] at N9
        simp only [List.size_toArray, List.length_map, hColL] at hY
        (try dsimp only)
        (try k_fold)
        k_steps
        unfold Stop
        refine ke_ne_ints (N9.isList (.head _)) (N9.isList (a := DG) (by wtm_at "mem")) hY hGS (by (first | exact room3 (by assumption) (by decide) | exact room2 (by assumption) (by decide) | omega | (dsimp only [Ar, Around.deeper]; omega) | (simp only [depth_deeper, units_deeper]; dsimp only [Ar]; omega))) ?_
        simp only [decide_true, Bool.not_true]
        k_steps
        refine hP' _ ?_
        exact ⟨_, _, _, rfl, F9, news_sub N9 (by wtm_at "sub")⟩
        --}}N
      rintro _ ⟨u8', h8', tk8', rfl, G8, M8'⟩
      have M8 := news_sub (n₂ := (It, o) :: (AC, LCg.lst us) :: (DP, LCg.lst ps) :: (DC, LCg.lst cs) :: (DG, LCg.lst gs) :: (l, listOf (tps.map fun q => Value.ref q.1).toArray nl) :: (DU, listOf (dtp.map fun q => Value.ref q.1).toArray nd) :: (AL, listOf #[.ref A1, .ref A2] 0) :: (A1, LCg.lst us1) :: (A2, LCg.lst us2) :: (I, instObj 223 dI) :: (dI, PySem.W.dictOf [⟨hsh, .str (Str.ofString "_headers") th, .ref l⟩] n₁) :: (DA, listOf ws.toArray nA) :: (L' + 1 + 1 + 1 + 1 + 1, oL) :: (L' + 1 + 1 + 1 + 1, oG2) :: (L' + 1 + 1 + 1, oC2) :: (L' + 1 + 1, oP2) :: (L' + 1, oN2) :: (tps ++ dtp)) M8' (by wtm_at "sub")
      clear G7 M7 M8' hCols hColL
      dsimp only [List.drop]
      refine cutO (fun s' => ∃ u tm h1 tk1, s' = { s with heap := h1, toks := tk1 } ∧ Fr g L' h1 (mq [(Str.ofString "choices", .ref AC), (Str.ofString "middle", .str (sl (midOf (arrs ns) i)) tm), (Str.ofString "arrivals", .ref DA), (Str.ofString "stranger", .str (sl (strang (strN ns))) ts), (Str.ofString "table", .ref I), (Str.ofString "due", .ref DU)] u) ∧
        News g L' h1 ((It, o) :: (AC, LCg.lst us) :: (DP, LCg.lst ps) :: (DC, LCg.lst cs) :: (DG, LCg.lst gs) :: (l, listOf (tps.map fun q => Value.ref q.1).toArray nl) :: (DU, listOf (dtp.map fun q => Value.ref q.1).toArray nd) :: (AL, listOf #[.ref A1, .ref A2] 0) :: (A1, LCg.lst us1) :: (A2, LCg.lst us2) :: (I, instObj 223 dI) :: (dI, PySem.W.dictOf [⟨hsh, .str (Str.ofString "_headers") th, .ref l⟩] n₁) :: (DA, listOf ws.toArray nA) :: (L' + 1 + 1 + 1 + 1 + 1, oL) :: (L' + 1 + 1 + 1 + 1, oG2) :: (L' + 1 + 1 + 1, oC2) :: (L' + 1 + 1, oP2) :: (L' + 1, oN2) :: (tps ++ dtp))) 2 ?_ ?_
      ·
        --{{O
        intro P' hP'; dsimp only [List.take]
        (try k_fold)
        k_steps
        refine' (middle_pure (nmOf i) (nm_ok i) DC cs (plains (arrs ns) i) hCS hPF hPN (by omega) (by omega)).use G8 X' M8 T' (M8.isList (a := DC) (by wtm_at "mem")) ?rm ?un ?_
        (case rm => (first | exact room3 (by assumption) (by decide) | exact room2 (by assumption) (by decide) | omega | (dsimp only [Ar, Around.deeper]; omega) | (simp only [depth_deeper, units_deeper]; dsimp only [Ar]; omega)))
        (case un => (first | exact room3 (by assumption) (by decide) | exact room2 (by assumption) (by decide) | omega | (dsimp only [Ar, Around.deeper]; omega) | (simp only [depth_deeper, units_deeper]; dsimp only [Ar]; omega)))
        rintro _ h8 tk8 F8 N8 hk8 ⟨tm, rfl⟩
        dsimp only
        have hnl2 : (sl (nmOf i)).length = (nmOf i).length := sl_length _
        k_steps
        have Fz := ‹Fr g L' _ _›
        have Nz := ‹News g L' _ _›
        have hr := ‹IsRange _ _ _ _ _ _ _ _›
        rw [hnl2] at hr
        have X2 := X'.keeps Fz.keep
        have T2 := T'.keeps Fz.keep
        have hcN := (Nz (L' + 1, oN2) (by wtm_at "mem")).1
        have hcP := (Nz (L' + 1 + 1, oP2) (by wtm_at "mem")).1
        have hcG := (Nz (L' + 1 + 1 + 1 + 1, oG2) (by wtm_at "mem")).1
        have hlP := Nz.isList (a := DP) (by wtm_at "mem")
        have hlG := Nz.isList (a := DG) (by wtm_at "mem")
        have hpl := strs_len hPS
        have hgl := hGS.length
        rw [List.length_map, List.length_range] at hgl
        dsimp only at hcN hcP hcG
        refine' CompX.range (n := (nmOf i).length) hr (small_nat (Nat.le_trans hnl.2 (by decide))) (size_nat rfl) (line_le (Nat.le_trans hnl.2 (by decide)))
          (fun C q ys _ nw => nw = [] ∧ StrsAre ys (((midOf (arrs ns) i).take q).map fun c => sl [c])) ?h0 ?st (doneL2 Fz Nz ?finO)
        (case h0 => intro C cells hC hcl; cases hcl; exact ⟨rfl, .nil⟩)
        (case st =>
          intro C j v ys m nw rest h tk hj hJ hv F N hoff
          dsimp only at F N hj
          obtain ⟨rfl, hY⟩ := hJ
          obtain ⟨tv, rfl⟩ := hv
          refine cmp_store F (fun h9 F9 hk9 => ?_) rfl rfl
          have N9 := news_but N hk9
          refine wpAny_tests_nil ?_
          simp only [if_true]
          have hjm : j < (nmOf i).length := hj
          have hit := item_fam hjm (z := sl (nmOf i)) rfl
          have hc128 : ∀ c ∈ [(nmOf i)[j]], c < 128 := fun c hc => by rw [List.mem_singleton.mp hc]; exact fam_small (nm_ok i) (low_nm i) _ (List.getElem_mem _)
          have hgr : ((List.range (nmOf i).length).map fun k => ((gr (nmOf i) (plains (arrs ns) i) k : Nat) : Int)).getD (0 + (j : Int)).toNat 0 = ((gr (nmOf i) (plains (arrs ns) i) j : Nat) : Int) := by
            rw [show (0 + (j : Int)).toNat = j by omega]; exact getD_range _ hjm
          have hmj : j < (midOf (arrs ns) i).length := by rw [fam_len (mid_low _ _)]; exact hjm
          have hmg : (midOf (arrs ns) i)[j] = if (plains (arrs ns) i).length < 2 * gr (nmOf i) (plains (arrs ns) i) j then upc (nmOf i)[j] else (nmOf i)[j] := by
            rw [getD_at hmj, getD_at hjm]; exact mid_get hjm
          k_steps
          · have e := ‹(ps.length : Int) < 2 * _›
            rw [hgr] at e
            refine ⟨_, _, _, [], rfl, F9, N9, fun _ h => (nomatch h), rfl, ?_⟩
            rw [hit, upper_sl hc128, map_step _ _ hmj, hmg, if_pos (by omega)]
            exact StrsAre.snoc hY _ _
          · have e := ‹¬ (ps.length : Int) < 2 * _›
            rw [hgr] at e
            refine ⟨_, _, _, [], rfl, F9, N9, fun _ h => (nomatch h), rfl, ?_⟩
            rw [hit, map_step _ _ hmj, hmg, if_neg (by omega)]
            exact StrsAre.snoc hY _ _)
        intro D C ys m nw h tk hJ F9 N9 hk9 hD0 _ hlt
        obtain ⟨rfl, hY⟩ := hJ
        rw [List.nil_append] at N9
        have em : (midOf (arrs ns) i).length = (nmOf i).length := fam_len (mid_low _ _)
        rw [List.take_of_length_le (by omega)] at hY
        (try dsimp only)
        (try k_fold)
        k_steps
        refine' join_listW (ys := (midOf (arrs ns) i).map fun c => sl [c]) ?jl ?ji ?js ?jw ?_
        (case jl => exact N9.isList (.head _))
        (case ji => exact hY)
        (case js => decide)
        (case jw => rw [len_ones, List.length_map, em]; omega)
        intro t4 k4
        rw [show Txt.join (Str.ofString "") ((midOf (arrs ns) i).map fun c => sl [c]) = sl (midOf (arrs ns) i) from tjoin_ones _]
        (try k_fold)
        k_steps
        · exfalso
          have e := ‹(sl (midf (nmOf i) (plains (arrs ns) i)) != sl (midOf (arrs ns) i)) = true›
          rw [bne, sl_beq, show midf (nmOf i) (plains (arrs ns) i) = midOf (arrs ns) i from rfl] at e
          simp at e
        · refine hP' _ ?_
          refine' ⟨_, tm, _, _, rfl, ?F, news_sub N9 (by wtm_at "sub")⟩
          (case F => wtm_at "frq")
        --}}O
      rintro _ ⟨u9', tm, h9', tk9', rfl, G9, M9⟩
      clear G8 M8
      dsimp only [List.drop]
      refine cutO (fun s' => ∃ u DK rws h1 tk1, s' = { s with heap := h1, toks := tk1 } ∧ Fr g L' h1 (mq [(Str.ofString "choices", .ref AC), (Str.ofString "middle", .str (sl (midOf (arrs ns) i)) tm), (Str.ofString "counts", .ref DK), (Str.ofString "arrivals", .ref DA), (Str.ofString "stranger", .str (sl (strang (strN ns))) ts), (Str.ofString "table", .ref I), (Str.ofString "due", .ref DU)] u) ∧
        RowsAre rws ((chOf i).map fun c => (List.range (nmOf i).length).map fun k => ((cnt (nmOf i) (plains (arrs ns) i) c k : Nat) : Int)) ∧
        News g L' h1 ((DK, LCg.lst (rws.map fun p => Value.ref p.1)) :: (It, o) :: (AC, LCg.lst us) :: (DP, LCg.lst ps) :: (DC, LCg.lst cs) :: (DG, LCg.lst gs) :: (l, listOf (tps.map fun q => Value.ref q.1).toArray nl) :: (DU, listOf (dtp.map fun q => Value.ref q.1).toArray nd) :: (AL, listOf #[.ref A1, .ref A2] 0) :: (A1, LCg.lst us1) :: (A2, LCg.lst us2) :: (I, instObj 223 dI) :: (dI, PySem.W.dictOf [⟨hsh, .str (Str.ofString "_headers") th, .ref l⟩] n₁) :: (DA, listOf ws.toArray nA) :: (L' + 1 + 1 + 1 + 1 + 1, oL) :: (L' + 1 + 1 + 1 + 1, oG2) :: (L' + 1 + 1 + 1, oC2) :: (L' + 1 + 1, oP2) :: (L' + 1, oN2) :: ((tps ++ dtp) ++ rws))) 1 ?_ ?_
      ·
        --{{P
        intro P' hP'; dsimp only [List.take]
        (try k_fold)
        k_steps
        have X2 := X'.keeps G9.keep
        have T2 := T'.keeps G9.keep
        have hcN := (M9 (L' + 1, oN2) (by wtm_at "mem")).1
        have hcP := (M9 (L' + 1 + 1, oP2) (by wtm_at "mem")).1
        have hcG := (M9 (L' + 1 + 1 + 1 + 1, oG2) (by wtm_at "mem")).1
        have hlP := M9.isList (a := DP) (by wtm_at "mem")
        have hlG := M9.isList (a := DG) (by wtm_at "mem")
        have hpl := strs_len hPS
        have hgl := hGS.length
        rw [List.length_map, List.length_range] at hgl
        have hnl2 : (sl (nmOf i)).length = (nmOf i).length := sl_length _
        dsimp only at hcN hcP hcG
        refine' CompX.list (M9.isList (a := AC) (by wtm_at "mem")) ?hz (fun C q ys _ nw => ∃ oc vc rws, nw = (C + 1, oc) :: rws ∧ oc.data = .cell vc ∧ ys = rws.map (fun p => Value.ref p.1) ∧ RowsAre rws (((chOf i).take q).map fun c => (List.range (nmOf i).length).map fun k => ((cnt (nmOf i) (plains (arrs ns) i) c k : Nat) : Int))) ?h0 ?st (doneS2 G9 M9 rfl rfl ?finPc)
        (case hz => exact hz_le (by first | omega | (simp; omega)))
        (case h0 => intro C cells hC hcl; obtain ⟨ok, rfl, hok⟩ := hcl.one; exact ⟨ok, _, [], rfl, hok, rfl, .nil⟩)
        (case st =>
          intro C j v ys m nw rest h tk hj hJ hv F N hoff
          dsimp only at F N hj
          obtain ⟨oc, vc, rws, rfl, hoc, rfl, hR⟩ := hJ
          obtain ⟨hj2, tv, rfl⟩ := strs_get hUS (by simpa using hv)
          refine cmp_storeC (c := C + 1) F (post := rws ++ rest) N ?hp rfl hoc (fun h9 oc9 F9 N9 hoc9 hk9 => ?_) rfl rfl
          (case hp =>
            have hrc := rows_cell N hR (fun q hq => .tail _ (List.mem_append_left _ hq)) (a := C + 1) (.head _) hoc
            intro p hp
            rcases List.mem_append.mp hp with hp | hp
            · exact hrc p hp
            · exact Ne.symm (hoff _ (.head _) p hp))
          refine wpAny_tests_nil ?_
          simp only [if_true]
          have hcN9 := F9.keep _ _ hcN
          have hcP9 := F9.keep _ _ hcP
          have hcG9 := F9.keep _ _ hcG
          have hck9 := (N9 (C + 1, oc9) (.head _)).1
          have hchl : (sl (chOf i)[j]).length = (nmOf i).length := by rw [sl_length, fam_len (ch_fam i _ (List.getElem_mem hj2))]
          dsimp only at hck9
          k_steps
          have Fy := ‹Fr h9' C _ _›
          have Ny := ‹News h9' C _ _›
          have hr := ‹IsRange _ _ _ _ _ _ _ _›
          rw [hnl2] at hr
          have hcNy := Fy.keep _ _ hcN
          have hcPy := Fy.keep _ _ hcP
          have hcGy := Fy.keep _ _ hcG
          have hcky := (Ny (C + 1, oc9) (.head _)).1
          have X3 := X2.keeps Fy.keep
          have T3 := T2.keeps Fy.keep
          dsimp only at hcky
          have hlPy := Heap.IsList.at hlP (fun o e => Fy.keep _ o e)
          have hlGy := Heap.IsList.at hlG (fun o e => Fy.keep _ o e)
          refine' CompX.range (n := (nmOf i).length) hr (small_nat (Nat.le_trans hnl.2 (by decide))) (size_nat rfl) (line_le (Nat.le_trans hnl.2 (by decide)))
            (fun C2 q ys2 _ nw2 => nw2 = [] ∧ IntsAre ys2 ((List.range q).map fun k => ((cnt (nmOf i) (plains (arrs ns) i) (chOf i)[j] k : Nat) : Int))) ?h02 ?st2 (doneL2 Fy Ny ?finP2)
          (case h02 => intro C2 cells hC hcl; cases hcl; exact ⟨rfl, .nil⟩)
          (case st2 =>
            intro C2 q v ys2 m2 nw2 rest2 h2 tk2 hq hJ2 hv2 F2 N2 hoff2
            dsimp only at F2 N2 hq
            obtain ⟨rfl, hY2⟩ := hJ2
            obtain ⟨tv2, rfl⟩ := hv2
            refine cmp_store F2 (fun h5 F5 hk5 => ?_) rfl rfl
            have N5 := news_but N2 hk5
            have hqm : q < (nmOf i).length := hq
            have hqc : q < (chOf i)[j].length := by rw [← sl_length, hchl]; exact hq
            have hgr : ((List.range (nmOf i).length).map fun k => ((gr (nmOf i) (plains (arrs ns) i) k : Nat) : Int)).getD (0 + (q : Int)).toNat 0 = ((gr (nmOf i) (plains (arrs ns) i) q : Nat) : Int) := by
              rw [show (0 + (q : Int)).toNat = q by omega]; exact getD_range _ hqm
            have hgle := gr_le (nmOf i) (plains (arrs ns) i) q
            refine wpAny_tests_nil ?_
            simp only [if_true]
            k_steps
            · have e := ‹(Txt.item _ _ == Txt.item _ _) = true›
              rw [item_fam hqc rfl, item_fam hqm rfl, sl_beq, getD_at, getD_at] at e
              have e' : (chOf i)[j].getD q 0 = (nmOf i).getD q 0 := by simpa using e
              refine ⟨_, _, _, [], rfl, F5, N5, fun _ h => (nomatch h), rfl, ?_⟩
              rw [hgr, List.range_succ, List.map_append, show ((gr (nmOf i) (plains (arrs ns) i) q : Nat) : Int) = ((cnt (nmOf i) (plains (arrs ns) i) (chOf i)[j] q : Nat) : Int) from by unfold cnt; rw [if_pos e']]
              exact IntsAre.snoc hY2 _ _
            · have e := ‹(Txt.item _ _ == Txt.item _ _) = false›
              rw [item_fam hqc rfl, item_fam hqm rfl, sl_beq, getD_at, getD_at] at e
              have e' : ¬ (chOf i)[j].getD q 0 = (nmOf i).getD q 0 := by simpa using e
              refine ⟨_, _, _, [], rfl, F5, N5, fun _ h => (nomatch h), rfl, ?_⟩
              rw [hgr, hpl, List.range_succ, List.map_append, show ((plains (arrs ns) i).length : Int) - ((gr (nmOf i) (plains (arrs ns) i) q : Nat) : Int) = ((cnt (nmOf i) (plains (arrs ns) i) (chOf i)[j] q : Nat) : Int) from by unfold cnt; rw [if_neg e']; omega]
              exact IntsAre.snoc hY2 _ _)
          intro D2 C2 ys2 m2 nw2 h2 tk2 hJ2 F2 N2 hk2 _ _ hlt2
          obtain ⟨rfl, hY2⟩ := hJ2
          rw [List.nil_append] at N2
          refine ⟨_, _, _, (C + 1, oc9) :: (rws ++ [(D2, LCg.lst ys2)]), rfl, F2, news_row N2, ?_, oc9, _, rws ++ [(D2, LCg.lst ys2)], rfl, hoc9, by rw [List.map_append]; rfl, ?_⟩
          · intro p hp q hq
            rcases List.mem_cons.mp hp with rfl | hp
            · exact hoff _ (.head _) q hq
            · rcases List.mem_append.mp hp with hp | hp
              · exact hoff p (.tail _ hp) q hq
              · rw [List.mem_singleton.mp hp]; exact Nat.ne_of_gt (hlt2 q (.tail _ (List.mem_append_right _ hq)))
          · rw [map_step _ _ hj2]
            exact hR.snoc hY2)
        intro D C ys m nw h tk hJ F9 N9 hk9 hD0 hnw hlt
        obtain ⟨oc, vc, rws, rfl, hoc, rfl, hR⟩ := hJ
        rw [List.take_of_length_le (by simp; omega)] at hR
        (try dsimp only)
        (try k_fold)
        k_steps
        refine hP' _ ?_
        refine' ⟨_, D, rws, _, _, rfl, ?F, hR, news_rows N9⟩
        (case F => wtm_at "frq")
        --}}P
      rintro _ ⟨u10, DK, rws, h10, tk10, rfl, G10, hRW, M10⟩
      clear G9 M9
      dsimp only [List.drop]
      refine cutO (fun s' => ∃ u DT tv h1 tk1, s' = { s with heap := h1, toks := tk1 } ∧ Fr g L' h1 (mq [(Str.ofString "choices", .ref AC), (Str.ofString "middle", .str (sl (midOf (arrs ns) i)) tm), (Str.ofString "counts", .ref DK), (Str.ofString "told", .ref DT), (Str.ofString "arrivals", .ref DA), (Str.ofString "stranger", .str (sl (strang (strN ns))) ts), (Str.ofString "table", .ref I), (Str.ofString "due", .ref DU)] u) ∧
        IntsAre tv ((chOf i).map fun c => (((plains (arrs ns) i).map fun y => cost c y).sum : Nat) |> Int.ofNat) ∧
        News g L' h1 ((DT, LCg.lst tv) :: (DK, LCg.lst (rws.map fun p => Value.ref p.1)) :: (It, o) :: (AC, LCg.lst us) :: (DP, LCg.lst ps) :: (DC, LCg.lst cs) :: (DG, LCg.lst gs) :: (l, listOf (tps.map fun q => Value.ref q.1).toArray nl) :: (DU, listOf (dtp.map fun q => Value.ref q.1).toArray nd) :: (AL, listOf #[.ref A1, .ref A2] 0) :: (A1, LCg.lst us1) :: (A2, LCg.lst us2) :: (I, instObj 223 dI) :: (dI, PySem.W.dictOf [⟨hsh, .str (Str.ofString "_headers") th, .ref l⟩] n₁) :: (DA, listOf ws.toArray nA) :: (L' + 1 + 1 + 1 + 1 + 1, oL) :: (L' + 1 + 1 + 1 + 1, oG2) :: (L' + 1 + 1 + 1, oC2) :: (L' + 1 + 1, oP2) :: (L' + 1, oN2) :: ((tps ++ dtp) ++ rws))) 1 ?_ ?_
      ·
        --{{Q
        intro P' hP'; dsimp only [List.take]
        (try k_fold)
        k_steps
        have X2 := X'.keeps G10.keep
        have T2 := T'.keeps G10.keep
        have hcC := (M10 (L' + 1 + 1 + 1, oC2) (by wtm_at "mem")).1
        have hlC := M10.isList (a := DC) (by wtm_at "mem")
        dsimp only at hcC
        have hch128 : ∀ c ∈ chOf i, (∀ x ∈ c, x < 128) ∧ c.length ≤ 20 := fun c hc => ⟨fam_small (nm_ok i) (ch_fam i c hc), by rw [fam_len (ch_fam i c hc)]; omega⟩
        have hpl128 : ∀ c ∈ plains (arrs ns) i, (∀ x ∈ c, x < 128) ∧ c.length ≤ 20 := fun c hc => ⟨fam_small (nm_ok i) (hPF c hc), by rw [fam_len (hPF c hc)]; omega⟩
        refine' CompX.list (M10.isList (a := AC) (by wtm_at "mem")) ?hz (fun C q ys _ nw => nw = [] ∧ IntsAre ys (((chOf i).take q).map fun c => (((plains (arrs ns) i).map fun y => cost c y).sum : Nat) |> Int.ofNat)) ?h0 ?st (doneS2 G10 M10 rfl rfl ?finQ)
        (case hz => exact hz_le (by first | omega | (simp; omega)))
        (case h0 => intro C cells hC hcl; cases hcl; exact ⟨rfl, .nil⟩)
        (case st =>
          intro C j v ys m nw rest h tk hj hJ hv F N hoff
          dsimp only at F N hj
          obtain ⟨rfl, hY⟩ := hJ
          obtain ⟨hj2, tv, rfl⟩ := strs_get hUS (by simpa using hv)
          refine cmp_store F (fun h9 F9 hk9 => ?_) rfl rfl
          have N9 := news_but N hk9
          refine wpAny_tests_nil ?_
          simp only [if_true]
          k_steps
          refine' (sum_pure (chOf i)[j] tv DC cs (plains (arrs ns) i) (hch128 _ (List.getElem_mem hj2)).1 (hch128 _ (List.getElem_mem hj2)).2 hpl128 (by omega) hCS).use ?F X2 ?N T2 ?hp ?rm ?un ?_
          (case F => assumption)
          (case N => assumption)
          (case hp => exact Heap.IsList.at hlC (fun o e => F9.keep _ o e))
          (case rm => (first | exact room3 (by assumption) (by decide) | exact room2 (by assumption) (by decide) | omega | (dsimp only [Ar, Around.deeper]; omega) | (simp only [depth_deeper, units_deeper]; dsimp only [Ar]; omega)))
          (case un => (first | exact room3 (by assumption) (by decide) | exact room2 (by assumption) (by decide) | omega | (dsimp only [Ar, Around.deeper]; omega) | (simp only [depth_deeper, units_deeper]; dsimp only [Ar]; omega)))
          rintro _ h8 tk8 F8 N8 hk8 ⟨t8, rfl⟩
          dsimp only
          refine ⟨_, _, _, [], rfl, F8, N8, fun _ h => (nomatch h), rfl, ?_⟩
          rw [map_step _ _ hj2]
          exact IntsAre.snoc hY _ _)
        intro D C ys m nw h tk hJ F9 N9 hk9 hD0 hnw hlt
        obtain ⟨rfl, hY⟩ := hJ
        rw [List.take_of_length_le (by simp; omega)] at hY
        rw [List.nil_append] at N9
        (try dsimp only)
        (try k_fold)
        k_steps
        refine hP' _ ?_
        refine' ⟨_, D, ys, _, _, rfl, ?F, hY, N9⟩
        (case F => wtm_at "frq")
        --}}Q
      rintro _ ⟨u11, DT, tv, h11, tk11, rfl, G11, hTV, M11⟩
      clear G10 M10
      dsimp only [List.drop]
      have hrwl := hRW.length
      rw [List.length_map] at hrwl
      refine cutO (fun s' => ∃ u h1 tk1, s' = { s with heap := h1, toks := tk1 } ∧ Fr g L' h1 (mq [(Str.ofString "choices", .ref AC), (Str.ofString "middle", .str (sl (midOf (arrs ns) i)) tm), (Str.ofString "counts", .ref DK), (Str.ofString "told", .ref DT), (Str.ofString "arrivals", .ref DA), (Str.ofString "stranger", .str (sl (strang (strN ns))) ts), (Str.ofString "table", .ref I), (Str.ofString "due", .ref DU)] u) ∧
        News g L' h1 ((DT, LCg.lst tv) :: (DK, LCg.lst (rws.map fun p => Value.ref p.1)) :: (It, o) :: (AC, LCg.lst us) :: (DP, LCg.lst ps) :: (DC, LCg.lst cs) :: (DG, LCg.lst gs) :: (l, listOf (tps.map fun q => Value.ref q.1).toArray nl) :: (DU, listOf (dtp.map fun q => Value.ref q.1).toArray nd) :: (AL, listOf #[.ref A1, .ref A2] 0) :: (A1, LCg.lst us1) :: (A2, LCg.lst us2) :: (I, instObj 223 dI) :: (dI, PySem.W.dictOf [⟨hsh, .str (Str.ofString "_headers") th, .ref l⟩] n₁) :: (DA, listOf ws.toArray nA) :: (L' + 1 + 1 + 1 + 1 + 1, oL) :: (L' + 1 + 1 + 1 + 1, oG2) :: (L' + 1 + 1 + 1, oC2) :: (L' + 1 + 1, oP2) :: (L' + 1, oN2) :: ((tps ++ dtp) ++ rws))) 1 ?_ ?_
      ·
        --{{R
        intro P' hP'; dsimp only [List.take]
        (try k_fold)
        k_steps
        have X2 := X'.keeps G11.keep
        have T2 := T'.keeps G11.keep
        refine' CompX.list (M11.isList (a := DK) (by wtm_at "mem")) ?hz (fun C q ys _ nw => nw = [] ∧ IntsAre ys (((chOf i).take q).map fun c => ((List.range (nmOf i).length).map fun k => ((cnt (nmOf i) (plains (arrs ns) i) c k : Nat) : Int)).sum)) ?h0 ?st (doneL2 G11 M11 ?finR)
        (case hz => exact hz_le (by first | omega | (simp; omega)))
        (case h0 => intro C cells hC hcl; cases hcl; exact ⟨rfl, .nil⟩)
        (case st =>
          intro C j v ys m nw rest h tk hj hJ hv F N hoff
          dsimp only at F N hj
          obtain ⟨rfl, hY⟩ := hJ
          simp only [List.getElem?_toArray, List.getElem?_map] at hv
          obtain ⟨⟨ra, orow⟩, ec, rfl⟩ := Option.map_eq_some_iff.mp hv
          obtain ⟨hj2, rv, eo, hV⟩ := hRW.get ec
          dsimp only at eo
          subst eo
          simp only [List.getElem_map] at hV
          rw [List.length_map] at hj2
          have hral : h11.IsList ra rv.toArray := M11.isList ((by wtm_at "sub" : ∀ q ∈ rws, q ∈ _) _ (List.mem_of_getElem? ec))
          refine cmp_store F (fun h9 F9 hk9 => ?_) rfl rfl
          have N9 := news_but N hk9
          have hral9 := Heap.IsList.at hral (fun o e => F9.keep _ o e)
          refine wpAny_tests_nil ?_
          simp only [if_true]
          k_steps
          refine ⟨_, _, _, [], rfl, ‹Fr h11 C _ fun z => _›, ‹News h11 C _ ([] ++ rest)›, fun _ h => (nomatch h), rfl, ?_⟩
          rw [map_step _ _ hj2]
          exact IntsAre.snoc hY _ _)
        intro D C ys m nw h tk hJ F9 N9 hk9 hD0 hnw hlt
        obtain ⟨rfl, hY⟩ := hJ
        rw [List.take_of_length_le (by simp; omega)] at hY
        rw [List.nil_append] at N9
        (try dsimp only)
        (try k_fold)
        k_steps
        unfold Stop
        refine ke_ne_ints (N9.isList (a := DT) (by wtm_at "mem")) (N9.isList (.head _)) hTV hY (by (first | exact room3 (by assumption) (by decide) | exact room2 (by assumption) (by decide) | omega | (dsimp only [Ar, Around.deeper]; omega) | (simp only [depth_deeper, units_deeper]; dsimp only [Ar]; omega))) ?_
        rw [decide_eq_true (told_eq (arrs ns) i)]
        simp only [Bool.not_true]
        k_steps
        refine hP' _ ?_
        exact ⟨_, _, _, rfl, F9, news_sub N9 (by wtm_at "sub")⟩
        --}}R
      rintro _ ⟨u12, h12, tk12, rfl, G12, M12⟩
      clear G11 M11
      dsimp only [List.drop]
      refine cutO (fun s' => ∃ u oL tl h1 tk1, s' = { s with heap := h1, toks := tk1 } ∧ Fr g L' h1 (mq [(Str.ofString "choices", .ref AC), (Str.ofString "middle", .str (sl (midOf (arrs ns) i)) tm), (Str.ofString "counts", .ref DK), (Str.ofString "told", .ref DT), (Str.ofString "arrivals", .ref DA), (Str.ofString "stranger", .str (sl (strang (strN ns))) ts), (Str.ofString "table", .ref I), (Str.ofString "due", .ref DU)] u) ∧
        oL.data = .cell (some (.int ((lstOf (arrs ns) i : Nat) : Int) tl)) ∧
        News g L' h1 ((DT, LCg.lst tv) :: (DK, LCg.lst (rws.map fun p => Value.ref p.1)) :: (It, o) :: (AC, LCg.lst us) :: (DP, LCg.lst ps) :: (DC, LCg.lst cs) :: (DG, LCg.lst gs) :: (l, listOf (tps.map fun q => Value.ref q.1).toArray nl) :: (DU, listOf (dtp.map fun q => Value.ref q.1).toArray nd) :: (AL, listOf #[.ref A1, .ref A2] 0) :: (A1, LCg.lst us1) :: (A2, LCg.lst us2) :: (I, instObj 223 dI) :: (dI, PySem.W.dictOf [⟨hsh, .str (Str.ofString "_headers") th, .ref l⟩] n₁) :: (DA, listOf ws.toArray nA) :: (L' + 1 + 1 + 1 + 1 + 1, oL) :: (L' + 1 + 1 + 1 + 1, oG2) :: (L' + 1 + 1 + 1, oC2) :: (L' + 1 + 1, oP2) :: (L' + 1, oN2) :: ((tps ++ dtp) ++ rws))) 1 ?_ ?_
      ·
        --{{S
        intro P' hP'; dsimp only [List.take]
        have e1 := list_cell M12 (a := DT) (b := L' + 1 + 1 + 1 + 1 + 1) (by wtm_at "mem") (by wtm_at "mem") dL
        have e2 := list_cell M12 (a := DK) (b := L' + 1 + 1 + 1 + 1 + 1) (by wtm_at "mem") (by wtm_at "mem") dL
        have e3 := rows_cell M12 hRW (by wtm_at "sub") (a := L' + 1 + 1 + 1 + 1 + 1) (by wtm_at "mem") dL
        have e4 : ∀ q ∈ (tps ++ dtp) ++ rws, q.1 ≠ L' + 1 + 1 + 1 + 1 + 1 := fun q hq => by
          rcases List.mem_append.mp hq with hq | hq
          · exact nL q hq
          · exact e3 q hq
        (try k_fold)
        k_steps
        have hM := ‹_ ∈ List.map (fun c => Int.ofNat (List.map (fun y => cost c y) (plains (arrs ns) i)).sum) (chOf i)›
        have hM2 := ‹∀ (a : Int), a ∈ List.map (fun c => Int.ofNat (List.map (fun y => cost c y) (plains (arrs ns) i)).sum) (chOf i) → _ ≤ a›
        have hM3 := least_eq (arrs ns) i hM hM2
        subst hM3
        have d' := ‹Obj.data _ = Data.cell (some (Value.int ((lstOf (arrs ns) i : Nat) : Int) _))›
        refine hP' _ ?_
        exact ⟨_, _, _, _, _, rfl, ‹Fr g L' _ _›, d', ‹News g L' _ _›⟩
        --}}S
      rintro _ ⟨u13, oL3, tl, h13, tk13, rfl, G13, dL3, M13⟩
      clear G12 M12 dL
      dsimp only [List.drop]
      refine cutO (fun s' => ∃ u DN nv h1 tk1, s' = { s with heap := h1, toks := tk1 } ∧ Fr g L' h1 (mq [(Str.ofString "choices", .ref AC), (Str.ofString "middle", .str (sl (midOf (arrs ns) i)) tm), (Str.ofString "counts", .ref DK), (Str.ofString "nearest", .ref DN), (Str.ofString "arrivals", .ref DA), (Str.ofString "stranger", .str (sl (strang (strN ns))) ts), (Str.ofString "table", .ref I), (Str.ofString "due", .ref DU)] u) ∧
        StrsAre nv (((chOf i).filter (nearP (arrs ns) i)).map sl) ∧
        News g L' h1 ((DN, LCg.lst nv) :: (DK, LCg.lst (rws.map fun p => Value.ref p.1)) :: ((It, o) :: (AC, LCg.lst us) :: (DP, LCg.lst ps) :: (DC, LCg.lst cs) :: (DG, LCg.lst gs) :: (l, listOf (tps.map fun q => Value.ref q.1).toArray nl) :: (DU, listOf (dtp.map fun q => Value.ref q.1).toArray nd) :: (AL, listOf #[.ref A1, .ref A2] 0) :: (A1, LCg.lst us1) :: (A2, LCg.lst us2) :: (I, instObj 223 dI) :: (dI, PySem.W.dictOf [⟨hsh, .str (Str.ofString "_headers") th, .ref l⟩] n₁) :: (DA, listOf ws.toArray nA) :: (L' + 1 + 1 + 1 + 1 + 1, oL3) :: (L' + 1 + 1 + 1 + 1, oG2) :: (L' + 1 + 1 + 1, oC2) :: (L' + 1 + 1, oP2) :: (L' + 1, oN2) :: ((tps ++ dtp) ++ rws)))) 1 ?_ ?_
      ·
        --{{T
        intro P' hP'; dsimp only [List.take]
        (try k_fold)
        k_steps
        unfold Stop
        have X2 := X'.keeps G13.keep
        have T2 := T'.keeps G13.keep
        have hcL := (M13 (L' + 1 + 1 + 1 + 1 + 1, oL3) (by wtm_at "mem")).1
        have htl := hTV.length
        rw [List.length_map] at htl
        dsimp only at hcL
        refine' zipL_comp (M13.isList (a := AC) (by wtm_at "mem")) (M13.isList (a := DT) (by wtm_at "mem")) ?hz ?hle (fun C q ys _ nw => nw = [] ∧ StrsAre ys ((((chOf i).take q).filter (nearP (arrs ns) i)).map sl)) ?h0 ?st (doneS2 G13 M13 rfl rfl ?finT)
        (case hz => exact hz_le (by first | omega | (simp; omega)))
        (case hle => simp; omega)
        (case h0 => intro C cells hC hcl; cases hcl; exact ⟨rfl, .nil⟩)
        (case st =>
          rintro C j v ys m nw rest h tk hj ⟨rfl, hY⟩ ⟨T, x, y, rfl, hx, hy, hT⟩ F N hoff
          dsimp only at F N hj
          obtain ⟨hj2, tx, rfl⟩ := strs_get hUS (by simpa using hx)
          obtain ⟨hj3, ty, rfl⟩ := ints_get hTV (by simpa using hy)
          rw [List.getElem_map] at hT
          refine cmp_store2 rfl F hT (fun h9 tk9 F9 hk9 => ?_) rfl rfl rfl
          have N9 := news_but N hk9
          refine wpAny_tests_one ?_
          k_steps
          · have e := ‹Int.ofNat _ = ((lstOf (arrs ns) i : Nat) : Int)›
            refine ⟨_, _, _, [], rfl, F9, N9, fun _ h => (nomatch h), rfl, ?_⟩
            rw [filt_yes _ _ hj2 (by unfold nearP; exact decide_eq_true (Int.ofNat.inj e)), List.map_append]
            exact StrsAre.snoc hY _ _
          · have e := ‹Int.ofNat _ ≠ ((lstOf (arrs ns) i : Nat) : Int)›
            refine ⟨_, _, _, [], rfl, F9, N9, fun _ h => (nomatch h), rfl, ?_⟩
            rw [filt_no _ _ hj2 (by unfold nearP; exact decide_eq_false (fun q => e (congrArg Int.ofNat q)))]
            exact hY)
        intro D C ys m nw h tk hJ F9 N9 hk9 hD0 hnw hlt
        obtain ⟨rfl, hY⟩ := hJ
        rw [List.take_of_length_le (by simp; omega)] at hY
        rw [List.nil_append] at N9
        (try dsimp only)
        (try k_fold)
        k_steps
        refine hP' _ ?_
        refine' ⟨_, D, ys, _, _, rfl, ?F, hY, news_sub N9 (by wtm_at "sub")⟩
        (case F => wtm_at "frq")
        --}}T
      rintro _ ⟨u14, DN, nv, h14, tk14, rfl, G14, hNV, M14⟩
      clear G13 M13
      dsimp only [List.drop]
      refine cutO (fun s' => ∃ u h1 tk1, s' = { s with heap := h1, toks := tk1 } ∧ Fr g L' h1 (mq [(Str.ofString "choices", .ref AC), (Str.ofString "middle", .str (sl (midOf (arrs ns) i)) tm), (Str.ofString "nearest", .ref DN), (Str.ofString "arrivals", .ref DA), (Str.ofString "stranger", .str (sl (strang (strN ns))) ts), (Str.ofString "table", .ref I), (Str.ofString "due", .ref DU)] u) ∧
        News g L' h1 ((DN, LCg.lst nv) :: ((It, o) :: (AC, LCg.lst us) :: (DP, LCg.lst ps) :: (DC, LCg.lst cs) :: (DG, LCg.lst gs) :: (l, listOf (tps.map fun q => Value.ref q.1).toArray nl) :: (DU, listOf (dtp.map fun q => Value.ref q.1).toArray nd) :: (AL, listOf #[.ref A1, .ref A2] 0) :: (A1, LCg.lst us1) :: (A2, LCg.lst us2) :: (I, instObj 223 dI) :: (dI, PySem.W.dictOf [⟨hsh, .str (Str.ofString "_headers") th, .ref l⟩] n₁) :: (DA, listOf ws.toArray nA) :: (L' + 1 + 1 + 1 + 1 + 1, oL3) :: (L' + 1 + 1 + 1 + 1, oG2) :: (L' + 1 + 1 + 1, oC2) :: (L' + 1 + 1, oP2) :: (L' + 1, oN2) :: ((tps ++ dtp) ++ rws)))) 1 ?_ ?_
      ·
        --{{U
        intro P' hP'; dsimp only [List.take]
        (try k_fold)
        k_steps
        unfold Stop
        have X2 := X'.keeps G14.keep
        have T2 := T'.keeps G14.keep
        have hcP := (M14 (L' + 1 + 1, oP2) (by wtm_at "mem")).1
        have hlP := M14.isList (a := DP) (by wtm_at "mem")
        have hpl := strs_len hPS
        dsimp only at hcP
        refine' zipL_comp (M14.isList (a := AC) (by wtm_at "mem")) (M14.isList (a := DK) (by wtm_at "mem")) ?hz ?hle (fun C q ys _ nw => nw = [] ∧ StrsAre ys ((((chOf i).take q).filter (nearP (arrs ns) i)).map sl)) ?h0 ?st (doneL2 G14 M14 ?finU)
        (case hz => exact hz_le (by first | omega | (simp; omega)))
        (case hle => simp; omega)
        (case h0 => intro C cells hC hcl; cases hcl; exact ⟨rfl, .nil⟩)
        (case st =>
          rintro C j v ys m nw rest h tk hj ⟨rfl, hY⟩ ⟨T, x, y, rfl, hx, hy, hT⟩ F N hoff
          dsimp only at F N hj
          obtain ⟨hj2, tx, rfl⟩ := strs_get hUS (by simpa using hx)
          simp only [List.getElem?_toArray, List.getElem?_map] at hy
          obtain ⟨⟨ra, orow⟩, ec, rfl⟩ := Option.map_eq_some_iff.mp hy
          obtain ⟨hj3, rv, eo, hV⟩ := hRW.get ec
          dsimp only at eo
          subst eo
          simp only [List.getElem_map] at hV
          have hral : h14.IsList ra rv.toArray := M14.isList ((by wtm_at "sub" : ∀ q ∈ rws, q ∈ _) _ (List.mem_of_getElem? ec))
          refine cmp_store2 rfl F hT (fun h9 tk9 F9 hk9 => ?_) rfl rfl rfl
          have N9 := news_but N hk9
          have hral9 := Heap.IsList.at hral (fun o e => F9.keep _ o e)
          have hlP9 := Heap.IsList.at hlP (fun o e => F9.keep _ o e)
          refine wpAny_tests_one ?_
          k_steps
          refine' max_list_N rfl F9 N9 hral9 hV ?hne ?_
          (case hne => rw [List.length_map, List.length_range]; omega)
          intro h8 M tM tk8 F8 N8 hM hM2
          have hlP8 := Heap.IsList.at hlP (fun o e => F8.keep _ o e)
          have hnm := near_max (arrs ns) i (List.getElem_mem hj2) hM hM2
          k_steps
          · have e := ‹2 * M ≤ _›
            refine ⟨_, _, _, [], rfl, F8, N8, fun _ h => (nomatch h), rfl, ?_⟩
            rw [filt_yes _ _ hj2 (hnm.mpr (by omega)), List.map_append]
            exact StrsAre.snoc hY _ _
          · have e := ‹¬ 2 * M ≤ _›
            refine ⟨_, _, _, [], rfl, F8, N8, fun _ h => (nomatch h), rfl, ?_⟩
            rw [filt_no _ _ hj2 (by cases q : nearP (arrs ns) i (chOf i)[j] with | false => rfl | true => exact absurd (hnm.mp q) (by omega))]
            exact hY)
        intro D C ys m nw h tk hJ F9 N9 hk9 hD0 hnw hlt
        obtain ⟨rfl, hY⟩ := hJ
        rw [List.take_of_length_le (by simp; omega)] at hY
        rw [List.nil_append] at N9
        (try dsimp only)
        (try k_fold)
        k_steps
        unfold Stop
        refine ne_texts (N9.isList (a := DN) (by wtm_at "mem")) (N9.isList (.head _)) hNV hY (fun y hy => fam_small (nm_ok i) (ch_fam i y (List.mem_filter.mp hy).1)) (fun y hy => fam_small (nm_ok i) (ch_fam i y (List.mem_filter.mp hy).1)) (by (first | exact room3 (by assumption) (by decide) | exact room2 (by assumption) (by decide) | omega | (dsimp only [Ar, Around.deeper]; omega) | (simp only [depth_deeper, units_deeper]; dsimp only [Ar]; omega))) ?_
        simp only [decide_true, Bool.not_true]
        k_steps
        refine hP' _ ?_
        refine' ⟨_, _, _, rfl, ?F, news_sub N9 (by wtm_at "sub")⟩
        (case F => wtm_at "frq")
        --}}U
      rintro _ ⟨u15, h15, tk15, rfl, G15, M15'⟩
      have M15 := news_sub (n₂ := (DN, LCg.lst nv) :: (It, o) :: (AC, LCg.lst us) :: (DP, LCg.lst ps) :: (DC, LCg.lst cs) :: (DG, LCg.lst gs) :: (l, listOf (tps.map fun q => Value.ref q.1).toArray nl) :: (DU, listOf (dtp.map fun q => Value.ref q.1).toArray nd) :: (AL, listOf #[.ref A1, .ref A2] 0) :: (A1, LCg.lst us1) :: (A2, LCg.lst us2) :: (I, instObj 223 dI) :: (dI, PySem.W.dictOf [⟨hsh, .str (Str.ofString "_headers") th, .ref l⟩] n₁) :: (DA, listOf ws.toArray nA) :: (L' + 1 + 1 + 1 + 1 + 1, oL3) :: (L' + 1 + 1 + 1 + 1, oG2) :: (L' + 1 + 1 + 1, oC2) :: (L' + 1 + 1, oP2) :: (L' + 1, oN2) :: (tps ++ dtp)) M15' (by wtm_at "sub")
      clear G14 M14 M15' hRW
      dsimp only [List.drop]
      refine cutO (fun s' => ∃ u h1 tk1, s' = { s with heap := h1, toks := tk1 } ∧ Fr g L' h1 (mq [(Str.ofString "middle", .str (sl (midOf (arrs ns) i)) tm), (Str.ofString "arrivals", .ref DA), (Str.ofString "stranger", .str (sl (strang (strN ns))) ts), (Str.ofString "table", .ref I), (Str.ofString "due", .ref DU)] u) ∧
        News g L' h1 ((It, o) :: (DC, LCg.lst cs) :: (l, listOf (tps.map fun q => Value.ref q.1).toArray nl) :: (DU, listOf (dtp.map fun q => Value.ref q.1).toArray nd) :: (AL, listOf #[.ref A1, .ref A2] 0) :: (A1, LCg.lst us1) :: (A2, LCg.lst us2) :: (I, instObj 223 dI) :: (dI, PySem.W.dictOf [⟨hsh, .str (Str.ofString "_headers") th, .ref l⟩] n₁) :: (DA, listOf ws.toArray nA) :: (L' + 1 + 1 + 1 + 1 + 1, oL3) :: (L' + 1 + 1 + 1 + 1, oG2) :: (L' + 1 + 1 + 1, oC2) :: (L' + 1 + 1, oP2) :: (L' + 1, oN2) :: (tps ++ dtp))) 2 ?_ ?_
      ·
        --{{V
        intro P' hP'; dsimp only [List.take]
        have hch128 : ∀ c ∈ chOf i, (∀ x ∈ c, x < 128) ∧ c.length ≤ 20 := fun c hc => ⟨fam_small (nm_ok i) (ch_fam i c hc), by rw [fam_len (ch_fam i c hc)]; omega⟩
        have hpl128 : ∀ c ∈ plains (arrs ns) i, (∀ x ∈ c, x < 128) ∧ c.length ≤ 20 := fun c hc => ⟨fam_small (nm_ok i) (hPF c hc), by rw [fam_len (hPF c hc)]; omega⟩
        have hst := strang_ok (strN ns)
        (try k_fold)
        k_steps
        · refine' (sum_pure (strang (strN ns)) ts DC cs (plains (arrs ns) i) hst.1 (by omega) hpl128 (by omega) hCS).use G15 X' M15 T' (M15.isList (a := DC) (by wtm_at "mem")) ?rm ?un ?_
          (case rm => (first | exact room3 (by assumption) (by decide) | exact room2 (by assumption) (by decide) | omega | (dsimp only [Ar, Around.deeper]; omega) | (simp only [depth_deeper, units_deeper]; dsimp only [Ar]; omega)))
          (case un => (first | exact room3 (by assumption) (by decide) | exact room2 (by assumption) (by decide) | omega | (dsimp only [Ar, Around.deeper]; omega) | (simp only [depth_deeper, units_deeper]; dsimp only [Ar]; omega)))
          rintro _ h8 tk8 F8 N8 hk8 ⟨t8, rfl⟩
          dsimp only
          have hls : lstOf (arrs ns) i ≤ ((plains (arrs ns) i).map fun y => cost (strang (strN ns)) y).sum := least_stranger (nm_ok i) hPF _
          (try k_fold)
          k_steps
          refine' PyProof.Rows.slice_list (lo := none) (hi := some 3) F8 N8 (N8.isList (a := DC) (by wtm_at "mem")) .none (.int 3 _) ?_ (hsz := ?hz3)
          (case hz3 => rw [sizeLine_eq]; simp; have := strs_len hCS; omega)
          intro h7 F7 N7
          rw [show slicePick cs.toArray none (some 3) none = (cs.take 3).toArray from slicePick_upto' cs.toArray 3] at N7
          have ht3 : ((plains (arrs ns) i).take 3).length ≤ 3 := by rw [List.length_take]; omega
          have h03 : 0 < ((plains (arrs ns) i).take 3).length := by rw [List.length_take]; omega
          (try k_fold)
          k_steps
          refine' (between_pure (nmOf i) (nm_ok i) _ (cs.take 3) ((plains (arrs ns) i).take 3) (by rw [List.map_take]; exact strs_take hCS 3) (fun y hy => hPF y (List.mem_of_mem_take hy)) h03 ht3 (by omega)).use F7 X' N7 T' (N7.isList (.head _)) ?rm2 ?un2 ?_
          (case rm2 => (first | exact room3 (by assumption) (by decide) | exact room2 (by assumption) (by decide) | omega | (dsimp only [Ar, Around.deeper]; omega) | (simp only [depth_deeper, units_deeper]; dsimp only [Ar]; omega)))
          (case un2 => (first | exact room3 (by assumption) (by decide) | exact room2 (by assumption) (by decide) | omega | (dsimp only [Ar, Around.deeper]; omega) | (simp only [depth_deeper, units_deeper]; dsimp only [Ar]; omega)))
          rintro _ h6 tk6 F6 N6 hk6 rfl
          dsimp only
          (try k_fold)
          k_steps
          refine hP' _ ?_
          refine' ⟨_, _, _, rfl, ?F, news_sub N6 (by wtm_at "sub")⟩
          (case F => wtm_at "frq")
        · exfalso
          have e := ‹((List.map sl (List.filter (nearP (arrs ns) i) (chOf i))).any fun x => x == sl (midOf (arrs ns) i)) = false›
          rw [List.any_eq_false] at e
          exact e _ (List.mem_map_of_mem (near_mid (arrs ns) i)) (by simp)
        --}}V
      rintro _ ⟨u16, h16, tk16, rfl, G16, M16⟩
      clear G15 M15
      dsimp only [List.drop]
      have hl100 := lst_lt (arrs ns) hal i
      have htx := txt_ok _ hl100
      have hmok := mid_ok (arrs ns) i
      refine cutO (fun s' => ∃ u tm tps' nl h1 tk1, s' = { s with heap := h1, toks := tk1 } ∧ Fr g L' h1 (mq [(Str.ofString "middle", .str (sl (midOf (arrs ns) i)) tm), (Str.ofString "arrivals", .ref DA), (Str.ofString "stranger", .str (sl (strang (strN ns))) ts), (Str.ofString "table", .ref I), (Str.ofString "due", .ref DU)] u) ∧ TupsAre tps' (tabAt (arrs ns) (i + 1)) ∧
        News g L' h1 ((It, o) :: (l, listOf (tps'.map fun q => Value.ref q.1).toArray nl) :: (DU, listOf (dtp.map fun q => Value.ref q.1).toArray nd) :: (AL, listOf #[.ref A1, .ref A2] 0) :: (A1, LCg.lst us1) :: (A2, LCg.lst us2) :: (I, instObj 223 dI) :: (dI, PySem.W.dictOf [⟨hsh, .str (Str.ofString "_headers") th, .ref l⟩] n₁) :: (DA, listOf ws.toArray nA) :: (L' + 1 + 1 + 1 + 1 + 1, oL3) :: (L' + 1 + 1 + 1 + 1, oG2) :: (L' + 1 + 1 + 1, oC2) :: (L' + 1 + 1, oP2) :: (L' + 1, oN2) :: (tps' ++ dtp)) ∧ (∀ q ∈ tps', q.1 ≠ It)) 1 ?_ ?_
      ·
        --{{W
        intro P' hP'; dsimp only [List.take]
        (try k_fold)
        k_steps
        rw [txt_str _ hl100]
        have hPrs := hT.prs (h := h16) (fun q hq => (M16 q ((by wtm_at "sub" : ∀ q ∈ tps, q ∈ _) q hq)).1)
        refine' (settle_mut I dI l (tps.map fun q => Value.ref q.1) (tabAt (arrs ns) i) nl (midOf (arrs ns) i) (txtOf (lstOf (arrs ns) i)) tm _ (by omega) hmok.1 (by omega) htx.1 (by omega) hTab.1).use2
          ((It, o) :: (DU, listOf (dtp.map fun q => Value.ref q.1).toArray nd) :: (AL, listOf #[.ref A1, .ref A2] 0) :: (A1, LCg.lst us1) :: (A2, LCg.lst us2) :: (I, instObj 223 dI) :: (dI, PySem.W.dictOf [⟨hsh, .str (Str.ofString "_headers") th, .ref l⟩] n₁) :: (DA, listOf ws.toArray nA) :: (L' + 1 + 1 + 1 + 1 + 1, oL3) :: (L' + 1 + 1 + 1 + 1, oG2) :: (L' + 1 + 1 + 1, oC2) :: (L' + 1 + 1, oP2) :: (L' + 1, oN2) :: (tps ++ dtp)) G16 X' M16 T' ?hS ?hr ⟨hsh, th, n₁, (M16 (I, _) (by wtm_at "mem")).1, (M16 (dI, _) (by wtm_at "mem")).1, M16.isList (a := l) (by wtm_at "mem"), hPrs⟩ ?rm ?un ?_
        (case hS => wtm_at "sub")
        (case hr =>
          have hne : ∀ q ∈ ((It, o) :: (DU, listOf (dtp.map fun q => Value.ref q.1).toArray nd) :: (AL, listOf #[.ref A1, .ref A2] 0) :: (A1, LCg.lst us1) :: (A2, LCg.lst us2) :: (I, instObj 223 dI) :: (dI, PySem.W.dictOf [⟨hsh, .str (Str.ofString "_headers") th, .ref l⟩] n₁) :: (DA, listOf ws.toArray nA) :: (L' + 1 + 1 + 1 + 1 + 1, oL3) :: (L' + 1 + 1 + 1 + 1, oG2) :: (L' + 1 + 1 + 1, oC2) :: (L' + 1 + 1, oP2) :: (L' + 1, oN2) :: (tps ++ dtp)), q.1 ≠ l := by
            refine List.forall_mem_cons.mpr ⟨?n0, ?_⟩
            case n0 => (dsimp only; k_ne)
            refine List.forall_mem_cons.mpr ⟨?n1, ?_⟩
            case n1 => (dsimp only; k_ne)
            refine List.forall_mem_cons.mpr ⟨?n2, ?_⟩
            case n2 => (dsimp only; k_ne)
            refine List.forall_mem_cons.mpr ⟨?n3, ?_⟩
            case n3 => (dsimp only; k_ne)
            refine List.forall_mem_cons.mpr ⟨?n4, ?_⟩
            case n4 => (dsimp only; k_ne)
            refine List.forall_mem_cons.mpr ⟨?n5, ?_⟩
            case n5 => (dsimp only; k_ne)
            refine List.forall_mem_cons.mpr ⟨?n6, ?_⟩
            case n6 => (dsimp only; k_ne)
            refine List.forall_mem_cons.mpr ⟨?n7, ?_⟩
            case n7 => (dsimp only; k_ne)
            refine List.forall_mem_cons.mpr ⟨?n8, ?_⟩
            case n8 => (dsimp only; k_ne)
            refine List.forall_mem_cons.mpr ⟨?n9, ?_⟩
            case n9 => (dsimp only; k_ne)
            refine List.forall_mem_cons.mpr ⟨?n10, ?_⟩
            case n10 => (dsimp only; k_ne)
            refine List.forall_mem_cons.mpr ⟨?n11, ?_⟩
            case n11 => (dsimp only; k_ne)
            refine List.forall_mem_cons.mpr ⟨?n12, ?_⟩
            case n12 => (dsimp only; k_ne)
            exact nl'
          exact fun q hq => ⟨(by wtm_at "sub" : ∀ q ∈ _, q ∈ _) q hq, by rw [List.map_cons, List.map_nil, List.mem_singleton]; exact hne q hq⟩)
        (case rm => (first | exact room3 (by assumption) (by decide) | exact room2 (by assumption) (by decide) | omega | (dsimp only [Ar, Around.deeper]; omega) | (simp only [depth_deeper, units_deeper]; dsimp only [Ar]; omega)))
        (case un => (first | exact room3 (by assumption) (by decide) | exact room2 (by assumption) (by decide) | omega | (dsimp only [Ar, Around.deeper]; omega) | (simp only [depth_deeper, units_deeper]; dsimp only [Ar]; omega)))
        rintro _ h8 tk8 S8 F8 N8 hk8 hnew ⟨T, tkk, tvv, n', n₂', rfl, rfl⟩
        dsimp only
        have hTl : T ≠ l := fun e => by
          have e1 := (N8 _ (.tail _ (.head _))).1
          have e2 := (N8 _ (.head _)).1
          dsimp only at e1 e2
          rw [e, e2] at e1
          injection e1 with e1
          injection e1 with e1
          exact absurd e1 (by decide)
        have hTI : It ≠ T := by
          rcases hnew _ (.tail _ (.head _)) with q | q
          · exact absurd (by simpa using q) hTl
          · exact q (It, o) (.head _)
        (try k_fold)
        k_steps
        refine hP' _ ?_
        refine' ⟨_, tm, vsF (fun p => p.1.map lowc != (midOf (arrs ns) i).map lowc) tps (tabAt (arrs ns) i) ++ [(T, { cls := .type "tuple", data := .seq #[.str (sl (midOf (arrs ns) i)) tkk, .str (sl (txtOf (lstOf (arrs ns) i))) tvv] n₂' })], n', _, _, rfl, F8, ?C, news_sub N8 ?sb, ?fr⟩
        (case C => exact hT.filter.append (.cons (p := (midOf (arrs ns) i, txtOf (lstOf (arrs ns) i))) .nil))
        (case sb =>
          rw [List.map_append, ← vsF_map]
          wtm_at "sub")
        (case fr =>
          intro q hq
          rcases List.mem_append.mp hq with hq | hq
          · exact hfr q ((by wtm_at "sub" : ∀ q ∈ tps, q ∈ _) q (vsF_mem hq))
          · rw [List.mem_singleton.mp hq]; exact fun e => hTI e.symm)
        --}}W
      rintro _ ⟨u17, tm2, tps2, nl2, h17, tk17, rfl, G17, hT2, M17, hI2⟩
      clear G16 M16
      dsimp only [List.drop]
      have hTL2 := hT2.append hD
      have nU2 := tups_list M17 hTL2 (by wtm_at "sub") (a := DU) (by wtm_at "mem")
      have hdl := hD.length
      rw [dueAt, List.length_map, List.length_range] at hdl
      (try k_fold)
      k_steps
      rename_i T2 h20 G20 M20 l20
      unfold Stop
      rw [txt_str _ hl100] at M20
      have lU2 := neN (Nat.ne_of_lt (l20.2.2.1 : @LT.lt Nat _ DU T2)).symm
      refine' append_K G20 M20 ?U ?_ ?z
      (case U => k_upd)
      (case z => simp only [List.size_toArray, List.length_map, sizeLine_eq]; omega)
      intro h21 G21 M21
      rw [List.push_toArray] at M21
      (try k_fold)
      k_steps
      refine' ⟨_, _, _, _, rfl, ?F, news_sub M21 ?sb, ?fr, AL, A1, A2, us1, us2, _, nl2, nd + 1, tps2, dtp ++ [(T2, { cls := .type "tuple", data := .seq #[.str (sl (midOf (arrs ns) i)) tm2, .str (sl (txtOf (lstOf (arrs ns) i))) tk17] 0 })], oL3, oG2, oC2, oP2, oN2, _, _, _, _, _, rfl, hU1, hU2, hU0, h01, h1L, rfl, rfl, hT2, ?D, dL3, dG2, dC2, dP2, dN2⟩
      (case F => wtm_at "frq")
      (case sb => (rw [List.map_append]); wtm_at "sub")
      (case D =>
        rw [show dueAt (arrs ns) (i + 1) = dueAt (arrs ns) i ++ [(midOf (arrs ns) i, txtOf (lstOf (arrs ns) i))] from by unfold dueAt; rw [List.range_succ, List.map_append]; rfl]
        exact hD.append (.cons (p := (midOf (arrs ns) i, txtOf (lstOf (arrs ns) i))) .nil))
      (case fr =>
        refine List.forall_mem_cons.mpr ⟨show l ≠ It from hfr (l, _) (by wtm_at "mem"), ?_⟩
        refine List.forall_mem_cons.mpr ⟨show DU ≠ It from hfr (DU, _) (by wtm_at "mem"), ?_⟩
        refine List.forall_mem_cons.mpr ⟨show AL ≠ It from hfr (AL, _) (by wtm_at "mem"), ?_⟩
        refine List.forall_mem_cons.mpr ⟨show A1 ≠ It from hfr (A1, _) (by wtm_at "mem"), ?_⟩
        refine List.forall_mem_cons.mpr ⟨show A2 ≠ It from hfr (A2, _) (by wtm_at "mem"), ?_⟩
        refine List.forall_mem_cons.mpr ⟨show I ≠ It from hfr (I, _) (by wtm_at "mem"), ?_⟩
        refine List.forall_mem_cons.mpr ⟨show dI ≠ It from hfr (dI, _) (by wtm_at "mem"), ?_⟩
        refine List.forall_mem_cons.mpr ⟨show DA ≠ It from hfr (DA, _) (by wtm_at "mem"), ?_⟩
        refine List.forall_mem_cons.mpr ⟨show L' + 1 + 1 + 1 + 1 + 1 ≠ It from hfr (L' + 1 + 1 + 1 + 1 + 1, _) (by wtm_at "mem"), ?_⟩
        refine List.forall_mem_cons.mpr ⟨show L' + 1 + 1 + 1 + 1 ≠ It from hfr (L' + 1 + 1 + 1 + 1, _) (by wtm_at "mem"), ?_⟩
        refine List.forall_mem_cons.mpr ⟨show L' + 1 + 1 + 1 ≠ It from hfr (L' + 1 + 1 + 1, _) (by wtm_at "mem"), ?_⟩
        refine List.forall_mem_cons.mpr ⟨show L' + 1 + 1 ≠ It from hfr (L' + 1 + 1, _) (by wtm_at "mem"), ?_⟩
        refine List.forall_mem_cons.mpr ⟨show L' + 1 ≠ It from hfr (L' + 1, _) (by wtm_at "mem"), ?_⟩
        intro q hq
        rcases List.mem_append.mp hq with hq | hq
        · exact hI2 q hq
        · rcases List.mem_append.mp hq with hq | hq
          · exact hfr q ((by wtm_at "sub" : ∀ q ∈ dtp, q ∈ _) q hq)
          · rw [List.mem_singleton.mp hq]; exact fun e => Nat.ne_of_lt (l20.1 : @LT.lt Nat _ It T2) e.symm)
  rintro _ ⟨u6, nl6, nd6, tps6, dtp6, h6, tk6, rfl, F6, N6, hT6, hD6⟩
  clear F5 N5
  dsimp only [List.drop]
  have hdk : ∀ p ∈ dueAt (arrs ns) 2, (∀ c ∈ p.1, c < 128) ∧ ∀ c ∈ p.2, c < 128 := fun p hp => by
    obtain ⟨k, _, rfl⟩ := List.mem_map.mp hp
    have h1 := (mid_ok (arrs ns) k).1
    have h2 := (txt_ok _ (lst_lt (arrs ns) (by simp [arrs, figsI]; omega) k)).1
    exact ⟨fun c hc => by have := h1 c hc; omega, fun c hc => by have := h2 c hc; omega⟩
  have hend := tab_end (arrs ns) (arrs_fam ns)
  have hD6l := hD6.length
  rw [hend] at hT6
  (try k_fold)
  k_steps
  have hPrs := hT6.prs (h := h6) (fun q hq => (N6 q ((by wtm_at "sub" : ∀ q ∈ tps6, q ∈ _) q hq)).1)
  refine' (items_mut I dI l (tps6.map fun q => Value.ref q.1) (dueAt (arrs ns) 2) (by simp [dueAt])).use
    ((l, listOf (tps6.map fun q => Value.ref q.1).toArray nl6) :: (DU, listOf (dtp6.map fun q => Value.ref q.1).toArray nd6) :: (tps6 ++ dtp6)) F6 X' N6 T' (fun _ h => nomatch h) ?hr
    ⟨hsh, th, n₁, (N6 (I, _) (by wtm_at "mem")).1, (N6 (dI, _) (by wtm_at "mem")).1, N6.isList (a := l) (by wtm_at "mem"), hPrs⟩ ?rm ?un ?_
  (case hr => exact fun q hq => ⟨(by wtm_at "sub" : ∀ q ∈ _, q ∈ _) q hq, List.not_mem_nil⟩)
  (case rm => (first | exact room3 (by assumption) (by decide) | exact room2 (by assumption) (by decide) | omega | (dsimp only [Ar, Around.deeper]; omega) | (simp only [depth_deeper, units_deeper]; dsimp only [Ar]; omega)))
  (case un => (first | exact room3 (by assumption) (by decide) | exact room2 (by assumption) (by decide) | omega | (dsimp only [Ar, Around.deeper]; omega) | (simp only [depth_deeper, units_deeper]; dsimp only [Ar]; omega)))
  rintro _ h8 tk8 S8 F8 N8 hk8 ⟨D, n8, rfl, rfl⟩
  dsimp only
  (try k_fold)
  k_steps
  unfold Stop
  refine eq_tups N8 (by wtm_at "mem") hT6 (by wtm_at "sub") (by wtm_at "mem") hD6 (by wtm_at "sub") hdk (by (first | exact room3 (by assumption) (by decide) | exact room2 (by assumption) (by decide) | omega | (dsimp only [Ar, Around.deeper]; omega) | (simp only [depth_deeper, units_deeper]; dsimp only [Ar]; omega))) ?_
  (try k_fold)
  k_steps
  exact hret _ _ _ (by (refine' stays_of ?h1 ?h2; (case h1 => assumption); (case h2 => assumption))) rfl

end
noncomputable section
theorem law_top (LP : ∀ (a : Addr) (vs : List Value) (ns : List Int), IntsAre vs ns → ns.length ≤ 63 → Pure Mine.hd2.heap_1 PySem.Challenge.rw_pe0272_02.row.prog 273 60 ⟨[.ref a], []⟩ (fun _ h => h.IsList a vs.toArray) (fun r _ => r = .bool true)) : PySem.Challenge.rw_pe0272_02.Holds := hd2 (by
  intro w s₀ s₁ mg mb G Y fa o pm cd doc dV kV ho hd hcd hD hmg hg args vals as hpre hlay hrd hwl hlo
  have KX := kIn_of Y
  refine Ground.open G ?_
  intro T B D TE TW
  have e1 : mg (Str.ofString "law") = some (.ref 273) := mg_of KX T.g (by kernel_rfl)
  have hfa : fa = 273 := Value.ref.inj (Option.some.inj (hmg.symm.trans e1))
  subst hfa
  clear hmg e1
  wrow_args hpre hlay hrd hwl hlo
  refine LP _ _ _ ‹IntsAre _ _› (by omega) w _ _ _ mg mb (1 + claimMargin) 4 (some []) (some []) s₁ _ _ KX T ‹Heap.IsList _ _ _› (by decide) (by decide) (fun r h' tk' hk hr => ?_)
  subst hr
  refine GoodW.toG ⟨.inl ⟨_, _, _, rfl, raisesW_false ?hn, .bool true, ?hp, unshared_nil⟩, hk, rfl, hg⟩
  (case hn => wrow_none_raised)
  (case hp => exact postW_of (by wrow_shape) (by wtm_val) rfl))

end

end Mine
theorem PySem.Challenge.cw_pe0272_02_holds : PySem.Challenge.rw_pe0272_02.Holds :=
  Mine.law_top fun a vs ns hI hl => Mine.law_pure a vs ns hI hl
