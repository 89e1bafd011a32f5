import PyProof.Rows.All
import Wide.All
import OpenK.AllK
import Wide.FinOn
import PyProof.AttrMissHeap
import Open.Tops
import Flt.Canon
import PySem.Challenge.RW_dm0051_06
set_option Elab.async false
set_option linter.unusedVariables false
section
set_option genSizeOfSpec false
set_option genInjectivity false
set_option genSizeOf false
namespace Mine.Ar
inductive AT where
  | v (i : Nat)
  | n (k : Nat)
  | a (x y : AT)
  | s (x y : AT)
  | m (k : Nat) (x : AT)
  | mn (x y : AT)
  | mx (x y : AT)
inductive AF where
  | l (x y : AT)
  | t (x y : AT)
  | e (x y : AT)
  | no (p : AF)
  | an (p q : AF)
  | o (p q : AF)
  | i (p q : AF)
  | f
noncomputable def nth : List Nat → Nat → Nat
  | [], _ => 0
  | x :: _, 0 => x
  | _ :: l, i + 1 => nth l i
noncomputable def AT.d (ρ : List Nat) : AT → Nat
  | .v i => nth ρ i
  | .n k => k
  | .a x y => x.d ρ + y.d ρ
  | .s x y => x.d ρ - y.d ρ
  | .m k x => k * x.d ρ
  | .mn x y => min (x.d ρ) (y.d ρ)
  | .mx x y => max (x.d ρ) (y.d ρ)
noncomputable def AF.d (ρ : List Nat) : AF → Prop
  | .l x y => x.d ρ ≤ y.d ρ
  | .t x y => x.d ρ < y.d ρ
  | .e x y => x.d ρ = y.d ρ
  | .no p => ¬p.d ρ
  | .an p r => p.d ρ ∧ r.d ρ
  | .o p r => p.d ρ ∨ r.d ρ
  | .i p r => p.d ρ → r.d ρ
  | .f => False
noncomputable def ev : List Nat → List Nat → Nat
  | [], _ => 0
  | _ :: _, [] => 0
  | c :: l, x :: w => c * x + ev l w
noncomputable def ladd : List Nat → List Nat → List Nat
  | [], r => r
  | c :: l, [] => c :: l
  | c :: l, d :: r => (c + d) :: ladd l r
noncomputable def lmul (k : Nat) : List Nat → List Nat
  | [] => []
  | c :: l => (k * c) :: lmul k l
noncomputable def unit : Nat → List Nat
  | 0 => [1]
  | i + 1 => 0 :: unit i
theorem ev_add (l : List Nat) : ∀ r w : List Nat, ev (ladd l r) w = ev l w + ev r w := by
  induction l with
  | nil =>
    exact fun r w => (Nat.zero_add _).symm
  | cons c l ih =>
    intro r w
    cases r with
    | nil => rfl
    | cons d r =>
      cases w with
      | nil => rfl
      | cons x w => exact (congr (congrArg HAdd.hAdd (Nat.add_mul c d x)) (ih r w)).trans (Nat.add_add_add_comm _ _ _ _)
theorem ev_mul (k : Nat) (l : List Nat) : ∀ w : List Nat, ev (lmul k l) w = k * ev l w := by
  induction l with
  | nil =>
    exact fun w => rfl
  | cons c l ih =>
    intro w
    cases w with
    | nil => rfl
    | cons x w => exact (congr (congrArg HAdd.hAdd (Nat.mul_assoc k c x)) (ih w)).trans (Nat.mul_add _ _ _).symm
theorem ev_unit (i : Nat) : ∀ w : List Nat, ev (unit i) w = nth w i := by
  induction i with
  | zero =>
    exact fun w => match w with | [] => rfl | x :: w => Nat.one_mul x
  | succ i ih =>
    exact fun w => match w with | [] => rfl | x :: w => (congr (congrArg HAdd.hAdd (Nat.zero_mul x)) (ih w)).trans (Nat.zero_add _)
noncomputable abbrev Cs := List (List Nat × List Nat)
noncomputable def Holds (w : List Nat) (cs : Cs) : Prop := ∀ c ∈ cs, ev c.1 w ≤ ev c.2 w
theorem Holds.cons {w : List Nat} {cs : Cs} {l r : List Nat} (h : Holds w cs) (q : ev l w ≤ ev r w) : Holds w ((l, r) :: cs) := fun c hc => (List.mem_cons.mp hc).elim (fun e => e ▸ q) (h c)
noncomputable def AT.go : AT → (List Nat → List Nat → Cs → Bool) → Cs → Bool
  | .v i, k, cs => k (unit (i + 1)) [] cs
  | .n c, k, cs => k [c] [] cs
  | .a x y, k, cs => x.go (fun p n cs => y.go (fun p' n' cs => k (ladd p p') (ladd n n') cs) cs) cs
  | .s x y, k, cs => x.go (fun p n cs => y.go (fun p' n' cs => k (ladd p n') (ladd n p') ((ladd p' n, ladd p n') :: cs) && k [] [] ((ladd p n', ladd p' n) :: cs)) cs) cs
  | .m c x, k, cs => x.go (fun p n cs => k (lmul c p) (lmul c n) cs) cs
  | .mn x y, k, cs => x.go (fun p n cs => y.go (fun p' n' cs => k p n ((ladd p n', ladd p' n) :: cs) && k p' n' ((ladd p' n, ladd p n') :: cs)) cs) cs
  | .mx x y, k, cs => x.go (fun p n cs => y.go (fun p' n' cs => k p' n' ((ladd p n', ladd p' n) :: cs) && k p n ((ladd p' n, ladd p n') :: cs)) cs) cs
noncomputable def GR (w : List Nat) (k : List Nat → List Nat → Cs → Bool) (x : Nat) : Prop := ∃ p n cs, k p n cs = true ∧ Holds w cs ∧ x + ev n w = ev p w
theorem GR.go {w : List Nat} {k : List Nat → List Nat → Cs → Bool} {x : Nat} {G : Prop} (h : GR w k x) (f : ∀ p n cs, k p n cs = true → Holds w cs → x + ev n w = ev p w → G) : G :=
  h.elim fun p h => h.elim fun n h => h.elim fun cs h => f p n cs h.1 h.2.1 h.2.2
theorem and_t {a b : Bool} {G : Prop} (h : (a && b) = true) (f : a = true → b = true → G) : G := f ((Bool.and_eq_true _ _).mp h).1 ((Bool.and_eq_true _ _).mp h).2
theorem k_le {w p n p' n' : List Nat} {x y : Nat} (h : y ≤ x) (e1 : x + ev n w = ev p w) (e2 : y + ev n' w = ev p' w) : ev (ladd p' n) w ≤ ev (ladd p n') w := by
  rw [ev_add, ev_add, ← e1, ← e2, Nat.add_right_comm]; exact Nat.add_le_add_right (Nat.add_le_add_right h _) _
theorem k_sub {w p n p' n' : List Nat} {x y : Nat} (h : y ≤ x) (e1 : x + ev n w = ev p w) (e2 : y + ev n' w = ev p' w) : x - y + ev (ladd n p') w = ev (ladd p n') w := by
  obtain ⟨d, rfl⟩ := Nat.exists_eq_add_of_le h
  rw [ev_add, ev_add, ← e1, ← e2, Nat.add_sub_cancel_left, Nat.add_left_comm (ev n w) y, ← Nat.add_assoc d y, Nat.add_comm d y]; exact (Nat.add_assoc _ _ _).symm
theorem AT.go_ok (ρ : List Nat) (t : AT) : ∀ (k : List Nat → List Nat → Cs → Bool) (cs : Cs), t.go k cs = true → Holds (1 :: ρ) cs → GR (1 :: ρ) k (t.d ρ) := by
  induction t with
  | v i =>
    exact fun k cs h hc => ⟨_, _, _, h, hc, (ev_unit (i + 1) (1 :: ρ)).symm⟩
  | n c =>
    exact fun k cs h hc => ⟨_, _, _, h, hc, (Nat.mul_one c).symm⟩
  | a x y ihx ihy =>
    exact fun k cs h hc => (ihx _ cs h hc).go fun p n c1 h1 hc1 e1 => (ihy _ c1 h1 hc1).go fun p' n' c2 h2 hc2 e2 =>
      ⟨_, _, _, h2, hc2, by rw [ev_add, ev_add, ← e1, ← e2]; exact Nat.add_add_add_comm _ _ _ _⟩
  | s x y ihx ihy =>
    exact fun k cs h hc => (ihx _ cs h hc).go fun p n c1 h1 hc1 e1 => (ihy _ c1 h1 hc1).go fun p' n' c2 h2 hc2 e2 => and_t h2 fun ha hb =>
      (Nat.le_total (y.d ρ) (x.d ρ)).elim (fun q => ⟨_, _, _, ha, hc2.cons (k_le q e1 e2), k_sub q e1 e2⟩) fun q => ⟨_, _, _, hb, hc2.cons (k_le q e2 e1), Nat.sub_eq_zero_of_le q⟩
  | m c x ihx =>
    exact fun k cs h hc => (ihx _ cs h hc).go fun p n c1 h1 hc1 e1 => ⟨_, _, _, h1, hc1, by rw [ev_mul, ev_mul, ← e1, Nat.mul_add]; rfl⟩
  | mn x y ihx ihy =>
    exact fun k cs h hc => (ihx _ cs h hc).go fun p n c1 h1 hc1 e1 => (ihy _ c1 h1 hc1).go fun p' n' c2 h2 hc2 e2 => and_t h2 fun ha hb =>
      (Nat.le_total (x.d ρ) (y.d ρ)).elim (fun q => ⟨_, _, _, ha, hc2.cons (k_le q e2 e1), (congrArg (· + ev n (1 :: ρ)) (Nat.min_eq_left q)).trans e1⟩) fun q => ⟨_, _, _, hb, hc2.cons (k_le q e1 e2), (congrArg (· + ev n' (1 :: ρ)) (Nat.min_eq_right q)).trans e2⟩
  | mx x y ihx ihy =>
    exact fun k cs h hc => (ihx _ cs h hc).go fun p n c1 h1 hc1 e1 => (ihy _ c1 h1 hc1).go fun p' n' c2 h2 hc2 e2 => and_t h2 fun ha hb =>
      (Nat.le_total (x.d ρ) (y.d ρ)).elim (fun q => ⟨_, _, _, ha, hc2.cons (k_le q e2 e1), (congrArg (· + ev n' (1 :: ρ)) (Nat.max_eq_right q)).trans e2⟩) fun q => ⟨_, _, _, hb, hc2.cons (k_le q e1 e2), (congrArg (· + ev n (1 :: ρ)) (Nat.max_eq_left q)).trans e1⟩
noncomputable def leGo (x y : AT) (c : Nat) (k : Cs → Bool) (cs : Cs) : Bool := x.go (fun p n cs => y.go (fun p' n' cs => k ((ladd (ladd p n') [c], ladd p' n) :: cs)) cs) cs
noncomputable def KR (w : List Nat) (k : Cs → Bool) : Prop := ∃ cs, k cs = true ∧ Holds w cs
theorem KR.go {w : List Nat} {k : Cs → Bool} {G : Prop} (h : KR w k) (f : ∀ cs, k cs = true → Holds w cs → G) : G := h.elim fun cs h => f cs h.1 h.2
theorem leGo_ok {ρ : List Nat} {x y : AT} {c : Nat} {k : Cs → Bool} {cs : Cs} (h : leGo x y c k cs = true) (hc : Holds (1 :: ρ) cs) (q : x.d ρ + c ≤ y.d ρ) : KR (1 :: ρ) k :=
  (AT.go_ok ρ x _ cs h hc).go fun p n c1 h1 hc1 e1 => (AT.go_ok ρ y _ c1 h1 hc1).go fun p' n' c2 h2 hc2 e2 => ⟨_, h2, hc2.cons (by
    rw [ev_add, ev_add, ev_add, ← e1, ← e2]
    show _ + _ + _ + (c * 1 + 0) ≤ _
    rw [Nat.mul_one, Nat.add_zero, Nat.add_right_comm (x.d ρ + _), Nat.add_right_comm (x.d ρ), Nat.add_right_comm (y.d ρ)]
    exact Nat.add_le_add_right (Nat.add_le_add_right q _) _)⟩
noncomputable def AF.go : AF → Bool → (Cs → Bool) → Cs → Bool
  | .l x y, b, k, cs => match b with
    | true => leGo x y 0 k cs
    | false => leGo y x 1 k cs
  | .t x y, b, k, cs => match b with
    | true => leGo x y 1 k cs
    | false => leGo y x 0 k cs
  | .e x y, b, k, cs => match b with
    | true => leGo x y 0 (fun cs => leGo y x 0 k cs) cs
    | false => leGo x y 1 k cs && leGo y x 1 k cs
  | .no p, b, k, cs => p.go (!b) k cs
  | .an p r, b, k, cs => match b with
    | true => p.go true (fun cs => r.go true k cs) cs
    | false => p.go false k cs && r.go false k cs
  | .o p r, b, k, cs => match b with
    | true => p.go true k cs && r.go true k cs
    | false => p.go false (fun cs => r.go false k cs) cs
  | .i p r, b, k, cs => match b with
    | true => p.go false k cs && r.go true k cs
    | false => p.go true (fun cs => r.go false k cs) cs
  | .f, b, k, cs => match b with
    | true => true
    | false => k cs
noncomputable def Says (b : Bool) (P : Prop) : Prop := match b with
  | true => P
  | false => ¬P
theorem AF.go_ok (ρ : List Nat) (F : AF) : ∀ (b : Bool) (k : Cs → Bool) (cs : Cs), F.go b k cs = true → Holds (1 :: ρ) cs → Says b (F.d ρ) → KR (1 :: ρ) k := by
  induction F with
  | l x y =>
    exact Bool.rec (fun k cs h hc q => leGo_ok h hc (Nat.lt_of_not_le q)) (fun k cs h hc q => leGo_ok h hc q)
  | t x y =>
    exact Bool.rec (fun k cs h hc q => leGo_ok h hc (Nat.le_of_not_lt q)) (fun k cs h hc q => leGo_ok h hc q)
  | e x y =>
    exact Bool.rec (fun k cs h hc q => and_t h fun ha hb => (Nat.lt_or_gt_of_ne q).elim (fun z => leGo_ok ha hc z) fun z => leGo_ok hb hc z)
      (fun k cs h hc q => (leGo_ok h hc (Nat.le_of_eq q)).go fun c1 h1 hc1 => leGo_ok h1 hc1 (Nat.le_of_eq (Eq.symm q)))
  | no p ih =>
    exact Bool.rec (fun k cs h hc q => ih true k cs h hc (Classical.not_not.mp q)) (fun k cs h hc q => ih false k cs h hc q)
  | an p r ihp ihr =>
    exact Bool.rec (fun k cs h hc q => and_t h fun ha hb => (Classical.not_and_iff_not_or_not.mp q).elim (fun z => ihp false k cs ha hc z) fun z => ihr false k cs hb hc z)
      (fun k cs h hc q => (ihp true _ cs h hc q.1).go fun c1 h1 hc1 => ihr true k c1 h1 hc1 q.2)
  | o p r ihp ihr =>
    exact Bool.rec (fun k cs h hc q => (ihp false _ cs h hc fun z => q (.inl z)).go fun c1 h1 hc1 => ihr false k c1 h1 hc1 fun z => q (.inr z))
      (fun k cs h hc q => and_t h fun ha hb => Or.elim q (fun z => ihp true k cs ha hc z) fun z => ihr true k cs hb hc z)
  | i p r ihp ihr =>
    exact Bool.rec (fun k cs h hc q => (ihp true _ cs h hc (Classical.byContradiction fun z => q fun y => absurd y z)).go fun c1 h1 hc1 => ihr false k c1 h1 hc1 fun z => q fun _ => z)
      (fun k cs h hc q => and_t h fun ha hb => (Classical.em (p.d ρ)).elim (fun z => ihr true k cs hb hc (q z)) fun z => ihp false k cs ha hc z)
  | f =>
    exact Bool.rec (fun k cs h hc q => ⟨_, h, hc⟩) (fun k cs h hc q => False.elim q)
noncomputable def lsub : List Nat → List Nat → List Nat
  | [], _ => []
  | c :: l, [] => c :: l
  | c :: l, d :: r => (c - d) :: lsub l r
theorem ls_eq {c d x A B L R : Nat} (q : c ≤ d) (ih : A + R = B + L) : (c - d) * x + A + (d * x + R) = (d - c) * x + B + (c * x + L) := by
  obtain ⟨k, rfl⟩ := Nat.exists_eq_add_of_le q
  rw [Nat.sub_eq_zero_of_le q, Nat.add_sub_cancel_left, Nat.add_mul, Nat.zero_mul, Nat.zero_add, Nat.add_left_comm A, ih, Nat.add_add_add_comm (k * x) B, Nat.add_comm (k * x)]
theorem ev_lsub (l : List Nat) : ∀ r w : List Nat, ev (lsub l r) w + ev r w = ev (lsub r l) w + ev l w := by
  induction l with
  | nil =>
    exact fun r w => match r with | [] => rfl | d :: r => Nat.add_comm _ _
  | cons c l ih =>
    intro r w
    cases r with
    | nil => exact Nat.add_comm _ _
    | cons d r =>
      cases w with
      | nil => rfl
      | cons x w => exact (Nat.le_total c d).elim (fun q => ls_eq q (ih r w)) fun q => (ls_eq q (ih r w).symm).symm
noncomputable def cut (c : List Nat × List Nat) : List Nat × List Nat := (lsub c.1 c.2, lsub c.2 c.1)
noncomputable def isZ : Nat → Bool
  | 0 => true
  | _ + 1 => false
noncomputable def zero : List Nat → Bool
  | [] => true
  | c :: l => isZ c && zero l
theorem ev_zero (l : List Nat) : ∀ w : List Nat, zero l = true → ev l w = 0 := by
  induction l with
  | nil =>
    exact fun w h => rfl
  | cons c l ih =>
    intro w h
    cases w with
    | nil => rfl
    | cons x w =>
      cases c with
      | zero => exact (congr (congrArg HAdd.hAdd (Nat.zero_mul x)) (ih w h)).trans rfl
      | succ c => cases h
noncomputable def hasC : List Nat → Bool
  | [] => false
  | c :: _ => !isZ c
noncomputable def bad (c : List Nat × List Nat) : Bool := zero c.2 && hasC c.1
noncomputable def anyBad : Cs → Bool
  | [] => false
  | c :: cs => bad c || anyBad cs
theorem hasC_ok {l ρ : List Nat} (h : hasC l = true) (q : ev l (1 :: ρ) ≤ 0) : False := by
  cases l with
  | nil => cases h
  | cons c l =>
    cases c with
    | zero => cases h
    | succ k => exact absurd (Nat.le_trans (Nat.le_add_right _ _) q) (Nat.not_le_of_lt (Nat.lt_of_lt_of_le (Nat.succ_pos k) (Nat.le_of_eq (Nat.mul_one _).symm)))
theorem anyBad_ok {ρ : List Nat} (cs : Cs) : anyBad cs = true → Holds (1 :: ρ) cs → False := by
  induction cs with
  | nil =>
    exact fun h _ => nomatch h
  | cons c cs ih =>
    exact fun h hc => ((Bool.or_eq_true _ _).mp h).elim (fun q => and_t q fun h1 h2 => hasC_ok h2 (ev_zero _ _ h1 ▸ hc c (.head _))) fun q => ih q fun c' hc' => hc c' (.tail _ hc')
noncomputable def mix (i : Nat) (u v : List Nat × List Nat) : List Nat × List Nat :=
  cut (ladd (lmul (nth v.2 i - nth v.1 i) u.1) (lmul (nth u.1 i - nth u.2 i) v.1), ladd (lmul (nth v.2 i - nth v.1 i) u.2) (lmul (nth u.1 i - nth u.2 i) v.2))
theorem cut_ok {w : List Nat} {c : List Nat × List Nat} (h : ev c.1 w ≤ ev c.2 w) : ev (cut c).1 w ≤ ev (cut c).2 w :=
  Nat.le_of_add_le_add_right (Nat.le_trans (Nat.le_of_eq (ev_lsub c.1 c.2 w)) (Nat.add_le_add_left h _))
theorem mix_ok {w : List Nat} {i : Nat} {u v : List Nat × List Nat} (hu : ev u.1 w ≤ ev u.2 w) (hv : ev v.1 w ≤ ev v.2 w) : ev (mix i u v).1 w ≤ ev (mix i u v).2 w := by
  refine cut_ok ?_
  show ev (ladd _ _) w ≤ ev (ladd _ _) w
  rw [ev_add, ev_add, ev_mul, ev_mul, ev_mul, ev_mul]
  exact Nat.add_le_add (Nat.mul_le_mul_left _ hu) (Nat.mul_le_mul_left _ hv)
noncomputable def mixes (i : Nat) (u : List Nat × List Nat) : Cs → Cs → Cs
  | [], acc => acc
  | v :: vs, acc => mix i u v :: mixes i u vs acc
noncomputable def allMix (i : Nat) (vs : Cs) : Cs → Cs → Cs
  | [], acc => acc
  | u :: us, acc => mixes i u vs (allMix i vs us acc)
theorem mixes_ok {w : List Nat} {i : Nat} {u : List Nat × List Nat} {acc : Cs} (hu : ev u.1 w ≤ ev u.2 w) (ha : Holds w acc) (vs : Cs) : Holds w vs → Holds w (mixes i u vs acc) := by
  induction vs with
  | nil =>
    exact fun _ => ha
  | cons v vs ih =>
    exact fun h => (ih fun c hc => h c (.tail _ hc)).cons (mix_ok hu (h v (.head _)))
theorem allMix_ok {w : List Nat} {i : Nat} {vs acc : Cs} (hv : Holds w vs) (ha : Holds w acc) (us : Cs) : Holds w us → Holds w (allMix i vs us acc) := by
  induction us with
  | nil =>
    exact fun _ => ha
  | cons u us ih =>
    exact fun h => mixes_ok (h u (.head _)) (ih fun c hc => h c (.tail _ hc)) vs hv
noncomputable def sw (b : Bool) (x y : Cs) : Cs := match b with
  | true => x
  | false => y
theorem sw_ok {w : List Nat} {b : Bool} {x y : Cs} (hx : Holds w x) (hy : Holds w y) : Holds w (sw b x y) := by cases b; exact hy; exact hx
noncomputable def part (i : Nat) : Cs → Cs → Cs → Cs → Cs
  | [], us, vs, rest => allMix i vs us rest
  | c :: cs, us, vs, rest => sw (Nat.beq (nth c.1 i) (nth c.2 i)) (part i cs us vs (c :: rest)) (sw (Nat.ble (nth c.1 i) (nth c.2 i)) (part i cs us (c :: vs) rest) (part i cs (c :: us) vs rest))
theorem part_ok {w : List Nat} {i : Nat} (cs : Cs) : ∀ us vs rest : Cs, Holds w cs → Holds w us → Holds w vs → Holds w rest → Holds w (part i cs us vs rest) := by
  induction cs with
  | nil =>
    exact fun us vs rest _ hu hv hr => allMix_ok hv hr us hu
  | cons c cs ih =>
    exact fun us vs rest h hu hv hr =>
      have h1 := h c (.head _)
      have h2 : Holds w cs := fun c' hc => h c' (.tail _ hc)
      sw_ok (ih us vs _ h2 hu hv (hr.cons h1)) (sw_ok (ih us _ rest h2 hu (hv.cons h1) hr) (ih _ vs rest h2 (hu.cons h1) hv hr))
noncomputable def fm : Nat → Cs → Bool
  | 0, cs => anyBad cs
  | i + 1, cs => anyBad cs || fm i (part (i + 1) cs [] [([], unit (i + 1))] [])
theorem fm_ok {ρ : List Nat} (i : Nat) : ∀ cs : Cs, fm i cs = true → Holds (1 :: ρ) cs → False := by
  induction i with
  | zero => exact anyBad_ok
  | succ i ih =>
    exact fun cs h hc => ((Bool.or_eq_true _ _).mp h).elim (fun q => anyBad_ok cs q hc) fun q => ih _ q (part_ok cs _ _ _ hc (fun _ h => nomatch h) (Holds.cons (fun _ h => nomatch h) (Nat.zero_le _)) fun _ h => nomatch h)
noncomputable def cuts : Cs → Cs
  | [] => []
  | c :: cs => cut c :: cuts cs
theorem cuts_ok {w : List Nat} (cs : Cs) : Holds w cs → Holds w (cuts cs) := by
  induction cs with
  | nil => exact id
  | cons c cs ih =>
    exact fun h => (ih fun c' hc => h c' (.tail _ hc)).cons (cut_ok (h c (.head _)))
noncomputable def arOk (n : Nat) (F : AF) : Bool := F.go false (fun cs => fm n (cuts cs)) []
theorem ar (n : Nat) (F : AF) (h : arOk n F = true) (ρ : List Nat) : F.d ρ := Classical.byContradiction fun q =>
  (AF.go_ok ρ F false _ [] h (fun _ h => nomatch h) q).go fun cs h1 h2 => fm_ok n _ h1 (cuts_ok cs h2)
end Mine.Ar
namespace Mine
open Ar
theorem ar0 (n : Nat) (G : AF) (h : arOk n G = true) (ρ : List Nat)  : G.d ρ := ar n _ h ρ 
theorem ar1 (n : Nat) (A G : AF) (h : arOk n (.i A G) = true) (ρ : List Nat) (hA : A.d ρ) : G.d ρ := ar n _ h ρ hA
theorem ar2 (n : Nat) (A B G : AF) (h : arOk n (.i A (.i B G)) = true) (ρ : List Nat) (hA : A.d ρ) (hB : B.d ρ) : G.d ρ := ar n _ h ρ hA hB
theorem ar3 (n : Nat) (A B C G : AF) (h : arOk n (.i A (.i B (.i C G))) = true) (ρ : List Nat) (hA : A.d ρ) (hB : B.d ρ) (hC : C.d ρ) : G.d ρ := ar n _ h ρ hA hB hC
theorem ar4 (n : Nat) (A B C D G : AF) (h : arOk n (.i A (.i B (.i C (.i D G)))) = true) (ρ : List Nat) (hA : A.d ρ) (hB : B.d ρ) (hC : C.d ρ) (hD : D.d ρ) : G.d ρ := ar n _ h ρ hA hB hC hD
theorem ar5 (n : Nat) (A B C D E G : AF) (h : arOk n (.i A (.i B (.i C (.i D (.i E G))))) = true) (ρ : List Nat) (hA : A.d ρ) (hB : B.d ρ) (hC : C.d ρ) (hD : D.d ρ) (hE : E.d ρ) : G.d ρ := ar n _ h ρ hA hB hC hD hE
theorem ar6 (n : Nat) (A B C D E F G : AF) (h : arOk n (.i A (.i B (.i C (.i D (.i E (.i F G)))))) = true) (ρ : List Nat) (hA : A.d ρ) (hB : B.d ρ) (hC : C.d ρ) (hD : D.d ρ) (hE : E.d ρ) (hF : F.d ρ) : G.d ρ := ar n _ h ρ hA hB hC hD hE hF
theorem ar7 (n : Nat) (A B C D E F K G : AF) (h : arOk n (.i A (.i B (.i C (.i D (.i E (.i F (.i K G))))))) = true) (ρ : List Nat) (hA : A.d ρ) (hB : B.d ρ) (hC : C.d ρ) (hD : D.d ρ) (hE : E.d ρ) (hF : F.d ρ) (hK : K.d ρ) : G.d ρ := ar n _ h ρ hA hB hC hD hE hF hK
theorem half_le (t : Nat) : 2 * (t / 2) ≤ t ∧ t < 2 * (t / 2) + 2 := ⟨Nat.mul_div_le t 2, Nat.lt_mul_div_succ t (by decide)⟩
theorem ar_t1 (a b c : Nat) (h1 : a < b) (h2 : b ≤ c - 1) : a + 1 < c + 1 ∧ a ≤ c := ar2 3 (.t (.v 0) (.v 1)) (.l (.v 1) (.s (.v 2) (.n 1))) (.an (.t (.a (.v 0) (.n 1)) (.a (.v 2) (.n 1))) (.l (.v 0) (.v 2))) (by kernel_rfl) [_, _, _] h1 h2
end Mine
end
section
open PySem PySem.W PyProof.Rows PySem.Calls
set_option maxRecDepth 100000
namespace Mine
def auKr : Lean.Syntax := .node .none ``Lean.Parser.Tactic.tacticSeq #[.node .none ``Lean.Parser.Tactic.tacticSeq1Indented #[.node .none `null #[.node .none `tacticKernel_rfl #[Lean.mkAtom "kernel_rfl"]]]]
noncomputable abbrev Z0 : Ar.AT := .v 0
noncomputable abbrev Z1 : Ar.AT := .v 1
noncomputable abbrev Z2 : Ar.AT := .v 2
noncomputable abbrev Z3 : Ar.AT := .v 3
noncomputable abbrev Z4 : Ar.AT := .v 4
noncomputable abbrev Z5 : Ar.AT := .v 5
noncomputable abbrev Z6 : Ar.AT := .v 6
noncomputable abbrev Z7 : Ar.AT := .v 7
noncomputable abbrev Z8 : Ar.AT := .v 8
noncomputable abbrev Z9 : Ar.AT := .v 9
noncomputable abbrev N1 : Ar.AT := .n 1
theorem as0 (n : Nat) (G : Ar.AF) (ρ : List Nat)  (h : autoParam (Ar.arOk n G = true) auKr) : G.d ρ := ar0 n G h ρ 
theorem as1 (n : Nat) (A G : Ar.AF) (ρ : List Nat) (hA : A.d ρ) (h : autoParam (Ar.arOk n (.i A G) = true) auKr) : G.d ρ := ar1 n A G h ρ hA
theorem as2 (n : Nat) (A B G : Ar.AF) (ρ : List Nat) (hA : A.d ρ) (hB : B.d ρ) (h : autoParam (Ar.arOk n (.i A (.i B G)) = true) auKr) : G.d ρ := ar2 n A B G h ρ hA hB
theorem as3 (n : Nat) (A B C G : Ar.AF) (ρ : List Nat) (hA : A.d ρ) (hB : B.d ρ) (hC : C.d ρ) (h : autoParam (Ar.arOk n (.i A (.i B (.i C G))) = true) auKr) : G.d ρ := ar3 n A B C G h ρ hA hB hC
theorem as4 (n : Nat) (A B C D G : Ar.AF) (ρ : List Nat) (hA : A.d ρ) (hB : B.d ρ) (hC : C.d ρ) (hD : D.d ρ) (h : autoParam (Ar.arOk n (.i A (.i B (.i C (.i D G)))) = true) auKr) : G.d ρ := ar4 n A B C D G h ρ hA hB hC hD
theorem as5 (n : Nat) (A B C D E G : Ar.AF) (ρ : List Nat) (hA : A.d ρ) (hB : B.d ρ) (hC : C.d ρ) (hD : D.d ρ) (hE : E.d ρ) (h : autoParam (Ar.arOk n (.i A (.i B (.i C (.i D (.i E G))))) = true) auKr) : G.d ρ := ar5 n A B C D E G h ρ hA hB hC hD hE
theorem as6 (n : Nat) (A B C D E F G : Ar.AF) (ρ : List Nat) (hA : A.d ρ) (hB : B.d ρ) (hC : C.d ρ) (hD : D.d ρ) (hE : E.d ρ) (hF : F.d ρ) (h : autoParam (Ar.arOk n (.i A (.i B (.i C (.i D (.i E (.i F G)))))) = true) auKr) : G.d ρ := ar6 n A B C D E F G h ρ hA hB hC hD hE hF
theorem as7 (n : Nat) (A B C D E F K G : Ar.AF) (ρ : List Nat) (hA : A.d ρ) (hB : B.d ρ) (hC : C.d ρ) (hD : D.d ρ) (hE : E.d ρ) (hF : F.d ρ) (hK : K.d ρ) (h : autoParam (Ar.arOk n (.i A (.i B (.i C (.i D (.i E (.i F (.i K G))))))) = true) auKr) : G.d ρ := ar7 n A B C D E F K G h ρ hA hB hC hD hE hF hK
theorem mT {α : Type} {a b : α} {l : List α} (h : a ∈ l) : a ∈ b :: l := List.mem_cons_of_mem b h
theorem mS {α : Type} {a : α} {l : List α} : a ∈ a :: l := List.mem_cons_self
section
open PySem PyProof.Rows
theorem in_rng {n:Nat} (h:n≤1000000):-1000000≤(n:Int)∧(n:Int)≤1000000:=⟨Int.le_trans (by decide) (Int.natCast_nonneg n),Int.ofNat_le.mpr h⟩
theorem in_rngK {n:Nat} (h:n≤1000):-1000≤(n:Int)∧(n:Int)≤1000:=⟨Int.le_trans (by decide) (Int.natCast_nonneg n),Int.ofNat_le.mpr h⟩
theorem in_sub {a b:Nat} (h:b≤a):(a:Int) - b = ((a - b:Nat):Int):=(Int.ofNat_sub h).symm
theorem in_pred {a:Nat} (h:0 < a):(a:Int) - 1 = ((a - 1:Nat):Int):=in_sub (b:=1) h
theorem in_len {n:Nat}:((n:Int) - 0).toNat = n:=by rw [Int.sub_zero,Int.toNat_natCast]
theorem in_to {a b:Nat} (h:a≤b):a + ((b:Int) - a).toNat = b:=by rw [in_sub h,Int.toNat_natCast,Nat.add_sub_cancel' h]
theorem in_clip {a n:Nat}:max 0 (min (a:Int) (n:Int)) = ((min a n:Nat):Int):=by
 rcases Nat.le_total a n with q | q
 ·rw [Nat.min_eq_left q,Int.min_eq_left (Int.ofNat_le.mpr q)]; exact Int.max_eq_right (Int.natCast_nonneg _)
 ·rw [Nat.min_eq_right q,Int.min_eq_right (Int.ofNat_le.mpr q)]; exact Int.max_eq_right (Int.natCast_nonneg _)
theorem in_neq {p q:Nat}:((p:Int) == (q:Int)) = decide (p = q):=by
 rw [Bool.eq_iff_iff,beq_iff_eq,decide_eq_true_eq]; exact Int.ofNat_inj
theorem in_ne0 {n:Nat} (h:0 < n):(n:Int)≠0:=fun e=>Nat.ne_of_gt h (Int.ofNat_inj.mp e)
theorem in_span {a b:Int} (ha:-1000≤a) (hb:b≤1000):(b - a).toNat≤16777216:=Int.toNat_le.mpr (Int.le_trans (Int.sub_le_sub hb ha) (by decide))
theorem in_lo {a:Int} (h:-1000≤a∧a≤1000):-1000000≤a∧a≤1000000:=⟨Int.le_trans (by decide) h.1,Int.le_trans h.2 (by decide)⟩
end
section
set_option genSizeOf false
theorem cutm {P:Prop} (h:∀ G:Prop,(P→G)→G):P:=h P id
def auSeq (a:Array Lean.Syntax):Lean.Syntax:=.node .none ``Lean.Parser.Tactic.tacticSeq #[.node .none ``Lean.Parser.Tactic.tacticSeq1Indented #[.node .none `null a]]
def auTac (k:Lean.Name) (a:Array Lean.Syntax):Lean.Syntax:=.node .none (Lean.Name.append `Lean.Parser.Tactic k) a
def auNull:Lean.Syntax:=.node .none `null #[]
def auRflT:Lean.Syntax:=auTac `tacticRfl #[Lean.mkAtom "rfl"]
def auRfl:Lean.Syntax:=auSeq #[auRflT]
def auDec:Lean.Syntax:=auSeq #[auTac `decide #[Lean.mkAtom "decide",auTac `optConfig #[auNull]]]
def auAll:Lean.Syntax:=auSeq #[auTac `withUnfoldingAll #[Lean.mkAtom "with_unfolding_all",auRfl]]
def auHole:Lean.Syntax:=.node .none ``Lean.Parser.Term.hole #[Lean.mkAtom "_"]
def auH:Lean.Syntax:=.ident .none "h".toRawSubstring `h []
def auIntro (a:Array Lean.Syntax):Lean.Syntax:=auTac `intro #[Lean.mkAtom "intro",.node .none `null a]
def auFun:Lean.Syntax:=auSeq #[auIntro #[auHole],Lean.mkAtom ";",auRflT]
def auNo:Lean.Syntax:=auSeq #[auIntro #[auHole,auHole,auH],Lean.mkAtom ";",auTac `cases #[Lean.mkAtom "cases",.node .none `null #[auTac `elimTarget #[auNull,auH]],auNull,auNull]]
def auUnfT:Lean.Syntax:=auTac `withUnfoldingAll #[Lean.mkAtom "with_unfolding_all",auRfl]
def auFun2:Lean.Syntax:=auSeq #[auIntro #[auHole,auHole],Lean.mkAtom ";",auRflT]
def auFunU2:Lean.Syntax:=auSeq #[auIntro #[auHole,auHole],Lean.mkAtom ";",auUnfT]
def auBle:Lean.Syntax:=auSeq #[auTac `exact #[Lean.mkAtom "exact",.node .none ``Lean.Parser.Term.app #[.ident .none "Nat.le_of_ble_eq_true".toRawSubstring `Nat.le_of_ble_eq_true [],.node .none `null #[.ident .none "rfl".toRawSubstring `rfl []]]]]
inductive IS where
 | i (n:Int)
 | s (x:Str)
 deriving DecidableEq
noncomputable def isIS:IS→Value→Bool
 | .i n,v=>Value.isInt n v
 | .s x,v=>Value.isStrOf x v
theorem isIS_shape {k:IS} {v:Value} (h:isIS k v = true):(∃ n t,k = .i n∧v = .int n t) ∨ ∃ x t,k = .s x∧v = .str x t:=by
 cases k with
 | i n=>obtain ⟨t,rfl⟩:=Value.isInt_shape h; exact .inl ⟨n,t,rfl,rfl⟩
 | s x=>obtain ⟨t,rfl⟩:=Value.isStrOf_shape h; exact .inr ⟨x,t,rfl,rfl⟩
section
variable {prog:Program} {w:World} {A:Around} {E:Value→Shared→Prop} {s:Shared}
theorem eqBool_int_str {a:Int} {t:Tok} {b:Str} {u:Tok} {Q:Bool→Shared→Prop} (h:Q false s):wpAny (model prog w) A (eqBool (.int a t) (.str b u)) Q E s:=by
 unfold eqBool
 refine wpAny_holding ?_
 rw [if_neg (by intro e; cases e)]
 exact wpAny_bind (EqMixed.eq_int_str (wpAny_truthy_bool h))
theorem eqBool_str_int {a:Str} {t:Tok} {b:Int} {u:Tok} {Q:Bool→Shared→Prop} (h:Q false s):wpAny (model prog w) A (eqBool (.str a t) (.int b u)) Q E s:=by
 unfold eqBool
 refine wpAny_holding ?_
 rw [if_neg (by intro e; cases e)]
 exact wpAny_bind (EqMixed.eq_str_int (wpAny_truthy_bool h))
end
noncomputable def mixKind (prog:Program) (w:World):KeyKind prog w IS where
 is:=isIS
 hash:=fun k=>match k with | .i n=>hashInt n | .s x=>hashStr w x
 inj:=fun v a b ha hb=>by
  rcases isIS_shape ha with ⟨n,t,rfl,rfl⟩ | ⟨x,t,rfl,rfl⟩
  ·rcases isIS_shape hb with ⟨n',t',rfl,e⟩ | ⟨x',t',rfl,e⟩
   ·injection e with e1; rw [e1]
   ·cases e
  ·rcases isIS_shape hb with ⟨n',t',rfl,e⟩ | ⟨x',t',rfl,e⟩
   ·cases e
   ·injection e with e1; rw [e1]
 byValue:=fun k v h=>by rcases isIS_shape h with ⟨n,t,rfl,rfl⟩ | ⟨x,t,rfl,rfl⟩ <;> rfl
 pyHash:=fun hv h=>by
  rcases isIS_shape hv with ⟨n,t,rfl,rfl⟩ | ⟨x,t,rfl,rfl⟩
  ·exact wpAny_pyHash_int h
  ·exact wpAny_pyHash_str h
 eqBool:=fun hu hv h=>by
  rcases isIS_shape hu with ⟨n,t,rfl,rfl⟩ | ⟨x,t,rfl,rfl⟩ <;> rcases isIS_shape hv with ⟨n',t',rfl,rfl⟩ | ⟨x',t',rfl,rfl⟩
  ·refine wpAny_eqBool_int ?_
   have e:(n == n') = decide (IS.i n = IS.i n'):=by by_cases q:n = n' <;> simp [q]
   rw [e]; exact h
  ·exact eqBool_int_str (by simpa using h)
  ·exact eqBool_str_int (by simpa using h)
  ·exact wpAny_eqBool_str (by simpa using h)
 «strs»:=fun k x t v h=>by
  rcases isIS_shape h with ⟨n,t,rfl,e⟩ | ⟨x',t',rfl,e⟩
  ·cases e
  ·injection e with e1
   subst e1
   cases v <;> rfl
end
section
set_option genInjectivity false
set_option genSizeOf false
inductive At where
 | none | bool (b:Bool) | int (i:Int) | str (x:Str) | float (f:UInt64) | ty (n:String) | bi (id:String) | ref (a:Addr)
inductive V where
 | at (x:At)
 | tup (c:Option Addr) (xs:List At)
noncomputable abbrev V.none:V:=.at .none
noncomputable abbrev V.bool (b:Bool):V:=.at (.bool b)
noncomputable abbrev V.int (i:Int):V:=.at (.int i)
noncomputable abbrev V.str (x:Str):V:=.at (.str x)
noncomputable abbrev V.float (f:UInt64):V:=.at (.float f)
noncomputable abbrev V.ty (n:String):V:=.at (.ty n)
noncomputable abbrev V.bi (n:String):V:=.at (.bi n)
noncomputable abbrev V.ref (a:Addr):V:=.at (.ref a)
noncomputable def At.rep:At→Value→Prop
 | .none,v=>v = .none
 | .bool b,v=>v = .bool b
 | .int i,v=>∃ t,v = .int i t
 | .str x,v=>∃ t,v = .str x t
 | .float f,v=>∃ t,v = .float f t
 | .ty n,v=>v = .type n
 | .bi n,v=>v = .builtin n
 | .ref a,v=>v = .ref a
noncomputable def AtReps:List At→List Value→Prop
 | [],vs=>vs = []
 | x :: xs,vs=>∃ v r,vs = v :: r∧x.rep v∧AtReps xs r
noncomputable def clsOf:Option Addr→Value
 | .none=>.type "tuple"
 | .some c=>.ref c
noncomputable def IsTupOf (h:Heap) (c:Option Addr) (a:Addr) (items:Array Value):Prop:=∃ o n,h.get? a = some o∧o.cls = clsOf c∧o.data = .seq items n
noncomputable def V.rep (h:Heap):V→Value→Prop
 | .at x,v=>x.rep v
 | .tup c xs,v=>∃ a items,v = .ref a∧IsTupOf h c a items∧AtReps xs items.toList
noncomputable def Reps (h:Heap):List V→List Value→Prop
 | [],vs=>vs = []
 | x :: xs,vs=>∃ v r,vs = v :: r∧x.rep h v∧Reps h xs r
theorem Reps.length {h:Heap}:∀ {xs:List V} {vs:List Value},Reps h xs vs→vs.length = xs.length
 | [],_,e=>by cases e; rfl
 | x :: xs,_,⟨v,r,e,_,q⟩=>by subst e; simp [q.length]
theorem Reps.get {h:Heap}:∀ {xs:List V} {vs:List Value} {i:Nat} {x:V},Reps h xs vs→xs[i]? = some x→∃ v,vs[i]? = some v∧x.rep h v
 | [],_,_,_,_,e=>by simp at e
 | y :: xs,_,0,x,⟨v,r,q,hv,_⟩,e=>by subst q; simp at e; subst e; exact ⟨v,by simp,hv⟩
 | y :: xs,_,i + 1,x,⟨v,r,q,_,hr⟩,e=>by subst q; simp at e; obtain ⟨u,hu,hx⟩:=hr.get e; exact ⟨u,by simpa using hu,hx⟩
theorem Reps.append {h:Heap}:∀ {xs ys:List V} {vs ws:List Value},Reps h xs vs→Reps h ys ws→Reps h (xs ++ ys) (vs ++ ws)
 | [],_,_,_,e,q=>by cases e; simpa using q
 | x :: xs,ys,_,ws,⟨v,r,e,hv,hr⟩,q=>by subst e; exact ⟨v,r ++ ws,rfl,hv,hr.append q⟩
theorem Reps.one {h:Heap} {x:V} {v:Value} (q:x.rep h v):Reps h [x] [v]:=⟨v,[],rfl,q,rfl⟩
theorem Reps.cons {h:Heap} {x:V} {v:Value} {xs:List V} {vs:List Value} (q:x.rep h v) (r:Reps h xs vs):Reps h (x :: xs) (v :: vs):=⟨v,vs,rfl,q,r⟩
theorem Reps.drop {h:Heap}:∀ {xs:List V} {vs:List Value} (i:Nat),Reps h xs vs→Reps h (xs.drop i) (vs.drop i)
 | _,_,0,q=>by simpa using q
 | [],_,i + 1,e=>by cases e; exact (rfl:([]:List Value) = [])
 | x :: xs,_,i + 1,⟨v,r,e,_,hr⟩=>by subst e; simpa using hr.drop i
theorem Reps.take {h:Heap}:∀ {xs:List V} {vs:List Value} (i:Nat),Reps h xs vs→Reps h (xs.take i) (vs.take i)
 | _,_,0,q=>(rfl:([]:List Value) = [])
 | [],_,i + 1,e=>by cases e; exact (rfl:([]:List Value) = [])
 | x :: xs,_,i + 1,⟨v,r,e,hv,hr⟩=>by subst e; simpa using Reps.cons hv (hr.take i)
theorem Reps.reverse {h:Heap}:∀ {xs:List V} {vs:List Value},Reps h xs vs→Reps h xs.reverse vs.reverse
 | [],_,e=>by cases e; rfl
 | x :: xs,_,⟨v,r,e,hv,hr⟩=>by subst e; rw [List.reverse_cons,List.reverse_cons]; exact hr.reverse.append (.one hv)
theorem AtReps.reps {h:Heap}:∀ {xs:List At} {vs:List Value},AtReps xs vs→Reps h (xs.map .at) vs
 | [],_,e=>e
 | x :: xs,_,⟨v,r,e,hv,hr⟩=>⟨v,r,e,hv,hr.reps⟩
theorem AtReps.of_reps {h:Heap}:∀ {xs:List At} {vs:List Value},Reps h (xs.map .at) vs→AtReps xs vs
 | [],_,e=>e
 | x :: xs,_,⟨v,r,e,hv,hr⟩=>⟨v,r,e,hv,.of_reps hr⟩
theorem AtReps.length {xs:List At} {vs:List Value} (h:AtReps xs vs):vs.length = xs.length:=by
 have:=(AtReps.reps (h:={}) h).length
 simpa using this
inductive O where
 | list (xs:List V)
 | dict (ep:Nat) (es:List (IS × V))
 | set (z:Array (Int × Value) × Nat × SetTable) (ks:List IS)
 | inst (c d:Addr)
 | ns (fs:List (Str × V))
 | cell (x:Option V)
 | range (a b c:Int)
 | view (cls:String) (d:Addr)
 | obj (o:Obj)
noncomputable def IS.v:IS→V
 | .i n=>.int n
 | .s x=>.str x
noncomputable def Obj.fixed (o:Obj):Prop:=match o.data with
 | .fields _=>True
 | .func _=>True
 | .prim _=>True
 | _=>False
noncomputable def Tame (t:SetTable):Prop:=t.place.toList.Pairwise (· < ·)∧t.dummies = #[]
structure SetInv (prog:Program) (w:World) (z:Array (Int × Value) × Nat × SetTable) (ks:List IS):Prop where
 el:ElemsOf (mixKind prog w) z.1.toList
 mem:∀ k,k∈ks ↔ ∃ e∈z.1.toList,(mixKind prog w).is k e.2 = true
 lt:z.1.size < scanBound
 fits:z.2.2.fits z.1.size = true
 size:z.1.size = ks.length
 nd:ks.Nodup
 tame:Tame z.2.2
 led:z.2.2.led = !w.params.followText "set-order"
noncomputable def O.rep (prog:Program) (w:World) (h:Heap) (a:Addr):O→Prop
 | .list xs=>∃ items,h.IsList a items∧(∃ o,h.get? a = some o∧o.dict = .none∧o.slots = #[])∧Reps h xs items.toList
 | .dict ep es=>(a == sysModules) = false∧∃ kvs,h.DictAt (mixKind prog w) a kvs ep∧kvs.map (·.1) = es.map (·.1)∧Reps h (es.map (·.2)) (kvs.map (·.2))
 | .set z ks=>∃ o,h.get? a = some o∧o.ExactSet∧o.data = .set z.1 z.2.1 z.2.2∧SetInv prog w z ks
 | .inst c d=>∃ o,h.get? a = some o∧o.cls = .ref c∧o.dict = some d∧o.data = .plain∧o.slots = #[]
 | .ns fs=>∃ m,h.Ns1 a m∧(∀ x,m x = .none ↔ fs.lookup x = .none)∧∀ x u,fs.lookup x = some u→∃ v,m x = some v∧u.rep h v
 | .cell x=>∃ o,h.get? a = some o∧∃ y,o.data = .cell y∧match x with | .none=>y = .none | some u=>∃ v,y = some v∧u.rep h v
 | .range x y z=>∃ t u v,IsRange h a x y z t u v
 | .view k d=>∃ o,h.get? a = some o∧o.cls = .type k∧o.data = .fields #[.ref d]
 | .obj o=>h.get? a = some o∧Mine.Obj.fixed o
structure Tk where
 toks:Nat
 drawn:Drawn
 gens:Array GenState
noncomputable abbrev sw (s:Shared) (h:Heap) (k:Tk):Shared:={ s with heap:=h,toks:=k.toks,drawn:=k.drawn,gens:=k.gens }
noncomputable abbrev tkn (s:Shared) (n:Nat):Tk:=⟨n,s.drawn,s.gens⟩
structure St where
 m:List (Str × V)
 H:List (Addr × O)
noncomputable abbrev dom (H:List (Addr × O)):List Addr:=H.map (·.1)
structure Ctx where
 prog:Program
 w:World
 A:Around
 env:Env
 G:Addr→Option Obj
 fuel:Nat
 hh:A.handled = .none
 hd:A.depth + fuel < recursionLimit
 hu:A.units + 40 * fuel + 400 < cLine
 hk:env.scope.kind = .function
noncomputable def Ctx.Knows (c:Ctx) (P:Heap→Prop):Prop:=∀ h:Heap,(∀ b o,c.G b = some o→h.get? b = some o)→P h
structure Fp (L:Addr) (H H':List (Addr × O)) (h h':Heap):Prop where
 keep:∀ b o,b∉dom H→b≠L→h.get? b = some o→h'.get? b = some o
 dom:∀ b,b∈dom H'→b∈dom H ∨ h.get? b = .none
 alive:∀ b o,h.get? b = some o→∃ o',h'.get? b = some o'
theorem bare_of {a b:Array GenState} (h:a = b) (x:AllBare b):AllBare a:=h ▸ x
structure Rel (c:Ctx) (st:St) (s:Shared):Prop where
 loc:∃ m',s.heap.Ns c.env.locals m'∧∀ x u,st.m.lookup x = some u→∃ v,m' x = some v∧u.rep s.heap v
 obj:∀ a o,(a,o)∈st.H→o.rep c.prog c.w s.heap a
 nd:(dom st.H).Nodup
 apart:∀ a,a∈dom st.H→a≠c.env.locals∧c.G a = .none
 keep:∀ b o,c.G b = some o→s.heap.get? b = some o
 gl:c.G c.env.locals = .none
 bare:AllBare s.gens
theorem Fp.refl (L:Addr) (H:List (Addr × O)) (h:Heap):Fp L H H h h:=⟨fun _ _ _ _ e=>e,fun _ hb=>.inl hb,fun _ o e=>⟨o,e⟩⟩
theorem O.rep.some {prog:Program} {w:World} {h:Heap} {a:Addr} {o:O} (r:o.rep prog w h a):∃ ob,h.get? a = some ob∧∀ c items n,¬ (ob.cls = clsOf c∧ob.data = .seq items n):=by
 cases o with
 | list xs=>
  obtain ⟨items,⟨o,ho,hc,n,hd⟩,_⟩:=r
  refine ⟨o,ho,fun c items n q=>?_⟩
  rw [hc] at q
  cases c with
  | none=>exact absurd q.1 (by unfold clsOf; simp)
  | some c=>exact absurd q.1 (by unfold clsOf; simp)
 | dict ep es=>obtain ⟨_,kvs,⟨o,des,ho,_,hd,_⟩,_⟩:=r; exact ⟨o,ho,fun c items n q=>by rw [hd] at q; cases q.2⟩
 | range x y z=>obtain ⟨t,u,v,ho⟩:=r; exact ⟨_,ho,fun c items n q=>by cases q.2⟩
 | view k d=>obtain ⟨o,ho,_,hd⟩:=r; exact ⟨o,ho,fun c items n q=>by rw [hd] at q; cases q.2⟩
 | set z ks=>
  obtain ⟨o,ho,_,hd,_⟩:=r
  exact ⟨o,ho,fun c items n q=>by rw [hd] at q; cases q.2⟩
 | inst c d=>obtain ⟨o,ho,_,_,hd,_⟩:=r; exact ⟨o,ho,fun c items n q=>by rw [hd] at q; cases q.2⟩
 | ns fs=>obtain ⟨m,⟨o,es,ep,ho,hd,_⟩,_⟩:=r; exact ⟨o,ho,fun c items n q=>by rw [hd] at q; cases q.2⟩
 | cell x=>obtain ⟨o,ho,y,hd,_⟩:=r; exact ⟨o,ho,fun c items n q=>by rw [hd] at q; cases q.2⟩
 | obj o=>
  refine ⟨o,r.1,fun c items n q=>?_⟩
  have:=r.2
  unfold Mine.Obj.fixed at this
  rw [q.2] at this
  exact this
section
variable {c:Ctx} {st:St} {s:Shared}
theorem Rel.frame (R:Rel c st s):∃ o es ep,s.heap.get? c.env.locals = some o∧o.data = .dict es ep:=by
 obtain ⟨m',⟨o,es,ep,ho,hd,_⟩,_⟩:=R.loc
 exact ⟨o,es,ep,ho,hd⟩
theorem Rel.tup_out (R:Rel c st s) {k:Option Addr} {a:Addr} {items:Array Value} (h:IsTupOf s.heap k a items):a∉dom st.H∧a≠c.env.locals:=by
 obtain ⟨o,n,ho,hc,hd⟩:=h
 constructor
 ·intro q
  obtain ⟨⟨b,ob⟩,hp,e⟩:=List.mem_map.mp q
  cases (e:b = a)
  obtain ⟨o',ho',nt⟩:=(R.obj _ _ hp).some
  rw [ho] at ho'
  cases ho'
  exact nt _ _ _ ⟨hc,hd⟩
 ·intro q
  obtain ⟨o',es,ep,ho',hd'⟩:=R.frame
  subst q
  rw [ho] at ho'
  cases ho'
  rw [hd] at hd'
  cases hd'
theorem V.rep_fp {u:V} {v:Value} {H':List (Addr × O)} {h':Heap} (r:u.rep s.heap v) (R:Rel c st s) (F:Fp c.env.locals st.H H' s.heap h'):u.rep h' v:=by
 cases u with
 | «at» x=>exact r
 | tup k xs=>
  obtain ⟨a,items,rfl,ht,hr⟩:=r
  obtain ⟨h1,h2⟩:=R.tup_out ht
  obtain ⟨o,n,ho,q⟩:=ht
  exact ⟨a,items,rfl,⟨o,n,F.keep _ _ h1 h2 ho,q⟩,hr⟩
theorem Reps.fp {H':List (Addr × O)} {h':Heap} (R:Rel c st s) (F:Fp c.env.locals st.H H' s.heap h'):∀ {us:List V} {vs:List Value},Reps s.heap us vs→Reps h' us vs
 | [],_,e=>e
 | _ :: _,_,⟨v,r,e,hv,hr⟩=>⟨v,r,e,V.rep_fp hv R F,Reps.fp R F hr⟩
theorem Fp.trans {L:Addr} {H H₁ H₂:List (Addr × O)} {h h₁ h₂:Heap} (F:Fp L H H₁ h h₁) (hL:∃ o,h₁.get? L = some o) (F':Fp L H₁ H₂ h₁ h₂):Fp L H H₂ h h₂ where
 alive:=fun b o e=>let ⟨o',e'⟩:=F.alive b o e; F'.alive b o' e'
 keep:=fun b o hb hL e=>F'.keep b o (fun q=>(F.dom b q).elim hb (fun n=>by rw [n] at e; cases e)) hL (F.keep b o hb hL e)
 dom:=fun b hb=>(F'.dom b hb).elim (F.dom b) fun n=>by
  cases q:h.get? b with
  | none=>exact .inr rfl
  | some o=>
   by_cases hm:b∈Mine.dom H
   ·exact .inl hm
   ·by_cases e:b = L
    ·subst e
     obtain ⟨o',ho'⟩:=hL
     rw [n] at ho'; cases ho'
    ·have:=F.keep b o hm e q
     rw [n] at this; cases this
theorem Rel.hasL (R:Rel c st s):∃ o,s.heap.get? c.env.locals = some o:=let ⟨o,_,_,ho,_⟩:=R.frame; ⟨o,ho⟩
theorem Rel.lt (R:Rel c st s) {a:Addr} (h:a∈dom st.H):∃ o,s.heap.get? a = some o:=by
 obtain ⟨⟨b,ob⟩,hp,e⟩:=List.mem_map.mp h
 cases (e:b = a)
 obtain ⟨o',ho',_⟩:=(R.obj _ _ hp).some
 exact ⟨o',ho'⟩
theorem O.rep_keep {o:O} {a:Addr} {H':List (Addr × O)} {h':Heap} {prog:Program} {w:World} (r:o.rep prog w s.heap a) (R:Rel c st s) (F:Fp c.env.locals st.H H' s.heap h') (hk:∀ ob,s.heap.get? a = some ob→h'.get? a = some ob):o.rep prog w h' a:=by
 cases o with
 | list xs=>
  obtain ⟨items,⟨o,ho,hc,n,hd⟩,⟨o2,ho2,q⟩,hr⟩:=r
  exact ⟨items,⟨o,hk _ ho,hc,n,hd⟩,⟨o2,hk _ ho2,q⟩,Reps.fp R F hr⟩
 | dict ep es=>obtain ⟨h0,kvs,hm,h1,h2⟩:=r; exact ⟨h0,kvs,hm.at' hk,h1,Reps.fp R F h2⟩
 | range x y z=>obtain ⟨t,u,v,ho⟩:=r; exact ⟨t,u,v,hk _ ho⟩
 | view k d=>obtain ⟨o,ho,q⟩:=r; exact ⟨o,hk _ ho,q⟩
 | set z ks=>obtain ⟨o,ho,q⟩:=r; exact ⟨o,hk _ ho,q⟩
 | inst c d=>obtain ⟨o,ho,q⟩:=r; exact ⟨o,hk _ ho,q⟩
 | ns fs=>
  obtain ⟨m,hm,q,hr⟩:=r
  exact ⟨m,hm.at hk,q,fun x u hu=>let ⟨v,h1,h2⟩:=hr x u hu; ⟨v,h1,V.rep_fp h2 R F⟩⟩
 | cell x=>
  obtain ⟨o,ho,y,hd,q⟩:=r
  refine ⟨o,hk _ ho,y,hd,?_⟩
  cases x with
  | none=>exact q
  | some u=>obtain ⟨v,h1,h2⟩:=q; exact ⟨v,h1,V.rep_fp h2 R F⟩
 | obj o=>exact ⟨hk _ r.1,r.2⟩
theorem Rel.change (R:Rel c st s) {m2:List (Str × V)} {H':List (Addr × O)} {h':Heap} (tk:Tk) (F:Fp c.env.locals st.H H' s.heap h')
  (hloc:∃ m',h'.Ns c.env.locals m'∧∀ x u,m2.lookup x = some u→∃ v,m' x = some v∧u.rep h' v)
  (hobj:∀ a o,(a,o)∈H'→o.rep c.prog c.w h' a) (nd:(dom H').Nodup) (hb:AllBare tk.gens):Rel c ⟨m2,H'⟩ (sw s h' tk) where
 loc:=hloc
 obj:=hobj
 nd:=nd
 apart:=fun a ha=>by
  rcases F.dom a ha with h | h
  ·exact R.apart a h
  ·constructor
   ·intro e; subst e; obtain ⟨o,ho⟩:=R.hasL; rw [h] at ho; cases ho
   ·cases q:c.G a with
    | none=>rfl
    | some o=>have:=R.keep a o q; rw [h] at this; cases this
 keep:=fun b o e=>F.keep b o (fun q=>by rw [(R.apart b q).2] at e; cases e) (fun q=>by subst q; rw [R.gl] at e; cases e) (R.keep b o e)
 gl:=R.gl
 bare:=hb
theorem Rel.toks (R:Rel c st s) (tk:Tk) (hg:autoParam (tk.gens = s.gens) auRfl):Rel c st (sw s s.heap tk):=⟨R.loc,R.obj,R.nd,R.apart,R.keep,R.gl,bare_of hg R.bare⟩
theorem Fp.grow {L:Addr} {H:List (Addr × O)} {h h':Heap} (hk:∀ b o,h.get? b = some o→h'.get? b = some o):Fp L H H h h':=⟨fun b o _ _ e=>hk b o e,fun _ hb=>.inl hb,fun b o e=>⟨o,hk b o e⟩⟩
theorem Rel.grow (R:Rel c st s) {h':Heap} (tk:Tk) (hk:∀ b o,s.heap.get? b = some o→h'.get? b = some o) (hg:autoParam (tk.gens = s.gens) auRfl):Rel c st (sw s h' tk):=
 have F:=Fp.grow (L:=c.env.locals) (H:=st.H) hk
 R.change tk F (let ⟨m',hm,q⟩:=R.loc; ⟨m',hm.keeps hk,fun x u e=>let ⟨v,h1,h2⟩:=q x u e; ⟨v,h1,V.rep_fp h2 R F⟩⟩)
  (fun a o ho=>O.rep_keep (R.obj a o ho) R F fun ob e=>hk _ _ e) R.nd (bare_of hg R.bare)
theorem Fp.new {L:Addr} {H:List (Addr × O)} {h h':Heap} {a:Addr} {o:O} (hk:∀ b o,h.get? b = some o→h'.get? b = some o) (ha:h.get? a = .none):Fp L H ((a,o) :: H) h h':=
 ⟨fun b o _ _ e=>hk b o e,fun b hb=>by
  rcases List.mem_cons.mp hb with e | e
  ·cases (e:b = a); exact .inr ha
  ·exact .inl e,fun b o e=>⟨o,hk b o e⟩⟩
theorem Rel.new (R:Rel c st s) {h':Heap} (tk:Tk) {a:Addr} {o:O} (hk:∀ b o,s.heap.get? b = some o→h'.get? b = some o) (ha:s.heap.get? a = .none) (ho:o.rep c.prog c.w h' a) (hg:autoParam (tk.gens = s.gens) auRfl) :
  Rel c ⟨st.m,(a,o) :: st.H⟩ (sw s h' tk):=
 have F:=Fp.new (L:=c.env.locals) (H:=st.H) (o:=o) hk ha
 R.change tk F (let ⟨m',hm,q⟩:=R.loc; ⟨m',hm.keeps hk,fun x u e=>let ⟨v,h1,h2⟩:=q x u e; ⟨v,h1,V.rep_fp h2 R F⟩⟩)
  (fun b ob hb=>by
   rcases List.mem_cons.mp hb with e | e
   ·cases e; exact ho
   ·exact O.rep_keep (R.obj b ob e) R F fun x e=>hk _ _ e)
  (List.nodup_cons.mpr ⟨fun q=>(by obtain ⟨o',ho'⟩:=R.lt q; rw [ha] at ho'; exact nomatch ho'),R.nd⟩) (bare_of hg R.bare)
theorem Fp.frame {L:Addr} {H:List (Addr × O)} {h h':Heap} (hs:Heap.SameBut L h h') (hL:∃ o,h'.get? L = some o):Fp L H H h h':=⟨fun b o _ hL e=>(hs.2 b hL).trans e,fun _ hb=>.inl hb,fun b o e=>if q:b = L then q ▸ hL else ⟨o,(hs.2 b q).trans e⟩⟩
theorem Rel.store (R:Rel c st s) {h':Heap} (tk:Tk) {x:Str} {u:V} {v:Value} (hv:u.rep s.heap v) (hs:Heap.SameBut c.env.locals s.heap h')
  {m':Str→Option Value} (q:∀ x u,st.m.lookup x = some u→∃ v,m' x = some v∧u.rep s.heap v) (hn:h'.Ns c.env.locals (fun y=>if y = x then some v else m' y)) (hg:autoParam (tk.gens = s.gens) auRfl):Rel c ⟨(x,u) :: st.m,st.H⟩ (sw s h' tk):=
 have F:=Fp.frame (H:=st.H) hs (let ⟨o,_,_,ho,_⟩:=hn; ⟨o,ho⟩)
 R.change tk F (⟨_,hn,fun y u' e=>by
   rw [List.lookup_cons] at e
   cases hb:y == x with
   | true=>
    rw [hb] at e; cases e
    exact ⟨v,if_pos (beq_iff_eq.mp hb),V.rep_fp hv R F⟩
   | false=>
    rw [hb] at e
    obtain ⟨v',h1,h2⟩:=q y u' e
    refine ⟨v',?_,V.rep_fp h2 R F⟩
    have:y≠x:=fun q=>by subst q; simp at hb
    exact (if_neg this).trans h1⟩)
  (fun a o ho=>O.rep_keep (R.obj a o ho) R F fun ob e=>(hs.2 a (R.apart a (List.mem_map.mpr ⟨_,ho,rfl⟩)).1).trans e) R.nd (bare_of hg R.bare)
inductive Upd (a:Addr) (o o':O):List (Addr × O)→List (Addr × O)→Prop
 | head (r:List (Addr × O)):Upd a o o' ((a,o) :: r) ((a,o') :: r)
 | tail {p:Addr × O} {r r':List (Addr × O)}:Upd a o o' r r'→Upd a o o' (p :: r) (p :: r')
theorem Upd.mem {a:Addr} {o o':O} {H H':List (Addr × O)} (u:Upd a o o' H H'):(a,o)∈H:=by
 induction u with
 | head=>exact .head _
 | tail _ ih=>exact .tail _ ih
theorem Upd.dom {a:Addr} {o o':O} {H H':List (Addr × O)} (u:Upd a o o' H H'):Mine.dom H' = Mine.dom H:=by
 induction u with
 | head=>rfl
 | tail _ ih=>simp only [Mine.dom,List.map_cons] at ih ⊢; rw [ih]
theorem Upd.mem' {a b:Addr} {o o' ob:O} {H H':List (Addr × O)} (u:Upd a o o' H H') (nd:(Mine.dom H).Nodup) (h:(b,ob)∈H'):(b = a∧ob = o') ∨ (b≠a∧(b,ob)∈H):=by
 induction u with
 | head r=>
  rcases List.mem_cons.mp h with e | e
  ·cases e; exact .inl ⟨rfl,rfl⟩
  ·refine .inr ⟨fun q=>?_,.tail _ e⟩
   subst q
   exact (List.nodup_cons.mp nd).1 (List.mem_map.mpr ⟨_,e,rfl⟩)
 | @tail p r r' u ih=>
  rcases List.mem_cons.mp h with e | e
  ·refine .inr ⟨fun q=>?_,by rw [e]; exact .head _⟩
   have:p.1 = a:=by rw [← e]; exact q
   refine (List.nodup_cons.mp nd).1 ?_
   show p.1∈r.map (·.1)
   rw [this]
   exact List.mem_map.mpr ⟨_,u.mem,rfl⟩
  ·rcases ih (List.nodup_cons.mp nd).2 e with h | h
   ·exact .inl h
   ·exact .inr ⟨h.1,.tail _ h.2⟩
inductive Spot (a:Addr) (o:O):List (Addr × O)→(O→List (Addr × O))→Prop
 | head (r:List (Addr × O)):Spot a o ((a,o) :: r) (fun x=>(a,x) :: r)
 | tail {p:Addr × O} {r:List (Addr × O)} {F:O→List (Addr × O)}:Spot a o r F→Spot a o (p :: r) (fun x=>p :: F x)
theorem Spot.upd {a:Addr} {o:O} {H:List (Addr × O)} {F:O→List (Addr × O)} (s:Spot a o H F) (x:O):Upd a o x H (F x):=by
 induction s with
 | head r=>exact .head r
 | tail _ ih=>exact .tail ih
theorem Fp.upd {L:Addr} {H H':List (Addr × O)} {h h':Heap} {a:Addr} {o o':O} (u:Upd a o o' H H') (hs:∀ b ob,b≠a→h.get? b = some ob→h'.get? b = some ob) (ha:∃ o,h'.get? a = some o):Fp L H H' h h':=
 ⟨fun b ob hb _ e=>hs b ob (fun q=>hb (q ▸ List.mem_map.mpr ⟨_,u.mem,rfl⟩)) e,fun b hb=>.inl (by rw [u.dom] at hb; exact hb),fun b o e=>if q:b = a then q ▸ ha else ⟨o,hs b o q e⟩⟩
theorem Rel.upd (R:Rel c st s) {h':Heap} (tk:Tk) {a:Addr} {o o':O} {H':List (Addr × O)} (u:Upd a o o' st.H H') (hs:∀ b ob,b≠a→s.heap.get? b = some ob→h'.get? b = some ob) (ha:∃ o,h'.get? a = some o)
  (ho:(F:Fp c.env.locals st.H H' s.heap h')→o'.rep c.prog c.w h' a) (hg:autoParam (tk.gens = s.gens) auRfl):Rel c ⟨st.m,H'⟩ (sw s h' tk):=
 have F:=Fp.upd (L:=c.env.locals) u hs ha
 R.change tk F (let ⟨m',hm,q⟩:=R.loc; ⟨m',hm.extBut (fun b ob hb e=>hs b ob hb e) (fun q=>(R.apart a (List.mem_map.mpr ⟨_,u.mem,rfl⟩)).1 q.symm),fun x u e=>let ⟨v,h1,h2⟩:=q x u e; ⟨v,h1,V.rep_fp h2 R F⟩⟩)
  (fun b ob hb=>by
   rcases u.mem' R.nd hb with ⟨rfl,rfl⟩ | ⟨hne,hm⟩
   ·exact ho F
   ·exact O.rep_keep (R.obj b ob hm) R F fun x e=>hs _ _ hne e)
  (by rw [u.dom]; exact R.nd) (bare_of hg R.bare)
theorem Rel.weaken (R:Rel c st s) {st':St} (hm:∀ x u,st'.m.lookup x = some u→st.m.lookup x = some u) (hH:∀ p∈st'.H,p∈st.H) (nd:(dom st'.H).Nodup):Rel c st' s:=
 ⟨let ⟨m',hn,q⟩:=R.loc; ⟨m',hn,fun x u e=>q x u (hm x u e)⟩,fun a o h=>R.obj a o (hH _ h),nd,
  fun a ha=>R.apart a (by obtain ⟨p,hp,e⟩:=List.mem_map.mp ha; exact e ▸ List.mem_map.mpr ⟨p,hH p hp,rfl⟩),R.keep,R.gl,R.bare⟩
end
end
section
set_option genInjectivity false
set_option genSizeOf false
noncomputable abbrev Lo:=List (Str × V)
noncomputable abbrev Hp:=List (Addr × O)
noncomputable abbrev Ctx.wp (c:Ctx) {α:Type} (t:Sem α) (P:α→Shared→Prop) (s:Shared):Prop:=wpAny (model c.prog c.w) c.A t P (fun _ _=>False) s
noncomputable def Run (c:Ctx) (H:Hp) (s:Shared) {α β:Type} (R:Heap→β→α→Prop) (t:Sem α) (Q:β→Lo→Hp→Prop):Prop:=
 ∀ P:α→Shared→Prop,(∀ b v m' H' h tk,Rel c ⟨m',H'⟩ (sw s h tk)→Fp c.env.locals H H' s.heap h→R h b v→Q b m' H'→P v (sw s h tk))→c.wp t P s
noncomputable def VR (h:Heap) (u:V) (v:Value):Prop:=u.rep h v
noncomputable def BR (_:Heap) (a b:Bool):Prop:=a = b
noncomputable def UR (_:Heap) (_:Unit) (_:Unit):Prop:=True
inductive Fl where
 | next | brk | cont | ret (v:V)
noncomputable def FR (h:Heap):Fl→Flow→Prop
 | .next,f=>f = .next
 | .brk,f=>f = .brk
 | .cont,f=>f = .cont
 | .ret u,f=>∃ v,f = .ret v∧u.rep h v
noncomputable def WPe (c:Ctx) (e:Expr) (m:Lo) (H:Hp) (Q:V→Lo→Hp→Prop):Prop:=∀ s,Rel c ⟨m,H⟩ s→Run c H s VR (eval e c.env) Q
noncomputable def WPt (c:Ctx) (e:Expr) (m:Lo) (H:Hp) (Q:Bool→Lo→Hp→Prop):Prop:=∀ s,Rel c ⟨m,H⟩ s→Run c H s BR (isTrue e c.env (eval e c.env)) Q
noncomputable def WPs (c:Ctx) (b:List Stmt) (m:Lo) (H:Hp) (Q:Fl→Lo→Hp→Prop):Prop:=∀ s,Rel c ⟨m,H⟩ s→Run c H s FR (execs b c.env) Q
noncomputable def WP1 (c:Ctx) (b:Stmt) (m:Lo) (H:Hp) (Q:Fl→Lo→Hp→Prop):Prop:=∀ s,Rel c ⟨m,H⟩ s→Run c H s FR (exec b c.env) Q
noncomputable def On1 (c:Ctx) (a:V) {α β:Type} (R:Heap→β→α→Prop) (t:Value→Sem α) (m:Lo) (H:Hp) (Q:β→Lo→Hp→Prop):Prop:=∀ s va,Rel c ⟨m,H⟩ s→a.rep s.heap va→Run c H s R (t va) Q
noncomputable def On2 (c:Ctx) (a b:V) {α β:Type} (R:Heap→β→α→Prop) (t:Value→Value→Sem α) (m:Lo) (H:Hp) (Q:β→Lo→Hp→Prop):Prop:=∀ s va vb,Rel c ⟨m,H⟩ s→a.rep s.heap va→b.rep s.heap vb→Run c H s R (t va vb) Q
noncomputable abbrev Op2 (c:Ctx) (op:Operator) (a b:V) (m:Lo) (H:Hp) (Q:V→Lo→Hp→Prop):Prop:=On2 c a b VR (binaryOp op) m H Q
noncomputable abbrev Cmp (c:Ctx) (op:CmpOp) (a b:V) (m:Lo) (H:Hp) (Q:V→Lo→Hp→Prop):Prop:=On2 c a b VR (compareOp op) m H Q
noncomputable abbrev Tru (c:Ctx) (a:V) (m:Lo) (H:Hp) (Q:Bool→Lo→Hp→Prop):Prop:=On1 c a BR truthy m H Q
noncomputable def Sees (c:Ctx) (H:Hp) (a:Addr) (o:O):Prop:=∀ m s,Rel c ⟨m,H⟩ s→o.rep c.prog c.w s.heap a
theorem Sees.mem {c:Ctx} {H:Hp} {a:Addr} {o:O} (h:(a,o)∈H):Sees c H a o:=fun _ _ R=>R.obj a o h
theorem Sees.known {c:Ctx} {H:Hp} {a:Addr} {o:O} (h:c.Knows fun h=>o.rep c.prog c.w h a):Sees c H a o:=fun _ s R=>h s.heap R.keep
theorem Rel.lift {c:Ctx} {st:St} {s:Shared} {H':Hp} {h':Heap} {u:V} {v:Value} (R:Rel c st s) (F:Fp c.env.locals st.H H' s.heap h') (r:VR s.heap u v):u.rep h' v:=V.rep_fp r R F
theorem Rel.liftL {c:Ctx} {st:St} {s:Shared} {H':Hp} {h':Heap} {us:List V} {vs:List Value} (R:Rel c st s) (F:Fp c.env.locals st.H H' s.heap h') (r:Reps s.heap us vs):Reps h' us vs:=Reps.fp R F r
section
variable {c:Ctx} {m:Lo} {H:Hp} {s:Shared} {α β:Type} {Rr:Heap→β→α→Prop}
theorem Run.done {t:Sem α} {Q:β→Lo→Hp→Prop} (R:Rel c ⟨m,H⟩ s) {b:β} {v:α} (h:∀ P:α→Shared→Prop,P v s→c.wp t P s) (r:Rr s.heap b v) (q:Q b m H):Run c H s Rr t Q:=
 fun P k=>h P (k b v m H s.heap (tkn s s.toks) R (.refl ..) r q)
theorem Run.val {t:Sem α} {Q:β→Lo→Hp→Prop} (R:Rel c ⟨m,H⟩ s) {b:β} (q:Q b m H) (h:∀ P:α→Shared→Prop,(∀ v tk,Rr s.heap b v→P v { s with toks:=tk })→c.wp t P s):Run c H s Rr t Q:=
 fun P k=>h P fun v tk r=>k b v m H s.heap (tkn s tk) (R.toks (tkn s tk)) (.refl ..) r q
theorem Run.grow {t:Sem α} {Q:β→Lo→Hp→Prop} (R:Rel c ⟨m,H⟩ s) {b:β} (q:Q b m H) (h:∀ P:α→Shared→Prop,(∀ v h' tk,(∀ a o,s.heap.get? a = some o→h'.get? a = some o)→Rr h' b v→P v { s with heap:=h',toks:=tk })→c.wp t P s):Run c H s Rr t Q:=
 fun P k=>h P fun v h' tk hk r=>k b v m H h' (tkn s tk) (R.grow (tkn s tk) hk) (.grow hk) r q
theorem Run.new {t:Sem α} {Q:β→Lo→Hp→Prop} (R:Rel c ⟨m,H⟩ s) {o:O} {b:Addr→β} (q:∀ a,Q (b a) m ((a,o) :: H))
  (h:∀ P:α→Shared→Prop,(∀ a v h' tk,(∀ a o,s.heap.get? a = some o→h'.get? a = some o)→s.heap.get? a = .none→o.rep c.prog c.w h' a→Rr h' (b a) v→P v { s with heap:=h',toks:=tk })→c.wp t P s):Run c H s Rr t Q:=
 fun P k=>h P fun a v h' tk hk ha ho r=>k (b a) v m ((a,o) :: H) h' (tkn s tk) (R.new (tkn s tk) hk ha ho) (.new hk ha) r (q a)
theorem Run.upd {t:Sem α} {Q:β→Lo→Hp→Prop} (R:Rel c ⟨m,H⟩ s) {a:Addr} {o o':O} {H':Hp} (u:Upd a o o' H H') {b:β} (q:Q b m H')
  (h:∀ P:α→Shared→Prop,(∀ v h' tk,(∀ b ob,b≠a→s.heap.get? b = some ob→h'.get? b = some ob)→(∃ o,h'.get? a = some o)→(Fp c.env.locals H H' s.heap h'→o'.rep c.prog c.w h' a)→Rr h' b v→P v { s with heap:=h',toks:=tk })→c.wp t P s):Run c H s Rr t Q:=
 fun P k=>h P fun v h' tk hs ha ho r=>k b v m H' h' (tkn s tk) (R.upd (tkn s tk) u hs ha ho) (.upd u hs ha) r q
theorem WPe.mono {e:Expr} {Q Q':V→Lo→Hp→Prop} (h:WPe c e m H Q) (hQ:∀ v m H,Q v m H→Q' v m H):WPe c e m H Q':=
 fun s R P k=>h s R P fun b v m' H' h tk R' F r q=>k b v m' H' h tk R' F r (hQ _ _ _ q)
theorem WPt.mono {e:Expr} {Q Q':Bool→Lo→Hp→Prop} (h:WPt c e m H Q) (hQ:∀ v m H,Q v m H→Q' v m H):WPt c e m H Q':=
 fun s R P k=>h s R P fun b v m' H' h tk R' F r q=>k b v m' H' h tk R' F r (hQ _ _ _ q)
theorem WPs.mono {b:List Stmt} {Q Q':Fl→Lo→Hp→Prop} (h:WPs c b m H Q) (hQ:∀ v m H,Q v m H→Q' v m H):WPs c b m H Q':=
 fun s R P k=>h s R P fun b v m' H' h tk R' F r q=>k b v m' H' h tk R' F r (hQ _ _ _ q)
theorem On1.mono {a:V} {t:Value→Sem α} {Q Q':β→Lo→Hp→Prop} (h:On1 c a Rr t m H Q) (hQ:∀ v m H,Q v m H→Q' v m H):On1 c a Rr t m H Q':=
 fun s va R r P k=>h s va R r P fun b v m' H' h tk R' F r q=>k b v m' H' h tk R' F r (hQ _ _ _ q)
noncomputable def Less (m:Lo) (H:Hp) (m':Lo) (H':Hp):Prop:=(∀ x u,m'.lookup x = some u→m.lookup x = some u)∧(∀ p∈H',p∈H)∧((dom H).Nodup→(dom H').Nodup)
theorem Fp.less {L:Addr} {H H' H2:Hp} {h h':Heap} (F:Fp L H' H2 h h') (hH:∀ p∈H',p∈H):Fp L H H2 h h':=
 ⟨fun b o hb hL e=>F.keep b o (fun q=>hb (by obtain ⟨p,hp,e⟩:=List.mem_map.mp q; exact e ▸ List.mem_map.mpr ⟨p,hH p hp,rfl⟩)) hL e,
  fun b hb=>(F.dom b hb).imp (fun q=>by obtain ⟨p,hp,e⟩:=List.mem_map.mp q; exact e ▸ List.mem_map.mpr ⟨p,hH p hp,rfl⟩) id,F.alive⟩
theorem WPs.less {b:List Stmt} {Q:Fl→Lo→Hp→Prop} {m':Lo} {H':Hp} (l:Less m H m' H') (h:WPs c b m' H' Q):WPs c b m H Q:=
 fun s R P k=>h s (R.weaken l.1 l.2.1 (l.2.2 R.nd)) P fun b v m' H2 h tk R' F r q=>k b v m' H2 h tk R' (F.less l.2.1) r q
end
section
variable {c:Ctx} {m:Lo} {H:Hp} {pos:Pos}
theorem e_int {i:Int} {k:Nat} {Q:V→Lo→Hp→Prop} (h:Q (.int i) m H):WPe c (.Constant (.int i) k pos) m H Q:=
 fun s R=>.val R h fun P k=>wpAny_Constant_int (k _ _ ⟨_,rfl⟩)
theorem e_str {x:Str} {k:Nat} {Q:V→Lo→Hp→Prop} (h:Q (.str x) m H):WPe c (.Constant (.str x) k pos) m H Q:=
 fun s R=>.val R h fun P k=>wpAny_Constant_str (k _ _ ⟨_,rfl⟩)
theorem e_none {k:Nat} {Q:V→Lo→Hp→Prop} (h:Q .none m H):WPe c (.Constant .none k pos) m H Q:=
 fun s R=>.val R h fun P k=>wpAny_Constant_none (k _ _ rfl)
theorem e_bool {b:Bool} {k:Nat} {Q:V→Lo→Hp→Prop} (h:Q (.bool b) m H):WPe c (.Constant (.bool b) k pos) m H Q:=
 fun s R=>.val R h fun P k=>wpAny_Constant_bool (k _ _ rfl)
theorem e_local {x:Str} {u:V} {Q:V→Lo→Hp→Prop} (hl:c.env.kindOf x = some .local) (hv:m.lookup x = some u) (h:Q u m H)
  (hd:autoParam ((x == ("__debug__":Str)) = false) auDec):WPe c (.Name x pos) m H Q:=fun s R=>by
 obtain ⟨m',hn,q⟩:=R.loc
 obtain ⟨v,h1,h2⟩:=q x u hv
 exact .done R (fun P p=>wpAny_Name (wpAny_loadName_local c.hk hl hn h1 p) hd) h2 h
noncomputable def cellAt (c:Ctx) (x:Str):Option Addr:=match c.env.kindOf x with
 | some .cell=>c.env.cells.lookup x
 | some .free=>if (x == ("__classdict__":Str)) = true then .none else c.env.cells.lookup x
 | _=>.none
theorem cellAt_cases {x:Str} {a:Addr} (h:cellAt c x = some a):c.env.cells.lookup x = some a∧(c.env.kindOf x = some .cell ∨ (c.env.kindOf x = some .free∧(x == ("__classdict__":Str)) = false)):=by
 delta cellAt at h
 cases k:c.env.kindOf x with
 | none=>rw [k] at h; cases h
 | some kd=>
  rw [k] at h
  cases kd with
  | cell=>exact ⟨h,.inl rfl⟩
  | free=>
   refine (fun (h:(if (x == ("__classdict__":Str)) = true then Option.none else c.env.cells.lookup x) = some a)=>?_) h
   by_cases q:(x == ("__classdict__":Str)) = true
   ·rw [if_pos q] at h; cases h
   ·rw [if_neg q] at h; exact ⟨h,.inr ⟨rfl,Bool.eq_false_iff.mpr q⟩⟩
  | _=>cases h
theorem e_cell {x:Str} {a:Addr} {u:V} {Q:V→Lo→Hp→Prop} (hc:cellAt c x = some a) (hv:Sees c H a (.cell (some u))) (h:Q u m H)
  (hd:autoParam ((x == ("__debug__":Str)) = false) auDec):WPe c (.Name x pos) m H Q:=fun s R=>by
 obtain ⟨o,ho,y,hy,v,rfl,hr⟩:=hv m s R
 obtain ⟨hl,hk⟩:=cellAt_cases hc
 rcases hk with hk | ⟨hk,hn⟩
 ·exact .done R (fun P p=>wpAny_Name (wpAny_loadName_cell c.hk hk hl ⟨o,ho,hy⟩ p) hd) hr h
 ·exact .done R (fun P p=>wpAny_Name (wpAny_loadName_free c.hk hk hl ⟨o,ho,hy⟩ p hn) hd) hr h
noncomputable def Glob (c:Ctx) (x:Str) (u:At):Prop:=c.env.kindOf x = some .globalImplicit∧c.Knows fun h=>∀ (s:Shared) (P:Value→Shared→Prop),s.heap = h→(∀ v,u.rep v→P v s)→c.wp (loadGlobal c.env x) P s
theorem e_glob {x:Str} {u:At} {Q:V→Lo→Hp→Prop} (hg:Glob c x u) (h:Q (.at u) m H) (hd:autoParam ((x == ("__debug__":Str)) = false) auDec):WPe c (.Name x pos) m H Q:=
 fun s R=>.val R h fun P k=>Name_function_global c.hk hg.1 (hg.2 s.heap R.keep s P rfl fun v hv=>k v s.toks hv) hd
theorem e_binop {l r:Expr} {op:Operator} {Q:V→Lo→Hp→Prop} (h:WPe c l m H fun a m1 H1=>WPe c r m1 H1 fun b m2 H2=>Op2 c op a b m2 H2 Q):WPe c (.BinOp l op r pos) m H Q:=
 fun s R P k=>wpAny_BinOp (h s R _ fun a va m1 H1 h1 tk1 R1 F1 r1 q1=>q1 _ R1 _ fun b vb m2 H2 h2 tk2 R2 F2 r2 q2=>q2 _ va vb R2 (R1.lift F2 r1) r2 P
  fun v v' m3 H3 h3 tk3 R3 F3 r3 q3=>k v v' m3 H3 h3 tk3 R3 ((F1.trans R1.hasL F2).trans R2.hasL F3) r3 q3)
theorem e_cmp {l r:Expr} {op:CmpOp} {Q:V→Lo→Hp→Prop} (h:WPe c l m H fun a m1 H1=>WPe c r m1 H1 fun b m2 H2=>Cmp c op a b m2 H2 Q)
  (hm:autoParam (behindInMarks op r = false) auAll):WPe c (.Compare l [op] [r] pos) m H Q:=
 fun s R P k=>wpAny_Compare1 (h s R _ fun a va m1 H1 h1 tk1 R1 F1 r1 q1=>q1 _ R1 _ fun b vb m2 H2 h2 tk2 R2 F2 r2 q2=>q2 _ va vb R2 (R1.lift F2 r1) r2 P
  fun v v' m3 H3 h3 tk3 R3 F3 r3 q3=>k v v' m3 H3 h3 tk3 R3 ((F1.trans R1.hasL F2).trans R2.hasL F3) r3 q3) hm
theorem e_ifexp {t a b:Expr} {Q:V→Lo→Hp→Prop} (h:WPt c t m H fun x m1 H1=>if x then WPe c a m1 H1 Q else WPe c b m1 H1 Q):WPe c (.IfExp t a b pos) m H Q:=
 fun s R P k=>wpAny_IfExp (h s R _ fun x vx m1 H1 h1 tk1 R1 F1 r1 q1=>by
  cases r1
  cases x <;> exact q1 _ R1 P fun v v' m3 H3 h3 tk3 R3 F3 r3 q3=>k v v' m3 H3 h3 tk3 R3 (F1.trans R1.hasL F3) r3 q3)
theorem t_value {e:Expr} {Q:Bool→Lo→Hp→Prop} (h:WPe c e m H fun a m1 H1=>Tru c a m1 H1 Q)
  (he:autoParam (∀ whole,isTrue e c.env whole = (do let v ← whole; standAt e.pos; holding [v] (truthy v))) auFun):WPt c e m H Q:=
 fun s R P k=>wpAny_isTrue_value (h s R _ fun a va m1 H1 h1 tk1 R1 F1 r1 q1=>q1 _ va R1 r1 P fun v v' m3 H3 h3 tk3 R3 F3 r3 q3=>k v v' m3 H3 h3 tk3 R3 (F1.trans R1.hasL F3) r3 q3) (he _)
theorem t_cmp {l r:Expr} {op:CmpOp} {Q:Bool→Lo→Hp→Prop} (h:WPe c l m H fun a m1 H1=>WPe c r m1 H1 fun b m2 H2=>Cmp c op a b m2 H2 fun d m3 H3=>Tru c d m3 H3 Q)
  (hm:autoParam (behindInMarks op r = false) auAll):WPt c (.Compare l [op] [r] pos) m H Q:=
 fun s R P k=>wpAny_isTrue_Compare1 (h s R _ fun a va m1 H1 h1 tk1 R1 F1 r1 q1=>q1 _ R1 _ fun b vb m2 H2 h2 tk2 R2 F2 r2 q2=>q2 _ va vb R2 (R1.lift F2 r1) r2 _
  fun v v' m3 H3 h3 tk3 R3 F3 r3 q3=>q3 _ v' R3 r3 P fun v v' m4 H4 h4 tk4 R4 F4 r4 q4=>k v v' m4 H4 h4 tk4 R4 (((F1.trans R1.hasL F2).trans R2.hasL F3).trans R3.hasL F4) r4 q4) hm
theorem t_not {x:Expr} {Q:Bool→Lo→Hp→Prop} (h:WPt c x m H fun b m1 H1=>Q (!b) m1 H1):WPt c (.UnaryOp .Not x pos) m H Q:=
 fun s R P k=>wpAny_isTrue_Not (h s R _ fun x vx m1 H1 h1 tk1 R1 F1 r1 q1=>by cases r1; exact k _ _ m1 H1 h1 tk1 R1 F1 rfl q1)
noncomputable def WPall (c:Ctx) (op:BoolOp) (es:List Expr) (m:Lo) (H:Hp) (Q:Bool→Lo→Hp→Prop):Prop:=∀ s,Rel c ⟨m,H⟩ s→Run c H s BR (allTrue op es c.env) Q
theorem t_bool {op:BoolOp} {es:List Expr} {Q:Bool→Lo→Hp→Prop} (h:WPall c op es m H Q):WPt c (.BoolOp op es pos) m H Q:=
 fun s R P k=>wpAny_isTrue_BoolOp (h s R P k)
theorem all_and_nil {Q:Bool→Lo→Hp→Prop} (h:Q true m H):WPall c .And [] m H Q:=fun s R=>.done R (fun P p=>wpAny_allTrue_And_nil p) rfl h
theorem all_or_nil {Q:Bool→Lo→Hp→Prop} (h:Q false m H):WPall c .Or [] m H Q:=fun s R=>.done R (fun P p=>wpAny_allTrue_Or_nil p) rfl h
theorem all_and {x:Expr} {r:List Expr} {Q:Bool→Lo→Hp→Prop} (h:WPt c x m H fun b m1 H1=>if b then WPall c .And r m1 H1 Q else Q false m1 H1):WPall c .And (x :: r) m H Q:=
 fun s R P k=>wpAny_allTrue_And_cons (h s R _ fun x vx m1 H1 h1 tk1 R1 F1 r1 q1=>by
  cases r1
  cases x
  ·exact k _ _ m1 H1 h1 tk1 R1 F1 rfl q1
  ·exact q1 _ R1 P fun v v' m3 H3 h3 tk3 R3 F3 r3 q3=>k v v' m3 H3 h3 tk3 R3 (F1.trans R1.hasL F3) r3 q3)
theorem all_or {x:Expr} {r:List Expr} {Q:Bool→Lo→Hp→Prop} (h:WPt c x m H fun b m1 H1=>if b then Q true m1 H1 else WPall c .Or r m1 H1 Q):WPall c .Or (x :: r) m H Q:=
 fun s R P k=>wpAny_allTrue_Or_cons (h s R _ fun x vx m1 H1 h1 tk1 R1 F1 r1 q1=>by
  cases r1
  cases x
  ·exact q1 _ R1 P fun v v' m3 H3 h3 tk3 R3 F3 r3 q3=>k v v' m3 H3 h3 tk3 R3 (F1.trans R1.hasL F3) r3 q3
  ·exact k _ _ m1 H1 h1 tk1 R1 F1 rfl q1)
theorem tru_bool {b:Bool} {Q:Bool→Lo→Hp→Prop} (h:Q b m H):Tru c (.bool b) m H Q:=fun s va R r=>by
 cases (r:va = _)
 exact .done R (fun P p=>wpAny_truthy_bool p) rfl h
noncomputable def WPitems (c:Ctx) (pos:Pos) (es:List Expr) (m:Lo) (H:Hp) (Q:List V→Lo→Hp→Prop):Prop:=∀ s,Rel c ⟨m,H⟩ s→Run c H s Reps (spliced (backTo pos (starEach es c.env))) Q
theorem items_nil {Q:List V→Lo→Hp→Prop} (h:Q [] m H):WPitems c pos [] m H Q:=fun s R=>.done R (b:=[]) (fun P p=>wpAny_items_nil p) rfl h
theorem items_cons {e:Expr} {r:List Expr} {Q:List V→Lo→Hp→Prop} (h:WPe c e m H fun a m1 H1=>WPitems c pos r m1 H1 fun as m2 H2=>Q (a :: as) m2 H2)
  (he:autoParam (starEach (e :: r) c.env = (false,eval e c.env) :: starEach r c.env) auRfl):WPitems c pos (e :: r) m H Q:=
 fun s R P k=>wpAny_items_cons (h s R _ fun a va m1 H1 h1 tk1 R1 F1 r1 q1=>q1 _ R1 _ fun as vs m2 H2 h2 tk2 R2 F2 r2 q2=>
  k (a :: as) (va :: vs) m2 H2 h2 tk2 R2 (F1.trans R1.hasL F2) (.cons (R1.lift F2 r1) r2) q2) he
end
end
theorem Ctx.hp (c:Ctx):(c.env.scope.kind == .class || (c.env.scope.kind == .module && c.env.locals != c.env.globals)) = false:=by rw [c.hk]; rfl
theorem Ctx.hi (c:Ctx):interactive c.env = false:=by unfold interactive; rw [c.hk]; rfl
section
variable {c:Ctx} {m:Lo} {H:Hp} {pos:Pos}
noncomputable abbrev Sto (c:Ctx) (x:Str) (v:V) (m:Lo) (H:Hp) (Q:Lo→Hp→Prop):Prop:=On1 c v UR (fun y=>storeName c.env x y) m H fun _=>Q
noncomputable abbrev Asg (c:Ctx) (t:Expr) (v:V) (m:Lo) (H:Hp) (Q:Lo→Hp→Prop):Prop:=On1 c v UR (fun y=>assign t c.env y) m H fun _=>Q
theorem sto_local {x:Str} {v:V} {Q:Lo→Hp→Prop} (hl:c.env.kindOf x = some .local) (h:Q ((x,v) :: m) H):Sto c x v m H Q:=fun s va R r P k=>by
 obtain ⟨m',hn,q⟩:=R.loc
 exact wpAny_storeName_local hl hn (fun h' hn' hs=>k () () _ _ h' ⟨_,_,s.gens⟩ (R.store ⟨_,_,s.gens⟩ r hs q hn') (.frame hs (let ⟨o,_,_,ho,_⟩:=hn'; ⟨o,ho⟩)) trivial h) c.hp
theorem sto_cell {x:Str} {v:V} {a:Addr} {u:Option V} {H':Hp} {Q:Lo→Hp→Prop} (hk:c.env.kindOf x = some .cell) (hl:c.env.cells.lookup x = some a) (u:Upd a (.cell u) (.cell (some v)) H H') (h:Q m H'):Sto c x v m H Q:=fun s va R r=>by
 obtain ⟨o,ho,y,hd,q⟩:=R.obj _ _ u.mem
 exact .upd R u (b:=()) h fun P k=>wpAny_storeName_cell c.hk hk hl ⟨o,ho,hd⟩ fun h' hc hs=>k () h' s.toks (fun b ob hb e=>(hs.2 b hb).trans e) (let ⟨o,ho,_⟩:=hc; ⟨o,ho⟩) (fun F=>by
  obtain ⟨o',ho',hd'⟩:=hc
  exact ⟨o',ho',_,hd',va,rfl,R.lift F r⟩) trivial
theorem asg_name {x:Str} {p:Pos} {v:V} {Q:Lo→Hp→Prop} (h:Sto c x v m H Q):Asg c (.Name x p) v m H Q:=fun s va R r P k=>wpAny_assign_Name (h s va R r P k)
noncomputable def AsgL (c:Ctx):List Expr→List V→Lo→Hp→(Lo→Hp→Prop)→Prop
 | [],[],m,H,Q=>Q m H
 | t :: ts,v :: vs,m,H,Q=>Asg c t v m H fun m1 H1=>AsgL c ts vs m1 H1 Q
 | _,_,_,_,_=>False
theorem AsgL.run:∀ {ts:List Expr} {us:List V} {m:Lo} {H:Hp} {Q:Lo→Hp→Prop},AsgL c ts us m H Q→∀ s vs,Rel c ⟨m,H⟩ s→Reps s.heap us vs →
  Run c H s UR (assignInOrder (ts.map fun t=>assign t c.env) vs) fun _=>Q
 | [],[],m,H,Q,h,s,vs,R,r=>by cases r; exact .done R (b:=()) (fun P p=>wpAny_assignInOrder_none p) trivial h
 | t :: ts,u :: us,m,H,Q,h,s,_,R,⟨v,vs,rfl,hv,hr⟩=>fun P k=>
  wpAny_assignInOrder_more (h s v R hv _ fun _ _ m1 H1 h1 tk1 R1 F1 _ q1=>AsgL.run q1 _ vs R1 (R.liftL F1 hr) P fun b v m2 H2 h2 tk2 R2 F2 r2 q2=>k b v m2 H2 h2 tk2 R2 (F1.trans R1.hasL F2) r2 q2)
 | [],_ :: _,_,_,_,h,_,_,_,_=>h.elim
 | _ :: _,[],_,_,_,h,_,_,_,_=>h.elim
theorem IsTupOf.plain {h:Heap} {a:Addr} {items:Array Value} (x:IsTupOf h .none a items):h.IsTuple a items:=let ⟨o,n,ho,hc,hd⟩:=x; ⟨o,ho,hc,n,hd⟩
theorem asg_tuple {ts:List Expr} {k1:Nat} {p:Pos} {xs:List At} {Q:Lo→Hp→Prop} (h:AsgL c ts (xs.map .at) m H Q)
  (he:autoParam ((assignEach ts c.env).map (·.2) = ts.map (fun t=>assign t c.env)) auRfl) (hs:autoParam ((assignEach ts c.env).findIdx? (·.1) = .none) auRfl) (hn:autoParam (ts.length = xs.length) auRfl):Asg c (.Tuple ts k1 p) (.tup .none xs) m H Q:=fun s va R r P k=>by
 obtain ⟨a,items,rfl,ht,hr⟩:=r
 have hl:(assignEach ts c.env).length = items.size:=by
  rw [← List.length_map (f:=(·.2)),he,List.length_map,hn,← Array.length_toList,hr.length]
 refine wpAny_assign_Tuple c.hh ht.plain hl hs fun h' hext=>?_
 have hg:∀ b o,s.heap.get? b = some o→h'.get? b = some o:=fun b o e=>hext b o (Nat.ne_of_lt (Heap.lt_size e)) e
 rw [he]
 refine AsgL.run h _ _ (R.grow (tkn s s.toks) hg) hr.reps P fun b v m2 H2 h2 tk2 R2 F2 r2 q2=>k b v m2 H2 h2 tk2 R2 ((Fp.grow hg).trans (R.grow (tkn s s.toks) hg).hasL F2) r2 q2
theorem s_nil {Q:Fl→Lo→Hp→Prop} (h:Q .next m H):WPs c [] m H Q:=fun s R=>.done R (b:=.next) (fun P p=>wpAny_execs_nil p) rfl h
theorem s_cons {st:Stmt} {r:List Stmt} {Q:Fl→Lo→Hp→Prop} (h:WP1 c st m H fun f m1 H1=>match f with | .next=>WPs c r m1 H1 Q | f=>Q f m1 H1):WPs c (st :: r) m H Q:=
 fun s R P k=>wpAny_execs_cons (h s R _ fun f vf m1 H1 h1 tk1 R1 F1 r1 q1=>by
  cases f with
  | next=>cases (r1:vf = .next); exact q1 _ R1 P fun v v' m3 H3 h3 tk3 R3 F3 r3 q3=>k v v' m3 H3 h3 tk3 R3 (F1.trans R1.hasL F3) r3 q3
  | brk=>cases (r1:vf = .brk); exact k .brk _ m1 H1 h1 tk1 R1 F1 rfl q1
  | cont=>cases (r1:vf = .cont); exact k .cont _ m1 H1 h1 tk1 R1 F1 rfl q1
  | ret u=>obtain ⟨v,rfl,hv⟩:=r1; exact k (.ret u) _ m1 H1 h1 tk1 R1 F1 ⟨v,rfl,hv⟩ q1)
theorem s1_assign {x:Str} {p:Pos} {e:Expr} {Q:Fl→Lo→Hp→Prop} (h:WPe c e m H fun v m1 H1=>Sto c x v m1 H1 (Q .next))
  (hs:autoParam (swapsWith e (some (.Name x p)) pos.line c.env = pure false) auRfl):WP1 c (.Assign [.Name x p] e pos) m H Q:=
 fun s R P k=>wpAny_Assign_Name (h s R _ fun a va m1 H1 h1 tk1 R1 F1 r1 q1=>q1 _ va R1 r1 _ fun _ _ m3 H3 h3 tk3 R3 F3 _ q3=>k .next _ m3 H3 h3 tk3 R3 (F1.trans R1.hasL F3) rfl q3) hs
theorem s1_unpack {ts:List Expr} {k1:Nat} {p:Pos} {e:Expr} {Q:Fl→Lo→Hp→Prop} (h:WPe c e m H fun v m1 H1=>Asg c (.Tuple ts k1 p) v m1 H1 (Q .next))
  (hs:autoParam (swapsWithSole [.Tuple ts k1 p] e pos.line c.env = pure false) auRfl) (hw:autoParam (swappedStores [.Tuple ts k1 p] e c.env = pure .none) auRfl):WP1 c (.Assign [.Tuple ts k1 p] e pos) m H Q:=
 fun s R P k=>Assign_Tuple (h s R _ fun a va m1 H1 h1 tk1 R1 F1 r1 q1=>q1 _ va R1 r1 _ fun _ _ m3 H3 h3 tk3 R3 F3 _ q3=>k .next _ m3 H3 h3 tk3 R3 (F1.trans R1.hasL F3) rfl q3) hs hw
theorem s1_if {t:Expr} {a b:List Stmt} {Q:Fl→Lo→Hp→Prop} (h:WPt c t m H fun x m1 H1=>if x then WPs c a m1 H1 Q else WPs c b m1 H1 Q):WP1 c (.If t a b pos) m H Q:=
 fun s R P k=>wpAny_If (h s R _ fun x vx m1 H1 h1 tk1 R1 F1 r1 q1=>by
  cases r1
  cases x <;> exact q1 _ R1 P fun v v' m3 H3 h3 tk3 R3 F3 r3 q3=>k v v' m3 H3 h3 tk3 R3 (F1.trans R1.hasL F3) r3 q3)
theorem s1_return {e:Expr} {Q:Fl→Lo→Hp→Prop} (h:WPe c e m H fun v m1 H1=>Q (.ret v) m1 H1):WP1 c (.Return (some e) pos) m H Q:=
 fun s R P k=>wpAny_Return_some (h s R _ fun a va m1 H1 h1 tk1 R1 F1 r1 q1=>k (.ret a) _ m1 H1 h1 tk1 R1 F1 ⟨va,rfl,r1⟩ q1)
theorem s1_return0 {Q:Fl→Lo→Hp→Prop} (h:Q (.ret .none) m H):WP1 c (.Return .none pos) m H Q:=
 fun s R=>.done R (b:=.ret .none) (fun P p=>wpAny_Return_none p) ⟨_,rfl,rfl⟩ h
theorem s1_expr {e:Expr} {Q:Fl→Lo→Hp→Prop} (h:WPe c e m H fun v m1 H1=>Q .next m1 H1) (hs:autoParam (swapsWith e .none pos.line c.env = pure false) auRfl):WP1 c (.Expr e pos) m H Q:=
 fun s R P k=>wpAny_Expr_any (h s R _ fun a va m1 H1 h1 tk1 R1 F1 r1 q1=>k .next _ m1 H1 h1 tk1 R1 F1 rfl q1) c.hi hs
theorem s1_break {Q:Fl→Lo→Hp→Prop} (h:Q .brk m H):WP1 c (.Break pos) m H Q:=fun s R=>.done R (b:=.brk) (fun P p=>wpAny_Break p) rfl h
theorem s1_continue {Q:Fl→Lo→Hp→Prop} (h:Q .cont m H):WP1 c (.Continue pos) m H Q:=fun s R=>.done R (b:=.cont) (fun P p=>wpAny_Continue p) rfl h
theorem s1_aug {x:Str} {p:Pos} {op:Operator} {e:Expr} {old:V} {Q:Fl→Lo→Hp→Prop} (hl:c.env.kindOf x = some .local) (hv:m.lookup x = some old)
  (h:WPe c e m H fun b m1 H1=>On2 c old b VR (inplaceOp op) m1 H1 fun v m2 H2=>Sto c x v m2 H2 (Q .next)):WP1 c (.AugAssign (.Name x p) op e pos) m H Q:=fun s R P k=>by
 obtain ⟨m',hn,q⟩:=R.loc
 obtain ⟨vo,ho,hr⟩:=q x old hv
 refine wpAny_AugAssign_Name (wpAny_loadName_local c.hk hl hn ho ?_)
 exact h s R _ fun b vb m1 H1 h1 tk1 R1 F1 r1 q1=>q1 _ vo vb R1 (R.lift F1 hr) r1 _ fun v vv m2 H2 h2 tk2 R2 F2 r2 q2=>q2 _ vv R2 r2 _
  fun _ _ m3 H3 h3 tk3 R3 F3 _ q3=>k .next _ m3 H3 h3 tk3 R3 ((F1.trans R1.hasL F2).trans R2.hasL F3) rfl q3
theorem s1_while {t:Expr} {b:List Stmt} {Q:Fl→Lo→Hp→Prop} (I:Nat→Lo→Hp→Prop) (n:Nat) (h0:I n m H)
  (step:∀ n m H,I n m H→WPt c t m H fun x m1 H1=>if x then WPs c b m1 H1 fun f m2 H2=>match f with | .next | .cont=>∃ k,k < n∧I k m2 H2 | .brk=>Q .next m2 H2 | .ret v=>Q (.ret v) m2 H2 else Q .next m1 H1):WP1 c (.While t b [] pos) m H Q:=fun s R P k=>by
 refine wpAny_While (codeAny_whileLoop (fun n s'=>∃ m' H' h' tk',s' = (sw s h' tk')∧Rel c ⟨m',H'⟩ s'∧Fp c.env.locals H H' s.heap h'∧I n m' H') ?_ n ⟨m,H,s.heap,(tkn s s.toks),rfl,R,.refl ..,h0⟩)
 rintro n s' ⟨m1,H1,h1,tk1,rfl,R1,F1,hI⟩
 refine wpAny_mono (step n m1 H1 hI _ R1 _ fun x vx m2 H2 h2 tk2 R2 F2 r2 q2=>?_) (fun _ _ q=>q) fun _ _ q=>q.elim
 cases r2
 cases x
 ·exact wpAny_execs_nil (k .next _ m2 H2 h2 tk2 R2 (F1.trans R1.hasL F2) rfl q2)
 ·refine wpAny_mono (q2 _ R2 _ fun f vf m3 H3 h3 tk3 R3 F3 r3 q3=>?_) (fun _ _ q=>q) fun _ _ q=>q.elim
  have F:=(F1.trans R1.hasL F2).trans R2.hasL F3
  cases f with
  | next=>cases (r3:vf = .next); obtain ⟨j,hj,q⟩:=q3; exact ⟨j,hj,m3,H3,h3,tk3,rfl,R3,F,q⟩
  | cont=>cases (r3:vf = .cont); obtain ⟨j,hj,q⟩:=q3; exact ⟨j,hj,m3,H3,h3,tk3,rfl,R3,F,q⟩
  | brk=>cases (r3:vf = .brk); exact k .next _ m3 H3 h3 tk3 R3 F rfl q3
  | ret u=>obtain ⟨v,rfl,hv⟩:=r3; exact k (.ret u) _ m3 H3 h3 tk3 R3 F ⟨v,rfl,hv⟩ q3
theorem Rel.off {c:Ctx} {st:St} {s:Shared} (R:Rel c st s) {it:Addr} {oi:Obj} {h':Heap} (tk:Tk) (hi:s.heap.get? it = some oi) (hnt:∀ k items n,¬ (oi.cls = clsOf k∧oi.data = .seq items n)) (h1:it∉dom st.H) (h2:it≠c.env.locals) (h3:c.G it = .none)
  (hk:∀ b o,b≠it→s.heap.get? b = some o→h'.get? b = some o) (hg:autoParam (tk.gens = s.gens) auRfl):Rel c st (sw s h' tk):=by
 have lift:∀ u v,V.rep s.heap u v→V.rep h' u v:=fun u v r=>by
  cases u with
  | «at» x=>exact r
  | tup k xs=>
   obtain ⟨a,items,rfl,⟨o,n,ho,hc,hd⟩,hr⟩:=r
   refine ⟨a,items,rfl,⟨o,n,hk _ _ (fun q=>?_) ho,hc,hd⟩,hr⟩
   subst q
   rw [hi] at ho
   cases ho
   exact hnt _ _ _ ⟨hc,hd⟩
 have liftL:∀ us vs,Reps s.heap us vs→Reps h' us vs:=fun us=>by
  induction us with
  | nil=>intro vs r; exact r
  | cons u us ih=>rintro vs ⟨v,r,e,hv,hr⟩; exact ⟨v,r,e,lift u v hv,ih r hr⟩
 refine ⟨?_,?_,R.nd,R.apart,fun b o e=>hk b o (fun q=>by subst q; rw [h3] at e; cases e) (R.keep b o e),R.gl,bare_of hg R.bare⟩
 ·obtain ⟨m',hn,q⟩:=R.loc
  obtain ⟨o,es,ep,ho,r⟩:=hn
  exact ⟨m',⟨o,es,ep,hk _ _ (fun q=>h2 q.symm) ho,r⟩,fun x u e=>let ⟨v,h1,h2⟩:=q x u e; ⟨v,h1,lift _ _ h2⟩⟩
 ·intro a o hm
  have hka:∀ ob,s.heap.get? a = some ob→h'.get? a = some ob:=fun ob e=>hk a ob (fun q=>h1 (q ▸ List.mem_map.mpr ⟨_,hm,rfl⟩)) e
  have r:=R.obj a o hm
  cases o with
  | list xs=>obtain ⟨items,⟨o,ho,hc,n,hd⟩,⟨o2,ho2,q⟩,hr⟩:=r; exact ⟨items,⟨o,hka _ ho,hc,n,hd⟩,⟨o2,hka _ ho2,q⟩,liftL _ _ hr⟩
  | dict ep es=>obtain ⟨h0,kvs,hm,q1,q2⟩:=r; exact ⟨h0,kvs,hm.at' hka,q1,liftL _ _ q2⟩
  | range x y z=>obtain ⟨t,u,v,ho⟩:=r; exact ⟨t,u,v,hka _ ho⟩
  | view k d=>obtain ⟨o,ho,q⟩:=r; exact ⟨o,hka _ ho,q⟩
  | set z ks=>obtain ⟨o,ho,q⟩:=r; exact ⟨o,hka _ ho,q⟩
  | inst c d=>obtain ⟨o,ho,q⟩:=r; exact ⟨o,hka _ ho,q⟩
  | ns fs=>obtain ⟨m,hm,q,hr⟩:=r; exact ⟨m,hm.at hka,q,fun x u hu=>let ⟨v,h1,h2⟩:=hr x u hu; ⟨v,h1,lift _ _ h2⟩⟩
  | cell x=>
   obtain ⟨o,ho,y,hd,q⟩:=r
   refine ⟨o,hka _ ho,y,hd,?_⟩
   cases x with
   | none=>exact q
   | some u=>obtain ⟨v,h1,h2⟩:=q; exact ⟨v,h1,lift _ _ h2⟩
  | obj o=>exact ⟨hka _ r.1,r.2⟩
noncomputable def NotTup (o:Obj):Prop:=∀ k items n,¬ (o.cls = clsOf k∧o.data = .seq items n)
noncomputable def Aside (c:Ctx) (H:Hp) (h:Heap) (fp:List Addr):Prop:=∀ b∈fp,b∉dom H∧b≠c.env.locals∧c.G b = .none∧∃ o,h.get? b = some o∧NotTup o
theorem lift_off {c:Ctx} {H:Hp} {h h':Heap} {fp:List Addr} (A:Aside c H h fp) (hk:∀ b o,b∉fp→h.get? b = some o→h'.get? b = some o) {u:V} {v:Value} (r:u.rep h v):u.rep h' v:=by
 cases u with
 | «at» x=>exact r
 | tup k xs=>
  obtain ⟨a,items,rfl,⟨o,n,ho,hc,hd⟩,hr⟩:=r
  refine ⟨a,items,rfl,⟨o,n,hk _ _ (fun q=>?_) ho,hc,hd⟩,hr⟩
  obtain ⟨_,_,_,o',ho',nt⟩:=A a q
  rw [ho] at ho'; cases ho'
  exact nt _ _ _ ⟨hc,hd⟩
theorem lift_offL {c:Ctx} {H:Hp} {h h':Heap} {fp:List Addr} (A:Aside c H h fp) (hk:∀ b o,b∉fp→h.get? b = some o→h'.get? b = some o):∀ {us:List V} {vs:List Value},Reps h us vs→Reps h' us vs
 | [],_,e=>e
 | _ :: _,_,⟨v,r,e,hv,hr⟩=>⟨v,r,e,lift_off A hk hv,lift_offL A hk hr⟩
theorem Aside.step {c:Ctx} {H H':Hp} {h h':Heap} {fp:List Addr} (a:Aside c H h fp) (F:Fp c.env.locals H H' h h'):Aside c H' h' fp:=fun b hb=>by
 obtain ⟨h1,h2,h3,o,ho,nt⟩:=a b hb
 exact ⟨fun q=>(F.dom b q).elim h1 fun n=>(by rw [n] at ho; cases ho),h2,h3,o,F.keep b o h1 h2 ho,nt⟩
noncomputable def isNameOrTuple:Expr→Bool
 | .Name ..=>true
 | .Tuple ..=>true
 | _=>false
structure Iter (c:Ctx) (t:Expr) (it:Value) (fp:List Addr) (n:Nat) (x:Nat→V) (Ok:Hp→Prop) (J:Nat→Heap→Prop) (J':Nat→Value→Heap→Prop):Prop where
 item:∀ i m H s,i < n→Rel c ⟨m,H⟩ s→Aside c H s.heap fp→Ok H→J i s.heap→∀ P:Option Value→Shared→Prop,
  (∀ v h tk,Rel c ⟨m,H⟩ (sw s h tk)→(∀ b o,b∉fp→s.heap.get? b = some o→h.get? b = some o)→Aside c H h fp→J' i v h→(x i).rep h v→P (some v) (sw s h tk))→c.wp (pyNext it) P s
 go:∀ i v m H s,Rel c ⟨m,H⟩ s→Aside c H s.heap fp→J' i v s.heap→(x i).rep s.heap v→∀ P:Unit→Shared→Prop,
  (∀ h tk,Rel c ⟨m,H⟩ (sw s h tk)→(∀ b o,b∉fp→s.heap.get? b = some o→h.get? b = some o)→Aside c H h fp→J (i + 1) h→(x i).rep h v→P () (sw s h tk))→c.wp (letOwnedTupleGo t it v) P s
 done:∀ m H s,Rel c ⟨m,H⟩ s→Aside c H s.heap fp→Ok H→J n s.heap→∀ P:Option Value→Shared→Prop,
  (∀ h tk,Rel c ⟨m,H⟩ (sw s h tk)→(∀ b o,b∉fp→s.heap.get? b = some o→h.get? b = some o)→P .none (sw s h tk))→c.wp (pyNext it) P s
 keep:∀ i h h',J i h→(∀ b∈fp,∀ o,h.get? b = some o→h'.get? b = some o)→J i h'
 self:∀ s (P:Value→Shared→Prop),J 0 s.heap→P it s→c.wp (pyIter it) P s
noncomputable def WPit (c:Ctx) (t e:Expr) (m:Lo) (H:Hp) (Q:Nat→(Nat→V)→(Hp→Prop)→Lo→Hp→Prop):Prop:=
 ∀ s,Rel c ⟨m,H⟩ s→∀ P:Value→Shared→Prop,
  (∀ it fp n x Ok J J' m1 H1 h tk,Iter c t it fp n x Ok J J'→Rel c ⟨m1,H1⟩ (sw s h tk)→Fp c.env.locals H H1 s.heap h→Aside c H1 h fp→(∀ b∈fp,s.heap.get? b = .none)→J 0 h→Q n x Ok m1 H1→P it (sw s h tk)) →
  wpAny (model c.prog c.w) c.A (eval e c.env) (fun xv s₁=>c.wp (pyIter xv) P s₁) (fun _ _=>False) s
theorem Fp.off {L:Addr} {H H':Hp} {h h₁ h₂:Heap} {fp:List Addr} (F:Fp L H H' h h₁) (hfp:∀ b∈fp,h.get? b = .none) (hk:∀ b o,b∉fp→h₁.get? b = some o→h₂.get? b = some o):Fp L H H' h h₂:=
 ⟨fun b o hb hL e=>hk b o (fun q=>by rw [hfp b q] at e; cases e) (F.keep b o hb hL e),F.dom,fun b o e=>let ⟨o',e'⟩:=F.alive b o e; ⟨o',hk b o' (fun q=>by rw [hfp b q] at e; cases e) e'⟩⟩
structure ForJ' (c:Ctx) (s:Shared) (H:Hp) (fp:List Addr) (J:Nat→Heap→Prop) (I:Nat→Lo→Hp→Prop) (n k:Nat) (s':Shared) (i:Nat) (m':Lo) (H':Hp) (h':Heap) (tk':Tk):Prop where
 p0:s' = (sw s h' tk')
 p1:Rel c ⟨m',H'⟩ s'
 p2:Fp c.env.locals H H' s.heap h'
 p3:Aside c H' h' fp
 p4:J i h'
 p5:I i m' H'
 p6:i≤n
 p7:k = n + 1 - i
noncomputable def ForJ (c:Ctx) (s:Shared) (H:Hp) (fp:List Addr) (J:Nat→Heap→Prop) (I:Nat→Lo→Hp→Prop) (n k:Nat) (s':Shared):Prop:=∃ i m' H' h' tk',ForJ' c s H fp J I n k s' i m' H' h' tk'
theorem ForJ.use {s:Shared} {fp:List Addr} {J:Nat→Heap→Prop} {I:Nat→Lo→Hp→Prop} {n k:Nat} {s':Shared} {G:Shared→Prop} (h:ForJ c s H fp J I n k s')
  (f:∀ i m' H' h' tk',Rel c ⟨m',H'⟩ (sw s h' tk')→Fp c.env.locals H H' s.heap h'→Aside c H' h' fp→J i h'→I i m' H'→i≤n→k = n + 1 - i→G (sw s h' tk')):G s':=by
 obtain ⟨i,m',H',h',tk',rfl,a1,a2,a3,a4,a5,a6,a7⟩:=h
 exact f i m' H' h' tk' a1 a2 a3 a4 a5 a6 a7
theorem s1_for {t iter:Expr} {b:List Stmt} {Q:Fl→Lo→Hp→Prop}
  (h:WPit c t iter m H fun n x Ok m1 H1=>∃ I:Nat→Lo→Hp→Prop,I 0 m1 H1∧(∀ i m2 H2,i < n→I i m2 H2→Ok H2∧Asg c t (x i) m2 H2 fun m3 H3=>WPs c b m3 H3 fun f m4 H4=>
   match f with | .next | .cont=>I (i + 1) m4 H4 | .brk=>Q .next m4 H4 | .ret v=>Q (.ret v) m4 H4)∧∀ m2 H2,I n m2 H2→Ok H2∧Q .next m2 H2)
  (hs:autoParam (∀ x,foldedSetIterable iter c.env x = pure x) auFun):WP1 c (.For t iter b [] pos) m H Q:=fun s R P k=>by
 refine wpAny_For (h s R _ fun it fp n x Ok J J' m1 H1 h1 tk1 W R1 F1 A1 fr1 j1 hI=>?_) hs
 obtain ⟨I,i0,step,fin⟩:=hI
 refine codeAny_forLoop_any (ForJ c s H fp J I n) ?_ (n + 1)
  ⟨0,m1,H1,h1,tk1,rfl,R1,F1,A1,j1,i0,Nat.zero_le _,rfl⟩
 intro k' s' hJ
 refine ForJ.use (G:=fun s'=>wpAny _ _ (pyNext it) _ _ s') hJ fun i m2 H2 h2 tk2 R2 F2 A2 j2 hI hle hkk=>?_
 by_cases hlt:i < n
 ·obtain ⟨ok,body⟩:=step i m2 H2 hlt hI
  refine (wpAny_mono (W.item i m2 H2 _ hlt R2 A2 ok j2 _ fun v h3 tk3 R3 k3 A3 j3 r3=>?_) (fun _ _ q=>q) fun _ _ q=>q.elim)
  have F3:=F2.off fr1 k3
  refine wpAny_mono (W.go i v m2 H2 _ R3 A3 j3 r3 _ fun h4 tk4 R4 k4 A4 j4 r4=>?_) (fun _ _ q=>q) fun _ _ q=>q.elim
  have F4:=F3.off fr1 k4
  refine wpAny_mono (body _ v R4 r4 _ fun _ _ m5 H5 h5 tk5 R5 F5 _ q5=>?_) (fun _ _ q=>q) fun _ _ q=>q.elim
  refine wpAny_mono (q5 _ R5 _ fun f vf m6 H6 h6 tk6 R6 F6 r6 q6=>?_) (fun _ _ q=>q) fun _ _ q=>q.elim
  refine cutm fun G hG=>?_
  have F:=(F4.trans R4.hasL F5).trans R5.hasL F6
  have A5:=A4.step F5
  have A6:=A5.step F6
  have kp:∀ b∈fp,∀ o,h4.get? b = some o→h6.get? b = some o:=fun b hb o e=>by
   have e5:=F5.keep b o (A4 b hb).1 (A4 b hb).2.1 e
   exact F6.keep b o (A5 b hb).1 (A5 b hb).2.1 e5
  have j6:=W.keep _ _ _ j4 kp
  cases f with
  | next=>cases (r6:vf = .next); exact hG ⟨n + 1 - (i + 1),by rw [hkk]; exact as1 2 (.t Z0 Z1) (.t (.s (.a Z1 N1) (.a Z0 N1)) (.s (.a Z1 N1) Z0)) [_,_] hlt,i + 1,m6,H6,h6,tk6,rfl,R6,F,A6,j6,q6,hlt,rfl⟩
  | cont=>cases (r6:vf = .cont); exact hG ⟨n + 1 - (i + 1),by rw [hkk]; exact as1 2 (.t Z0 Z1) (.t (.s (.a Z1 N1) (.a Z0 N1)) (.s (.a Z1 N1) Z0)) [_,_] hlt,i + 1,m6,H6,h6,tk6,rfl,R6,F,A6,j6,q6,hlt,rfl⟩
  | brk=>cases (r6:vf = .brk); exact hG (k .next _ m6 H6 h6 tk6 R6 F rfl q6)
  | ret u=>obtain ⟨v,rfl,hv⟩:=r6; exact hG (k (.ret u) _ m6 H6 h6 tk6 R6 F ⟨v,rfl,hv⟩ q6)
 ·have hin:i = n:=by exact as2 2 (.l Z0 Z1) (.no (.t Z0 Z1)) (.e Z0 Z1) [_,_] hle hlt
  rw [hin] at hI j2
  obtain ⟨ok,q⟩:=fin m2 H2 hI
  refine (wpAny_mono (W.done m2 H2 _ R2 A2 ok j2 _ fun h3 tk3 R3 k3=>?_) (fun _ _ q=>q) fun _ _ q=>q.elim)
  exact wpAny_execs_nil (k .next _ m2 H2 h3 tk3 R3 (F2.off fr1 k3) rfl q)
end
theorem get_size (h:Heap):h.get? h.objs.size = .none:=by
 cases q:h.get? h.objs.size with
 | none=>rfl
 | some o=>exact absurd (Heap.lt_size q) (Nat.lt_irrefl _)
theorem get_ge {h:Heap} {a:Addr} (ha:h.objs.size≤a):h.get? a = .none:=by
 cases q:h.get? a with
 | none=>rfl
 | some o=>exact absurd (Heap.lt_size q) (Nat.not_lt.mpr ha)
theorem Rel.fresh {c:Ctx} {st:St} {s:Shared} (R:Rel c st s) {a:Addr} (ha:s.heap.get? a = .none):a∉dom st.H∧a≠c.env.locals∧c.G a = .none:=by
 refine ⟨fun q=>?_,fun q=>?_,?_⟩
 ·obtain ⟨o,ho⟩:=R.lt q; rw [ha] at ho; cases ho
 ·subst q; obtain ⟨o,ho⟩:=R.hasL; rw [ha] at ho; cases ho
 ·cases q:c.G a with
  | none=>rfl
  | some o=>have:=R.keep a o q; rw [ha] at this; cases this
theorem Heap.SameBut.kp {a:Addr} {h h':Heap} (x:Heap.SameBut a h h'):∀ b o,b≠a→h.get? b = some o→h'.get? b = some o:=fun b o hb e=>(x.2 b hb).trans e
section
variable {c:Ctx} {m:Lo} {H:Hp} {pos:Pos}
theorem one_off {it:Addr} {h h':Heap} (hk:∀ b o,b≠it→h.get? b = some o→h'.get? b = some o):∀ b o,b∉[it]→h.get? b = some o→h'.get? b = some o:=
 fun b o hb e=>hk b o (fun q=>hb (by simp [q])) e
theorem Aside.one {H:Hp} {h h':Heap} {it:Addr} (a:Aside c H h [it]) (hi:∃ o,h'.get? it = some o∧NotTup o):Aside c H h' [it]:=fun b hb=>by
 simp at hb; subst hb
 obtain ⟨h1,h2,h3,_⟩:=a b (by simp)
 exact ⟨h1,h2,h3,hi⟩
theorem Rel.off2 {st:St} {s:Shared} {fp:List Addr} {h':Heap} (R:Rel c st s) (tk:Tk) (A:Aside c st.H s.heap fp) (hk:∀ b o,b∉fp→s.heap.get? b = some o→h'.get? b = some o) (hg:autoParam (tk.gens = s.gens) auRfl):Rel c st (sw s h' tk):=by
 have lift:∀ u v,V.rep s.heap u v→V.rep h' u v:=fun u v r=>lift_off A hk r
 have liftL:∀ us vs,Reps s.heap us vs→Reps h' us vs:=fun us vs r=>lift_offL A hk r
 refine ⟨?_,?_,R.nd,R.apart,fun b o e=>hk b o (fun q=>by rw [(A b q).2.2.1] at e; cases e) (R.keep b o e),R.gl,bare_of hg R.bare⟩
 ·obtain ⟨m',hn,q⟩:=R.loc
  obtain ⟨o,es,ep,ho,r⟩:=hn
  exact ⟨m',⟨o,es,ep,hk _ _ (fun q=>(A _ q).2.1 rfl) ho,r⟩,fun x u e=>let ⟨v,h1,h2⟩:=q x u e; ⟨v,h1,lift _ _ h2⟩⟩
 ·intro a o hm
  have hka:∀ ob,s.heap.get? a = some ob→h'.get? a = some ob:=fun ob e=>hk a ob (fun q=>(A a q).1 (List.mem_map.mpr ⟨_,hm,rfl⟩)) e
  have r:=R.obj a o hm
  cases o with
  | list xs=>obtain ⟨items,⟨o,ho,hc,n,hd⟩,⟨o2,ho2,q⟩,hr⟩:=r; exact ⟨items,⟨o,hka _ ho,hc,n,hd⟩,⟨o2,hka _ ho2,q⟩,liftL _ _ hr⟩
  | dict ep es=>obtain ⟨h0,kvs,hm,q1,q2⟩:=r; exact ⟨h0,kvs,hm.at' hka,q1,liftL _ _ q2⟩
  | range x y z=>obtain ⟨t,u,v,ho⟩:=r; exact ⟨t,u,v,hka _ ho⟩
  | view k d=>obtain ⟨o,ho,q⟩:=r; exact ⟨o,hka _ ho,q⟩
  | set z ks=>obtain ⟨o,ho,q⟩:=r; exact ⟨o,hka _ ho,q⟩
  | inst c d=>obtain ⟨o,ho,q⟩:=r; exact ⟨o,hka _ ho,q⟩
  | ns fs=>obtain ⟨m,hm,q,hr⟩:=r; exact ⟨m,hm.at hka,q,fun x u hu=>let ⟨v,h1,h2⟩:=hr x u hu; ⟨v,h1,lift _ _ h2⟩⟩
  | cell x=>
   obtain ⟨o,ho,y,hd,q⟩:=r
   refine ⟨o,hka _ ho,y,hd,?_⟩
   cases x with
   | none=>exact q
   | some u=>obtain ⟨v,h1,h2⟩:=q; exact ⟨v,h1,lift _ _ h2⟩
  | obj o=>exact ⟨hka _ r.1,r.2⟩
theorem letGo_other {t:Expr} {it:Addr} {v:Value} {o:Obj} {T:String} {vs:Array Value} {s:Shared} {P:Unit→Shared→Prop} (ht:isNameOrTuple t = true) (ho:s.heap.get? it = some o) (hc:o.cls = .type T) (hd:o.data = .fields vs)
  (hT:(["enumerate","zip","dict_itemiterator","dict_reverseitemiterator","odict_iterator","itertools.zip_longest","itertools.pairwise"]:List String).contains T = false) (k:P () s):c.wp (letOwnedTupleGo t (.ref it) v) P s:=by
 cases t <;> try (exact Bool.noConfusion (show false = true from ht))
 ·exact wpAny_pure k
 ·unfold letOwnedTupleGo
  cases v with
  | ref T'=>
   refine wpAny_bind (wpAny_load ho ?_)
   rw [hc,hd]
   show wpAny _ _ (if (_ && _) = true then _ else _) _ _ _
   rw [if_neg (by intro h; rw [hT,Bool.false_and] at h; cases h)]
   exact wpAny_pure k
  | _=>exact wpAny_pure k
theorem iter_list {t:Expr} {a it:Addr} {xs:List V} (ht:isNameOrTuple t = true) (hne:a≠it):Iter c t (.ref it) [it] xs.length (fun i=>xs.getD i .none) (fun H=>Sees c H a (.list xs)) (fun i h=>h.IsListIter it a i) (fun i _ h=>h.IsListIter it a (i + 1)) where
 item:=fun i m H s hi R A ok j P k=>by
  obtain ⟨items,hl,_,hr⟩:=ok m s R
  obtain ⟨h1,h2,h3,_⟩:=A it (by simp)
  have hx:xs[i]? = some (xs.getD i .none):=by simp [List.getD,hi]
  obtain ⟨v,hv,hrv⟩:=hr.get hx
  obtain ⟨oi,ho,_,hd⟩:=id j
  refine wpAny_pyNext_list_item j hl (by rw [← Array.getElem?_toList]; exact hv) fun h' hit' hs'=>?_
  have R':=R.off (h':=h') (tkn s s.toks) ho (fun _ _ _ q=>by rw [hd] at q; cases q.2) h1 h2 h3 (Heap.SameBut.kp hs')
  refine k v h' (tkn s s.toks) R' (one_off (Heap.SameBut.kp hs')) (A.one (let ⟨o,ho,_,hd⟩:=hit'; ⟨o,ho,fun _ _ _ q=>by rw [hd] at q; cases q.2⟩)) hit' ?_
  obtain ⟨items',hl',_,hr'⟩:=ok m _ R'
  have:items' = items:=by
   obtain ⟨o1,e1,_,n1,d1⟩:=hl
   obtain ⟨o2,e2,_,n2,d2⟩:=hl'
   have e2':h'.get? a = some o2:=e2
   rw [Heap.SameBut.kp hs' a o1 hne e1] at e2'
   cases e2'; rw [d1] at d2; cases d2; rfl
  subst this
  obtain ⟨v',hv',hrv'⟩:=hr'.get hx
  rw [hv] at hv'; cases hv'; exact hrv'
 go:=fun i v m H s R A j r P k=>by
  obtain ⟨oi,ho,hc,hd⟩:=id j
  exact letGo_other ht ho hc hd (by decide) (k s.heap (tkn s s.toks) R (fun _ _ _ e=>e) A j r)
 done:=fun m H s R A ok j P k=>by
  obtain ⟨items,hl,_,hr⟩:=ok m s R
  obtain ⟨h1,h2,h3,_⟩:=A it (by simp)
  obtain ⟨oi,ho,_,hd⟩:=id j
  refine wpAny_pyNext_list_end c.hh j hl (by rw [← Array.getElem?_toList]; simp [hr.length]) fun h' hs'=>?_
  exact k h' (tkn s s.toks) (R.off (tkn s s.toks) ho (fun _ _ _ q=>by rw [hd] at q; cases q.2) h1 h2 h3 hs') (one_off hs')
 keep:=fun i h h' j hk=>j.at fun o e=>hk it (by simp) o e
 self:=fun s P j p=>wpAny_pyIter_listiter j p
theorem it_list {t e:Expr} (ht:isNameOrTuple t = true) {Q:Nat→(Nat→V)→(Hp→Prop)→Lo→Hp→Prop}
  (h:WPe c e m H fun u m1 H1=>∃ a xs,u = .ref a∧Sees c H1 a (.list xs)∧Q xs.length (fun i=>xs.getD i .none) (fun H=>Sees c H a (.list xs)) m1 H1):WPit c t e m H Q:=fun s R P k=>by
 refine h s R _ fun u va m1 H1 h1 tk1 R1 F1 r1 q1=>?_
 obtain ⟨a,xs,rfl,hs,q⟩:=q1
 cases (r1:va = _)
 obtain ⟨items,hl,_,hr⟩:=hs m1 _ R1
 refine wpAny_pyIter_list hl ?_
 have hg:∀ b o,h1.get? b = some o→(h1.push { cls:=.type "list_iterator",data:=.fields #[.ref a,.int 0 0] }).get? b = some o:=fun b o e=>Heap.get?_push_of_some _ e
 have hf:=R1.fresh (get_size h1)
 refine k (.ref h1.objs.size) [h1.objs.size] _ _ _ _ _ m1 H1 _ tk1 (iter_list (a:=a) (xs:=xs) ht (by obtain ⟨o,ho,_⟩:=hl; exact Nat.ne_of_lt (Heap.lt_size ho))) (R1.grow tk1 hg) (F1.trans R1.hasL (.grow hg))
  (fun b hb=>by simp at hb; subst hb; exact ⟨hf.1,hf.2.1,hf.2.2,_,Heap.get?_push_size _ rfl,fun _ _ _ q=>by cases q.2⟩) (fun b hb=>by
   simp at hb; subst hb
   cases q:s.heap.get? h1.objs.size with
   | none=>rfl
   | some o=>obtain ⟨o',e⟩:=F1.alive _ _ q; rw [get_size] at e; cases e) ⟨_,Heap.get?_push_size _ rfl,rfl,rfl⟩ q
end
section
variable {c:Ctx} {m:Lo} {H:Hp} {pos:Pos} {Q:V→Lo→Hp→Prop} {a b:Int}
theorem o_add (h:Q (.int (a + b)) m H):Op2 c .Add (.int a) (.int b) m H Q:=fun s va vb R ra rb=>by
 obtain ⟨t,rfl⟩:=ra; obtain ⟨u,rfl⟩:=rb
 exact .val R h fun P k=>wpAny_add_int (k _ _ ⟨_,rfl⟩)
theorem o_sub (h:Q (.int (a - b)) m H):Op2 c .Sub (.int a) (.int b) m H Q:=fun s va vb R ra rb=>by
 obtain ⟨t,rfl⟩:=ra; obtain ⟨u,rfl⟩:=rb
 exact .val R h fun P k=>sub_int (k _ _ ⟨_,rfl⟩)
theorem o_mul (h:Q (.int (a * b)) m H) (hm:IntMulOk a b):Op2 c .Mult (.int a) (.int b) m H Q:=fun s va vb R ra rb=>by
 obtain ⟨t,rfl⟩:=ra; obtain ⟨u,rfl⟩:=rb
 exact .val R h fun P k=>mul_int (k _ _ ⟨_,rfl⟩) hm
theorem o_div (h:Q (.int (a.fdiv b)) m H) (h0:autoParam (b≠0) auDec) (hb:autoParam (b.natAbs < 1073741824) auDec):Op2 c .FloorDiv (.int a) (.int b) m H Q:=fun s va vb R ra rb=>by
 obtain ⟨t,rfl⟩:=ra; obtain ⟨u,rfl⟩:=rb
 exact .val R h fun P k=>floordiv_int h0 (k _ _ ⟨_,rfl⟩) (.inl (PyProof.noPylong_small hb))
theorem o_mod (h:Q (.int (a.fmod b)) m H) (h0:autoParam (b≠0) auDec):Op2 c .Mod (.int a) (.int b) m H Q:=fun s va vb R ra rb=>by
 obtain ⟨t,rfl⟩:=ra; obtain ⟨u,rfl⟩:=rb
 exact .val R h fun P k=>PyProof.Rows.mod_int h0 (k _ _ ⟨_,rfl⟩)
theorem o_pow (h:Q (.int (a ^ b.toNat)) m H) (h0:autoParam (0≤b) auDec) (hsz:autoParam ((Builtin.Int.intBits a:Int) * b≤2 ^ 27) auDec):Op2 c .Pow (.int a) (.int b) m H Q:=fun s va vb R ra rb=>by
 obtain ⟨t,rfl⟩:=ra; obtain ⟨u,rfl⟩:=rb
 exact .val R h fun P k=>pow_int h0 hsz (k _ _ ⟨_,rfl⟩)
theorem o_iadd (h:Q (.int (a + b)) m H):On2 c (.int a) (.int b) VR (inplaceOp .Add) m H Q:=fun s va vb R ra rb=>by
 obtain ⟨t,rfl⟩:=ra; obtain ⟨u,rfl⟩:=rb
 exact .val R h fun P k=>wpAny_iadd_int (k _ _ ⟨_,rfl⟩)
theorem c_lt (h:Q (.bool (decide (a < b))) m H):Cmp c .Lt (.int a) (.int b) m H Q:=fun s va vb R ra rb=>by
 obtain ⟨t,rfl⟩:=ra; obtain ⟨u,rfl⟩:=rb
 exact .val R h fun P k=>PyProof.Rows.lt_int (k _ _ rfl)
theorem c_gt (h:Q (.bool (decide (b < a))) m H):Cmp c .Gt (.int a) (.int b) m H Q:=fun s va vb R ra rb=>by
 obtain ⟨t,rfl⟩:=ra; obtain ⟨u,rfl⟩:=rb
 exact .val R h fun P k=>PyProof.Rows.gt_int (k _ _ rfl)
theorem c_ge (h:Q (.bool (decide (b≤a))) m H):Cmp c .GtE (.int a) (.int b) m H Q:=fun s va vb R ra rb=>by
 obtain ⟨t,rfl⟩:=ra; obtain ⟨u,rfl⟩:=rb
 exact .val R h fun P k=>PyProof.Rows.ge_int (k _ _ rfl)
theorem c_eq (h:Q (.bool (a == b)) m H):Cmp c .Eq (.int a) (.int b) m H Q:=fun s va vb R ra rb=>by
 obtain ⟨t,rfl⟩:=ra; obtain ⟨u,rfl⟩:=rb
 exact .val R h fun P k=>PyProof.Rows.eq_int (k _ _ rfl)
theorem c_ne (h:Q (.bool (a != b)) m H):Cmp c .NotEq (.int a) (.int b) m H Q:=fun s va vb R ra rb=>by
 obtain ⟨t,rfl⟩:=ra; obtain ⟨u,rfl⟩:=rb
 exact .val R h fun P k=>PyProof.Rows.ne_int (k _ _ rfl)
theorem tru_int {Q:Bool→Lo→Hp→Prop} (h:Q (a != 0) m H):Tru c (.int a) m H Q:=fun s va R ra=>by
 obtain ⟨t,rfl⟩:=ra
 exact .val R h fun P k=>PyProof.Rows.truthy_int (k _ _ rfl)
theorem tru_none {Q:Bool→Lo→Hp→Prop} (h:Q false m H):Tru c .none m H Q:=fun s va R ra=>by
 cases (ra:va = _)
 exact .val R h fun P k=>truthy_none (k _ _ rfl)
theorem O.list_get {prog:Program} {w:World} {h:Heap} {a:Addr} {xs:List V} (r:(O.list xs).rep prog w h a):∃ items n,IsL h a items n∧Reps h xs items.toList:=by
 obtain ⟨items,⟨o,ho,hc,n,hd⟩,⟨o2,ho2,q1,q2⟩,hr⟩:=r
 rw [ho] at ho2; cases ho2
 refine ⟨items,n,?_,hr⟩
 obtain ⟨cl,d,dt,sl⟩:=o
 subst hc hd q1 q2
 exact ho
theorem IsL.isList {h:Heap} {a:Addr} {items:Array Value} {n:Nat} (x:IsL h a items n):h.IsList a items:=⟨_,x,rfl,n,rfl⟩
theorem O.list_mk {prog:Program} {w:World} {h:Heap} {a:Addr} {xs:List V} {items:Array Value} {n:Nat} (x:IsL h a items n) (r:Reps h xs items.toList):(O.list xs).rep prog w h a:=⟨items,⟨_,x,rfl,n,rfl⟩,⟨_,x,rfl,rfl⟩,r⟩
theorem push_grow {h:Heap} {o:Obj}:∀ b ob,h.get? b = some ob→(h.push o).get? b = some ob:=fun b ob e=>Heap.get?_push_of_some _ e
theorem e_list {es:List Expr} (h:WPitems c pos es m H fun vs m1 H1=>vs.length≤sizeLine∧∀ a,Q (.ref a) m1 ((a,.list vs) :: H1)):WPe c (.List es pos) m H Q:=
 fun s R P k=>wpAny_List (h s R _ fun vs vv m1 H1 h1 tk1 R1 F1 r1 q1=>⟨by rw [r1.length]; exact q1.1,by
  have hr:=R1.new (h':=h1.push { cls:=.type "list",data:=.seq vv.toArray }) (o:=.list vs) tk1 push_grow (get_size h1) (O.list_mk (n:=0) (Heap.get?_push_size _ rfl) (by simpa using R1.liftL (.grow (H:=H1) push_grow) r1))
  exact k (.ref _) _ m1 _ _ tk1 hr (F1.trans R1.hasL (.new push_grow (get_size h1))) rfl (q1.2 _)⟩)
theorem e_tuple {es:List Expr} {k0:Nat} (h:WPitems c pos es m H fun vs m1 H1=>∃ xs:List At,vs = xs.map .at∧vs.length≤sizeLine∧Q (.tup .none xs) m1 H1):WPe c (.Tuple es k0 pos) m H Q:=
 fun s R P k=>wpAny_Tuple (h s R _ fun vs vv m1 H1 h1 tk1 R1 F1 r1 q1=>by
  obtain ⟨xs,rfl,hl,q⟩:=q1
  refine ⟨by rw [r1.length]; exact hl,?_⟩
  exact k (.tup .none xs) _ m1 H1 _ tk1 (R1.grow tk1 push_grow) (F1.trans R1.hasL (.grow push_grow)) ⟨_,_,rfl,⟨_,0,Heap.get?_push_size _ rfl,rfl,rfl⟩,by simpa using AtReps.of_reps r1⟩ q)
theorem o_cat {x y:Addr} {xs ys:List V} (hx:Sees c H x (.list xs)) (hy:Sees c H y (.list ys)) (h:∀ a,Q (.ref a) m ((a,.list (xs ++ ys)) :: H)) (hsz:xs.length + ys.length≤sizeLine):Op2 c .Add (.ref x) (.ref y) m H Q:=fun s va vb R ra rb=>by
 cases (ra:va = _); cases (rb:vb = _)
 obtain ⟨ix,nx,lx,rx⟩:=O.list_get (hx m s R)
 obtain ⟨iy,ny,ly,ry⟩:=O.list_get (hy m s R)
 refine .new R (o:=.list (xs ++ ys)) (b:=fun a=>.ref a) h fun P k=>PySem.P.add_list lx ly (k _ _ _ s.toks push_grow (get_size _) (O.list_mk (n:=0) (Heap.get?_push_size _ rfl) ?_) rfl) (by rw [← Array.length_toList,← Array.length_toList,rx.length,ry.length]; exact hsz)
 rw [Array.toList_append]
 exact (R.liftL (.grow (H:=H) push_grow) rx).append (R.liftL (.grow (H:=H) push_grow) ry)
noncomputable abbrev Sub (c:Ctx) (value slice:Expr) (a i:V) (m:Lo) (H:Hp) (Q:V→Lo→Hp→Prop):Prop:=On2 c a i VR (subscriptTail value slice) m H Q
theorem e_sub {v i:Expr} (h:WPe c v m H fun a m1 H1=>WPe c i m1 H1 fun b m2 H2=>Sub c v i a b m2 H2 Q):WPe c (.Subscript v i pos) m H Q:=
 fun s R P k=>Subscript_ (h s R _ fun a va m1 H1 h1 tk1 R1 F1 r1 q1=>q1 _ R1 _ fun b vb m2 H2 h2 tk2 R2 F2 r2 q2=>q2 _ va vb R2 (R1.lift F2 r1) r2 P
  fun v v' m3 H3 h3 tk3 R3 F3 r3 q3=>k v v' m3 H3 h3 tk3 R3 ((F1.trans R1.hasL F2).trans R2.hasL F3) r3 q3)
theorem sub_list {v i:Expr} {x:Addr} {xs:List V} {k:Int} {u:V} (hx:Sees c H x (.list xs)) (h0:0≤k) (h1:xs[k.toNat]? = some u) (h:Q u m H)
  (hs:autoParam (∀ o t,subscripted i false (.ref o) (.int k t) = operate [.ref o,.int k t] (getItem (.ref o) (.int k t))) auFunU2) (hl:autoParam (xs.length≤sizeLine) auBle):Sub c v i (.ref x) (.int k) m H Q:=fun s va vb R ra rb=>by
 cases (ra:va = _); obtain ⟨t,rfl⟩:=rb
 obtain ⟨ix,nx,lx,rx⟩:=O.list_get (hx m s R)
 obtain ⟨w,hw,hr⟩:=rx.get h1
 have hk:k.toNat < xs.length:=(List.getElem?_eq_some_iff.mp h1).1
 have hz:k < 2 ^ 63:=by have:sizeLine = 16777216:=rfl; lia
 exact .done R (b:=u) (fun P p=>tail_any (IsL.isList lx).typeIs slot_list_getitem.lookup (wpAny_getItem_list (IsL.isList lx) h0 hz (by rw [← Array.getElem?_toList]; exact hw) p) (hs _ _)) hr h
end
section
variable {c:Ctx} {m:Lo} {H:Hp} {pos:Pos} {Q:V→Lo→Hp→Prop}
noncomputable def Cal (c:Ctx) (f:V) (vs:List V) (m:Lo) (H:Hp) (Q:V→Lo→Hp→Prop):Prop:=∀ s vf vvs,Rel c ⟨m,H⟩ s→f.rep s.heap vf→Reps s.heap vs vvs→Run c H s VR (call vf vvs) Q
noncomputable def KeepOk (c:Ctx) (f:V) (H:Hp):Prop:=∀ m s vf,Rel c ⟨m,H⟩ s→f.rep s.heap vf→∃ k,(k = Keeper.frame ∨ k = Keeper.machine ∨ k = Keeper.boundFrame)∧Looks (model c.prog c.w) s.heap (keeperOf vf) k
theorem keep_bi {id:String}:KeepOk c (.bi id) H:=fun m s vf R r=>by cases (r:vf = _); exact ⟨.machine,.inr (.inl rfl),.now⟩
theorem keep_ty {id:String}:KeepOk c (.ty id) H:=fun m s vf R r=>by cases (r:vf = _); exact ⟨.machine,.inr (.inl rfl),.now⟩
theorem evalArgs_nil {M:Model} {A:Around} {E:Value→Shared→Prop} {s:Shared} {f:Value} {Q:Args→Shared→Prop} (h:wpAny M A (spliced []) (fun vs s'=>Q ⟨vs,[]⟩ s') E s):wpAny M A (evalArgs f true [] []) Q E s:=by
 unfold evalArgs
 show wpAny M A (spliced [] >>= _) Q E s
 refine wpAny_bind (wpAny_mono h (fun vs s' h'=>?_) fun _ _ x=>x)
 refine wpAny_holding ?_
 exact wpAny_bind (wpAny_pure (wpAny_bind (wpAny_pure (wpAny_pure h'))))
theorem run_callWith {f:V} {first:List V} {args:List Expr} {vf:Value} {vfirst:List Value} {s:Shared} (R:Rel c ⟨m,H⟩ s) (rf:f.rep s.heap vf) (rfirst:Reps s.heap first vfirst)
  (h:WPitems c pos args m H fun vs m1 H1=>KeepOk c f H1∧Cal c f (first ++ vs) m1 H1 Q) (hplain:((backTo pos (starEach args c.env)).any (·.1) || ([]:List (Option Str × Sem Value)).any (·.1.isNone)) = false) (hne:∀ x r,backTo pos (starEach args c.env)≠(true,x) :: r) :
  Run c H s VR (callWith pos vf vfirst (backTo pos (starEach args c.env)) []) Q:=fun P k=>by
 refine callWith_of (P:=fun h=>∃ k,(k = Keeper.frame ∨ k = Keeper.machine ∨ k = Keeper.boundFrame)∧Looks (model c.prog c.w) h (keeperOf vf) k) hplain (fun h q=>q) ?_
 have main:wpAny (model c.prog c.w) c.A (spliced (backTo pos (starEach args c.env))) (fun vs s₁=>(∃ k,(k = Keeper.frame ∨ k = Keeper.machine ∨ k = Keeper.boundFrame)∧Looks (model c.prog c.w) s₁.heap (keeperOf vf) k)∧wpAny (model c.prog c.w) c.A (call vf (vfirst ++ vs) []) P (fun _ _=>False) s₁) (fun _ _=>False) s:=by
  refine h s R _ fun vs vv m1 H1 h1 tk1 R1 F1 r1 q1=>⟨q1.1 m1 _ vf R1 (R.lift F1 rf),?_⟩
  exact q1.2 _ vf _ R1 (R.lift F1 rf) ((R.liftL F1 rfirst).append r1) P fun v v' m3 H3 h3 tk3 R3 F3 r3 q3=>k v v' m3 H3 h3 tk3 R3 (F1.trans R1.hasL F3) r3 q3
 cases q:backTo pos (starEach args c.env) with
 | nil=>rw [q] at main; exact evalArgs_nil main
 | cons x r=>
  obtain ⟨b,x⟩:=x
  cases b with
  | true=>exact absurd q (hne x r)
  | false=>rw [q] at main; exact evalArgs_plain main
theorem e_call {fn:Expr} {args:List Expr} (h:WPe c fn m H fun f m0 H0=>WPitems c pos args m0 H0 fun vs m1 H1=>KeepOk c f H1∧Cal c f vs m1 H1 Q)
  (he:autoParam (eval (.Call fn args [] pos) c.env = (do callWith pos (← eval fn c.env) [] (backTo pos (starEach args c.env)) (backToKw pos (keywordEach [] c.env)))) auRfl)
  (hplain:autoParam (((backTo pos (starEach args c.env)).any (·.1) || ([]:List (Option Str × Sem Value)).any (·.1.isNone)) = false) auRfl) (hne:autoParam (∀ x r,backTo pos (starEach args c.env)≠(true,x) :: r) auNo):WPe c (.Call fn args [] pos) m H Q:=
 fun s R P k=>Call_ (h s R _ fun f vf m1 H1 h1 tk1 R1 F1 r1 q1=>run_callWith (first:=[]) R1 r1 rfl q1 hplain hne P fun v v' m3 H3 h3 tk3 R3 F3 r3 q3=>k v v' m3 H3 h3 tk3 R3 (F1.trans R1.hasL F3) r3 q3) he
noncomputable def GM (c:Ctx) (u:V) (name:Str) (f:V) (first:List V) (H:Hp):Prop:=∀ m s vu pl (P:Value × List Value→Shared→Prop),Rel c ⟨m,H⟩ s→u.rep s.heap vu→(∀ vf vfirst tk,f.rep s.heap vf→Reps s.heap first vfirst→P (vf,vfirst) { s with toks:=tk })→c.wp (getMethod vu name pl) P s
theorem e_method {o:Expr} {name:Str} {apos:Pos} {args:List Expr} {pl:Sem Bool}
  (h:WPe c o m H fun u m0 H0=>∃ f first,GM c u name f first H0∧WPitems c pos args m0 H0 fun vs m1 H1=>KeepOk c f H1∧Cal c f (first ++ vs) m1 H1 Q)
  (he:autoParam (eval (.Call (.Attribute o name apos) args [] pos) c.env = (do let ov ← eval o c.env; standAt apos.atName; let (f,first) ← holding [ov] (getMethod ov name pl); callWith pos f first (backTo pos (starEach args c.env)) [])) auRfl)
  (hplain:autoParam (((backTo pos (starEach args c.env)).any (·.1) || ([]:List (Option Str × Sem Value)).any (·.1.isNone)) = false) auRfl) (hne:autoParam (∀ x r,backTo pos (starEach args c.env)≠(true,x) :: r) auNo):WPe c (.Call (.Attribute o name apos) args [] pos) m H Q:=
 fun s R P k=>MethodCall_ (h s R _ fun u vu m1 H1 h1 tk1 R1 F1 r1 q1=>by
  obtain ⟨f,first,hg,q⟩:=q1
  exact hg m1 _ vu pl _ R1 r1 fun vf vfirst tk rf rfirst=>run_callWith (R1.toks (tkn (sw s h1 tk1) tk)) rf rfirst q hplain hne P fun v v' m3 H3 h3 tk3 R3 F3 r3 q3=>k v v' m3 H3 h3 tk3 R3 (F1.trans R1.hasL F3) r3 q3) he
theorem gm_list {a:Addr} {xs:List V} {name:Str} {id:String} (hx:Sees c H a (.list xs)) (slot:Slot "list" name id) (hty:typeOf (.builtin id) = pure (.type "method_descriptor")):GM c (.ref a) name (.bi id) [.ref a] H:=fun m s vu pl P R r k=>by
 cases (r:vu = _)
 obtain ⟨items,n,hl,_⟩:=O.list_get (hx m s R)
 exact getMethod_builtin (IsL.isList hl).typeIs F.plainAttrs_list slot hty (fun b e=>by cases e; exact ⟨_,hl,rfl⟩) (k _ _ s.toks rfl (.one rfl))
end
section
variable {c:Ctx} {m:Lo} {H:Hp} {pos:Pos} {Q:V→Lo→Hp→Prop}
theorem Reps.two {h:Heap} {x y:V} {vs:List Value} (r:Reps h [x,y] vs):∃ a b,vs = [a,b]∧x.rep h a∧y.rep h b:=by
 obtain ⟨a,r,rfl,ha,b,r2,rfl,hb,e⟩:=r
 cases e; exact ⟨a,b,rfl,ha,hb⟩
theorem Reps.sole {h:Heap} {x:V} {vs:List Value} (r:Reps h [x] vs):∃ a,vs = [a]∧x.rep h a:=by
 obtain ⟨a,r,rfl,ha,e⟩:=r
 cases e; exact ⟨a,rfl,ha⟩
theorem upd_kp {h:Heap} {a:Addr} {f:Obj→Obj}:∀ b ob,b≠a→h.get? b = some ob→(h.update a f).get? b = some ob:=fun b ob hb e=>(Heap.get?_update_other h f (Ne.symm hb)).trans e
theorem k_list_turn {a:Addr} {xs ys:List V} {H':Hp} {t:Sem Value} {s:Shared} {f:Array Value→Array Value} {u:V} (R:Rel c ⟨m,H⟩ s) (up:Upd a (.list xs) (.list ys) H H') {items:Array Value} {n:Nat} (hl:IsL s.heap a items n)
  (hr:∀ h',Fp c.env.locals H H' s.heap h'→Reps h' ys (f items).toList) {v:Value} (hv:∀ h',Fp c.env.locals H H' s.heap h'→u.rep h' v) (h:Q u m H') (hw:∀ P:Value→Shared→Prop,P v { s with heap:=s.heap.update a (Obj.mapSeq f),toks:=s.toks }→c.wp t P s):Run c H s VR t Q:=by
 have hu:=IsL.update hl f
 have F:Fp c.env.locals H H' s.heap (s.heap.update a (Obj.mapSeq f)):=.upd up upd_kp ⟨_,hu⟩
 exact .upd R up h fun P k=>hw P (k v _ s.toks upd_kp ⟨_,hu⟩ (fun F=>O.list_mk hu (hr _ F)) (hv _ F))
theorem k_append {a:Addr} {xs:List V} {x:V} {H':Hp} (up:Upd a (.list xs) (.list (xs ++ [x])) H H') (h:Q .none m H') (hsz:xs.length≤sizeLine):Cal c (.bi "list.append") [.ref a,x] m H Q:=fun s vf vvs R rf rv=>by
 cases (rf:vf = _)
 obtain ⟨va,vx,rfl,ra,rx⟩:=rv.two
 cases (ra:va = _)
 obtain ⟨items,n,hl,hr⟩:=O.list_get (R.obj _ _ up.mem)
 have hs:items.size≤sizeLine:=by rw [← Array.length_toList,hr.length]; exact hsz
 refine k_list_turn R up hl (f:=(·.push vx)) (u:=.none) (v:=.none) (fun h' F=>?_) (fun _ _=>rfl) h fun P p=>call_meets F.slot_list_append ⟨_,hl,rfl⟩ F.entry_list_append (F.args_list_append_2 _ _) (PySem.list_append a items n vx hs) ⟨hl,p⟩
 rw [Array.toList_push]
 exact (R.liftL F hr).append (.one (R.lift F rx))
theorem k_extend {a b:Addr} {xs ys:List V} {H':Hp} (hb:Sees c H b (.list ys)) (up:Upd a (.list xs) (.list (xs ++ ys)) H H') (h:Q .none m H') (hsz:xs.length + ys.length≤1000000):Cal c (.bi "list.extend") [.ref a,.ref b] m H Q:=fun s vf vvs R rf rv=>by
 cases (rf:vf = _)
 obtain ⟨va,vx,rfl,ra,rx⟩:=rv.two
 cases (ra:va = _); cases (rx:vx = _)
 obtain ⟨items,n,hl,hr⟩:=O.list_get (R.obj _ _ up.mem)
 obtain ⟨items2,n2,hl2,hr2⟩:=O.list_get (hb m s R)
 have hs:items.size + items2.size≤1000000:=by rw [← Array.length_toList,← Array.length_toList,hr.length,hr2.length]; exact hsz
 have z:sizeLine = 16777216:=rfl
 refine k_list_turn R up hl (f:=(· ++ items2)) (u:=.none) (v:=.none) (fun h' F=>?_) (fun _ _=>rfl) h fun P p=>call_meets F.slot_list_extend ⟨_,hl,rfl⟩ F.entry_list_extend (F.args_list_extend_2 _ _)
  (AutoSeq1.list_extend_list_list_0 a items n b items2 n2 (by
   intro q
   have:Builtin.List.listTooLong (items.size + items2.size) = true:=by simp at q; exact q.2
   unfold Builtin.List.listTooLong at this
   simp at this
   exact as3 3 (.l (.a Z0 Z1) (.n 1000000)) (.e Z2 (.n 16777216)) (.t Z2 (.a Z0 Z1)) .f [_,_,_] hs z this) (by exact as2 3 (.l (.a Z0 Z1) (.n 1000000)) (.e Z2 (.n 16777216)) (.l Z0 Z2) [_,_,_] hs z) (by exact as2 3 (.l (.a Z0 Z1) (.n 1000000)) (.e Z2 (.n 16777216)) (.l (.a Z0 Z1) (.a Z2 N1)) [_,_,_] hs z)) ⟨hl,hl2,p⟩
 rw [Array.toList_append]
 exact (R.liftL F hr).append (R.liftL F hr2)
theorem k_len {a:Addr} {xs:List V} (ha:Sees c H a (.list xs)) (h:Q (.int xs.length) m H) (hsz:xs.length≤1000000):Cal c (.bi "len") [.ref a] m H Q:=fun s vf vvs R rf rv=>by
 cases (rf:vf = _)
 obtain ⟨va,rfl,ra⟩:=rv.sole
 cases (ra:va = _)
 obtain ⟨items,n,hl,hr⟩:=O.list_get (ha m s R)
 have hz:items.size = xs.length:=by rw [← Array.length_toList,hr.length]
 exact .val R h fun P k=>PyProof.Rows.len_list (IsL.isList hl) (by lia) (k _ _ ⟨_,by rw [hz]⟩)
theorem k_range {n:Int} (h:∀ a,Q (.ref a) m ((a,.range 0 n 1) :: H)):Cal c (.ty "range") [.int n] m H Q:=fun s vf vvs R rf rv=>by
 cases (rf:vf = _)
 obtain ⟨va,rfl,ra⟩:=rv.sole
 obtain ⟨t,rfl⟩:=ra
 exact .new R (o:=.range 0 n 1) (b:=fun a=>.ref a) h fun P k=>call_range_1 (k _ _ _ _ push_grow (get_size _) ⟨_,_,_,Heap.get?_push_size _ rfl⟩ rfl)
theorem k_range2 {a b:Int} (h:∀ x,Q (.ref x) m ((x,.range a b 1) :: H)):Cal c (.ty "range") [.int a,.int b] m H Q:=fun s vf vvs R rf rv=>by
 cases (rf:vf = _)
 obtain ⟨va,vb,rfl,ra,rb⟩:=rv.two
 obtain ⟨t,rfl⟩:=ra; obtain ⟨u,rfl⟩:=rb
 exact .new R (o:=.range a b 1) (b:=fun a=>.ref a) h fun P k=>call_range_2 (k _ _ _ _ push_grow (get_size _) ⟨_,_,_,Heap.get?_push_size _ rfl⟩ rfl)
theorem iter_range {t:Expr} (ht:isNameOrTuple t = true) {it:Addr} {a:Int} {n:Nat}:Iter c t (.ref it) [it] n (fun i=>.int (a + i)) (fun _=>True) (fun i h=>i≤n∧IsRangeIter h it (a + i) (n - i) 1) (fun i _ h=>i + 1≤n∧IsRangeIter h it (a + (i + 1)) (n - (i + 1)) 1) where
 item:=fun i m H s hi R A ok j P k=>by
  obtain ⟨h1,h2,h3,_⟩:=A it (by simp)
  refine wpAny_pyNext_range_item j.2 (by omega) fun h' hit' hs'=>?_
  refine k _ h' (tkn s (s.toks + 1)) (R.off (h':=h') _ j.2 (fun _ _ _ q=>by cases q.2) h1 h2 h3 (Heap.SameBut.kp hs')) (one_off (Heap.SameBut.kp hs')) (A.one ⟨_,hit',fun _ _ _ q=>by cases q.2⟩) ⟨hi,?_⟩ ⟨_,rfl⟩
  have e1:a + (i:Int) + 1 = a + ((i:Int) + 1):=by lia
  have e2:(n:Int) - i - 1 = n - ((i:Int) + 1):=by lia
  rw [e1,e2] at hit'
  exact hit'
 go:=fun i v m H s R A j r P k=>letGo_other ht j.2 rfl rfl (by decide) (k s.heap (tkn s s.toks) R (fun _ _ _ e=>e) A (by simpa using j) r)
 done:=fun m H s R A ok j P k=>by
  obtain ⟨h1,h2,h3,_⟩:=A it (by simp)
  refine wpAny_pyNext_range_end c.hh j.2 (by lia) fun h' hs'=>?_
  exact k h' (tkn s s.toks) (R.off (tkn s s.toks) j.2 (fun _ _ _ q=>by cases q.2) h1 h2 h3 hs') (one_off hs')
 keep:=fun i h h' j hk=>⟨j.1,hk it (by simp) _ j.2⟩
 self:=fun s P j p=>wpAny_pyIter_rangeiter j.2 p
theorem it_range {t e:Expr} (ht:isNameOrTuple t = true) {Q:Nat→(Nat→V)→(Hp→Prop)→Lo→Hp→Prop}
  (h:WPe c e m H fun u m1 H1=>∃ x a b,u = .ref x∧Sees c H1 x (.range a b 1)∧(-1000000≤a∧a≤1000000)∧(-1000000≤b∧b≤1000000)∧Q (b - a).toNat (fun i=>.int (a + i)) (fun _=>True) m1 H1):WPit c t e m H Q:=fun s R P k=>by
 refine h s R _ fun u va m1 H1 h1 tk1 R1 F1 r1 q1=>?_
 obtain ⟨x,a,b,rfl,hs,ha,hb,q⟩:=q1
 cases (r1:va = _)
 obtain ⟨t1,u,v,hr⟩:=hs m1 _ R1
 have hsz:Builtin.Range.rangeSize a b 1 = ((b - a).toNat:Int):=by
  unfold Builtin.Range.rangeSize
  simp
  lia
 have hsmall:Builtin.Range.small a b 1 = true:=by
  unfold Builtin.Range.small
  rw [hsz]
  have f:∀ z:Int,-3000000≤z→z≤3000000→Builtin.Range.rangeFitsLong z = true:=fun z h1 h2=>by
   unfold Builtin.Range.rangeFitsLong
   simp
   lia
  rw [f a (by lia) (by lia),f b (by lia) (by lia),f 1 (by lia) (by lia),f _ (by lia) (by lia)]
  simp
  exact .inr (f _ (by lia) (by lia))
 refine wpAny_pyIter_range hr hsmall ?_
 rw [hsz]
 have hf:=R1.fresh (get_size h1)
 refine k (.ref h1.objs.size) [h1.objs.size] _ _ _ _ _ m1 H1 _ tk1 (iter_range ht (a:=a) (n:=(b - a).toNat)) (R1.grow tk1 push_grow) (F1.trans R1.hasL (.grow push_grow))
  (fun b hb=>by simp at hb; subst hb; exact ⟨hf.1,hf.2.1,hf.2.2,_,Heap.get?_push_size _ rfl,fun _ _ _ q=>by cases q.2⟩) (fun b hb=>by
   simp at hb; subst hb
   cases q:s.heap.get? h1.objs.size with
   | none=>rfl
   | some o=>obtain ⟨o',e⟩:=F1.alive _ _ q; rw [get_size] at e; cases e) ⟨Nat.zero_le _,by simpa using Heap.get?_push_size h1 (o:={ cls:=.type "range_iterator",data:=.fields #[rawInt a,rawInt ((b - a).toNat:Int),rawInt 1] }) rfl⟩ q
end
section
variable {c:Ctx} {m:Lo} {H:Hp} {pos:Pos} {Q:V→Lo→Hp→Prop}
theorem WPs.post {b:List Stmt} {Q:Fl→Lo→Hp→Prop} (h:WPs c b m H fun f m' H'=>∃ m2 H2,Less m' H' m2 H2∧Q f m2 H2):WPs c b m H Q:=
 fun s R P k=>h s R P fun b v m' H' h tk R' F r ⟨m2,H2,l,q⟩=>k b v m2 H2 h tk (R'.weaken l.1 l.2.1 (l.2.2 R'.nd)) ⟨F.keep,fun b hb=>F.dom b (by obtain ⟨p,hp,e⟩:=List.mem_map.mp hb; exact e ▸ List.mem_map.mpr ⟨p,l.2.1 p hp,rfl⟩),F.alive⟩ r q
noncomputable def CalC (c:Ctx) (f:V) (vs:List V) (m:Lo) (H:Hp) (Q:V→Lo→Hp→Prop):Prop:=∀ s vf vvs,Rel c ⟨m,H⟩ s→f.rep s.heap vf→Reps s.heap vs vvs→∀ P:Value→Shared→Prop,
 (∀ b v m' H' h tk,Rel c ⟨m',H'⟩ (sw s h tk)→Fp c.env.locals H H' s.heap h→VR h b v→Q b m' H'→P v (sw s h tk)) →
 codeAny (model c.prog c.w) c.A (.call vf ⟨vvs,[]⟩) (fun r s'=>match r with | .ok (.ret v)=>P v s' | .ok _=>False | .error _=>False) s
theorem CalC.cal {f:V} {vs:List V} (h:CalC c f vs m H Q):Cal c f vs m H Q:=fun s vf vvs R rf rv P k=>wpAny_call (h s vf vvs R rf rv P k)
noncomputable def BRep (h:Heap) (bs:List (Str × V)) (binds:List (Str × Value)):Prop:=binds.map (·.1) = bs.map (·.1)∧Reps h (bs.map (·.2)) (binds.map (·.2))
theorem BRep.cons {h:Heap} {x:Str} {u:V} {bs:List (Str × V)} {binds:List (Str × Value)} (b:BRep h ((x,u) :: bs) binds):∃ v r,binds = (x,v) :: r∧u.rep h v∧BRep h bs r:=by
 obtain ⟨h1,h2⟩:=b
 cases binds with
 | nil=>simp at h1
 | cons p r=>
  obtain ⟨y,v⟩:=p
  simp only [List.map_cons,List.cons.injEq] at h1
  obtain ⟨w,r',e,hv,hr⟩:=h2
  simp only [List.map_cons,List.cons.injEq] at e
  obtain ⟨rfl,rfl⟩:=e
  obtain ⟨rfl,h1⟩:=h1
  exact ⟨v,r,rfl,hv,h1,hr⟩
noncomputable def locOf (names:List (Str × NameKind)) (bs:List (Str × V)):Lo:=(bs.filter fun p=>decide (names.lookup p.1 = some .local)).reverse
noncomputable def celOf (names:List (Str × NameKind)) (bs:List (Str × V)) (n:Str):Option V:=((bs.filter fun p=>!decide (names.lookup p.1 = some .local)).reverse).lookup n
theorem bindL_rep {h:Heap} {kindOf:Str→Option NameKind}:∀ {bs:List (Str × V)} {binds:List (Str × Value)} {m:Str→Option Value} {acc:Lo},BRep h bs binds→(∀ x u,acc.lookup x = some u→∃ v,m x = some v∧u.rep h v) →
  ∀ x u,((bs.filter fun p=>decide (kindOf p.1 = some .local)).reverse ++ acc).lookup x = some u→∃ v,bindL kindOf binds m x = some v∧u.rep h v
 | [],binds,m,acc,b,hm,x,u,e=>by
  cases binds with
  | nil=>exact hm x u e
  | cons p r=>have:=b.1; simp at this
 | (y,w) :: bs,_,m,acc,b,hm,x,u,e=>by
  obtain ⟨v,r,rfl,hv,hr⟩:=b.cons
  unfold bindL
  rw [List.filter_cons] at e
  by_cases hk:kindOf y = some .local
  ·rw [if_pos (by simpa using hk),List.reverse_cons,List.append_assoc] at e
   rw [if_pos hk]
   refine bindL_rep (acc:=[(y,w)] ++ acc) hr (fun z t q=>?_) x u e
   simp only [List.cons_append,List.nil_append,List.lookup_cons] at q
   cases hb:z == y with
   | true=>rw [hb] at q; cases q; exact ⟨v,if_pos (beq_iff_eq.mp hb),hv⟩
   | false=>
    rw [hb] at q
    obtain ⟨v',e1,e2⟩:=hm z t q
    exact ⟨v',(if_neg (fun q=>by subst q; simp at hb)).trans e1,e2⟩
  ·rw [if_neg (by simpa using hk)] at e
   rw [if_neg hk]
   exact bindL_rep hr hm x u e
noncomputable def cellRep (h:Heap) (u:Option V) (v:Option Value):Prop:=match u with
 | .none=>v = .none
 | some u=>∃ w,v = some w∧u.rep h w
theorem bindC_rep {h:Heap} {kindOf:Str→Option NameKind}:∀ {bs:List (Str × V)} {binds:List (Str × Value)} {m:Str→Option Value} {acc:Lo},BRep h bs binds→(∀ x,cellRep h (acc.lookup x) (m x)) →
  ∀ x,cellRep h (((bs.filter fun p=>!decide (kindOf p.1 = some .local)).reverse ++ acc).lookup x) (bindC kindOf binds m x)
 | [],binds,m,acc,b,hm,x=>by
  cases binds with
  | nil=>exact hm x
  | cons p r=>have:=b.1; simp at this
 | (y,w) :: bs,_,m,acc,b,hm,x=>by
  obtain ⟨v,r,rfl,hv,hr⟩:=b.cons
  unfold bindC
  rw [List.filter_cons]
  by_cases hk:kindOf y = some .local
  ·rw [if_neg (by simpa using hk),if_pos hk]
   exact bindC_rep hr hm x
  ·rw [if_pos (by simpa using hk),if_neg hk,List.reverse_cons,List.append_assoc]
   refine bindC_rep (acc:=[(y,w)] ++ acc) hr (fun z=>?_) x
   simp only [List.cons_append,List.nil_append,List.lookup_cons]
   cases hb:z == y with
   | true=>exact ⟨v,if_pos (beq_iff_eq.mp hb),hv⟩
   | false=>
    have:=hm z
    rw [if_neg (fun q=>by subst q; simp at hb)]
    exact this
noncomputable def Ctx.enter (c:Ctx) (fd:FuncData) (a L:Addr) (k:Nat) (hf:c.fuel = k + 1) (hk:fd.scope.kind = .function):Ctx:=
 ⟨c.prog,c.w,c.A.deeper (callEnvC fd L a),callEnvC fd L a,c.G,k,c.hh,(by have:=c.hd; rw [hf] at this; show c.A.depth + 1 + k < recursionLimit; exact as1 3 (.t (.a Z0 (.a Z1 N1)) Z2) (.t (.a (.a Z0 N1) Z1) Z2) [_,_,_] this),
  (by have:=c.hu; rw [hf] at this; show c.A.units + 3 + 40 * k + 400 < cLine; exact as1 3 (.t (.a (.a Z0 (.m 40 (.a Z1 N1))) (.n 400)) Z2) (.t (.a (.a (.a Z0 (.n 3)) (.m 40 Z1)) (.n 400)) Z2) [_,_,_] this),hk⟩
noncomputable def cellsAt (L:Addr) (fd:FuncData) (bs:List (Str × V)):Hp:=(cellsFrom (L + 1) fd.scope.names []).map fun p=>(p.2,.cell (celOf fd.scope.names bs p.1))
noncomputable def Fl.val:Fl→V
 | .ret v=>v
 | _=>.none
theorem cal_fn {fa:Addr} {fd:FuncData} {body:List Stmt} {vs:List V} {bs:List (Str × V)} {k:Nat} (hfu:c.fuel = k + 1) (hf:c.Knows fun h=>∃ o,h.get? fa = some o∧o.data = .func fd) (hcd:c.Knows fun h=>h.CodeRec fd.code fd.qualname)
  (hlim:c.Knows Heap.NoLimit) (hbody:fd.body = .stmts body) (hclo:fd.closure = []) (hk:fd.scope.kind = .function) (hco:fd.scope.isCoroutine = false) (hgen:fd.scope.isGenerator = false)
  (hbind:∀ m H s vvs,Rel c ⟨m,H⟩ s→Reps s.heap vs vvs→∃ binds,BindsTo s fd ⟨vvs,[]⟩ binds∧BRep s.heap bs binds)
  (hkind:∀ n x,x∈bs→fd.scope.names.lookup x.1 = some .local ∨ (fd.scope.names.lookup x.1 = some .cell∧((cellsFrom n fd.scope.names []).lookup x.1).isSome = true))
  (hnd:∀ n x,x∈cellsFrom n fd.scope.names []→(cellsFrom n fd.scope.names []).lookup x.1 = some x.2)
  (h:∀ L,WPs (c.enter fd fa L k hfu hk) body (locOf fd.scope.names bs) (cellsAt L fd bs ++ H) fun f _ H'=>Q f.val m H'):CalC c (.ref fa) vs m H Q:=fun s vf vvs R rf rv P kont=>by
 cases (rf:vf = _)
 obtain ⟨o,ho,hd⟩:=hf s.heap R.keep
 obtain ⟨binds,hb,br⟩:=hbind m H s vvs R rv
 have hkd:∀ x∈binds,fd.scope.names.lookup x.1 = some .local ∨ (fd.scope.names.lookup x.1 = some .cell∧((cellsFrom (s.heap.objs.size + 1) fd.scope.names []).lookup x.1).isSome = true):=fun x hx=>by
  have:x.1∈bs.map (·.1):=br.1 ▸ List.mem_map.mpr ⟨x,hx,rfl⟩
  obtain ⟨y,hy,e⟩:=List.mem_map.mp this
  have:=hkind (s.heap.objs.size + 1) y hy
  rw [e] at this
  exact this
 refine codeAny_call_function (Nat.lt_of_le_of_lt (Nat.le_add_right _ _) c.hd) ho hd hco hgen hbody (hcd s.heap R.keep) ?_
 refine hb _ _ _ _ ?_
 rw [hclo]
 refine wpAny_newFunctionEnv_cells hk hkd fun env he s₁ x=>?_
 subst he
 obtain ⟨h₁,tk₁,rfl⟩:=x.toInCall.same
 have hg:∀ b o,s.heap.get? b = some o→h₁.get? b = some o:=x.toInCall.keep
 refine ⟨(hlim s.heap R.keep).keeps hg,codeAny_func ?_⟩
 generalize hL:s.heap.objs.size = L at *
 have fresh:s.heap.get? L = .none:=hL ▸ get_size _
 have hcell:∀ p∈cellsAt L fd bs,s.heap.get? p.1 = .none:=fun p hp=>by
  obtain ⟨q,hq,rfl⟩:=List.mem_map.mp hp
  exact get_ge (by have:=x.above q.1 q.2 hq; rw [hL]; exact Nat.le_of_lt this)
 have lift:∀ {u v},V.rep s.heap u v→V.rep h₁ u v:=fun r=>V.rep_fp r R (Fp.grow hg)
 have R₁:Rel (c.enter fd fa L k hfu hk) ⟨locOf fd.scope.names bs,cellsAt L fd bs ++ H⟩ (sw s h₁ (tkn s tk₁)):=by
  have br₁:BRep h₁ bs binds:=⟨br.1,R.liftL (Fp.grow hg) br.2⟩
  refine ⟨⟨_,x.toInCall.ns,fun y u e=>bindL_rep (acc:=[]) br₁ (fun z t q=>by cases q) y u (by rw [List.append_nil]; exact e)⟩,?_,?_,?_,fun b o e=>hg b o (R.keep b o e),(R.fresh fresh).2.2,R.bare⟩
  ·intro a o hm
   rcases List.mem_append.mp hm with hm | hm
   ·obtain ⟨q,hq,e⟩:=List.mem_map.mp hm
    cases e
    obtain ⟨oc,hoc,hdc⟩:=x.cell q.1 q.2 (hnd _ q hq)
    have:=bindC_rep (kindOf:=fun n=>fd.scope.names.lookup n) (acc:=[]) br₁ (m:=fun _=>.none) (fun z=>rfl) q.1
    rw [List.append_nil] at this
    refine ⟨oc,hoc,_,hdc,?_⟩
    unfold cellRep at this
    exact this
   ·exact O.rep_keep (R.obj a o hm) R (Fp.grow hg) fun ob e=>hg _ _ e
  ·rw [dom,List.map_append]
   refine List.nodup_append.mpr ⟨?_,R.nd,?_⟩
   ·show ((cellsAt L fd bs).map (·.1)).Nodup
    unfold cellsAt
    rw [List.map_map]
    exact List.pairwise_map.mpr x.apart
   ·intro a ha b hb e
    subst e
    obtain ⟨p,hp,rfl⟩:=List.mem_map.mp ha
    obtain ⟨o,ho⟩:=R.lt hb
    rw [hcell p hp] at ho; cases ho
  ·intro a ha
   show a≠L∧c.G a = .none
   rw [dom,List.map_append] at ha
   rcases List.mem_append.mp ha with ha | ha
   ·obtain ⟨p,hp,rfl⟩:=List.mem_map.mp ha
    obtain ⟨q,hq,rfl⟩:=List.mem_map.mp hp
    exact ⟨Nat.ne_of_gt (x.above q.1 q.2 hq),(R.fresh (hcell _ hp)).2.2⟩
   ·have ha':a∈dom H:=ha
    refine ⟨fun e=>?_,(R.apart a ha').2⟩
    obtain ⟨o,ho⟩:=R.lt ha'
    rw [e,fresh] at ho; cases ho
 have hLd:c.env.locals∉dom (cellsAt L fd bs ++ H):=fun q=>by
  rw [dom,List.map_append] at q
  rcases List.mem_append.mp q with ha | ha
  ·obtain ⟨p,hp,e⟩:=List.mem_map.mp ha
   obtain ⟨o,ho⟩:=R.hasL
   rw [← e,hcell p hp] at ho; cases ho
  ·exact (R.apart _ ha).1 rfl
 have hLL:c.env.locals≠L:=(R.fresh fresh).2.1.symm
 refine wpAny_mono (h L _ R₁ _ fun f vf m' H' h₂ tk₂ R₂ F₂ r₂ q₂=>?_) (fun _ _ q=>q) fun _ _ q=>q.elim
 have F₂':Fp L (cellsAt L fd bs ++ H) H' h₁ h₂:=F₂
 have out:∀ b o,b∉dom H→s.heap.get? b = some o→h₂.get? b = some o:=fun b o hb e=>by
  refine F₂'.keep b o (fun q=>?_) (fun q=>by subst q; rw [fresh] at e; cases e) (hg b o e)
  rw [dom,List.map_append] at q
  rcases List.mem_append.mp q with ha | ha
  ·obtain ⟨p,hp,rfl⟩:=List.mem_map.mp ha
   rw [hcell p hp] at e; cases e
  ·exact hb ha
 have F:Fp c.env.locals H H' s.heap h₂:=by
  refine ⟨fun b o hb _ e=>out b o hb e,fun b hb=>?_,fun b o e=>F₂'.alive b o (hg b o e)⟩
  rcases F₂'.dom b hb with q | q
  ·rw [dom,List.map_append] at q
   rcases List.mem_append.mp q with ha | ha
   ·obtain ⟨p,hp,rfl⟩:=List.mem_map.mp ha
    exact .inr (hcell p hp)
   ·exact .inl ha
  ·cases e:s.heap.get? b with
   | none=>exact .inr rfl
   | some o=>rw [hg b o e] at q; cases q
 have RR:Rel c ⟨m,H'⟩ (sw s h₂ tk₂):=by
  refine R.change tk₂ F ?_ R₂.obj R₂.nd R₂.bare
  obtain ⟨m',hn,q⟩:=R.loc
  obtain ⟨oL,es,ep,hoL,rL⟩:=hn
  exact ⟨m',⟨oL,es,ep,out _ _ (fun q=>(R.apart _ q).1 rfl) hoL,rL⟩,fun x u e=>let ⟨v,h1,h2⟩:=q x u e; ⟨v,h1,V.rep_fp h2 R F⟩⟩
 cases f with
 | next=>cases (r₂:vf = .next); exact kont .none _ m H' h₂ tk₂ RR F rfl q₂
 | brk=>cases (r₂:vf = .brk); exact kont .none _ m H' h₂ tk₂ RR F rfl q₂
 | cont=>cases (r₂:vf = .cont); exact kont .none _ m H' h₂ tk₂ RR F rfl q₂
 | ret u=>obtain ⟨v,rfl,hv⟩:=r₂; exact kont u _ m H' h₂ tk₂ RR F hv q₂
end
theorem compLoop_any {prog:Program} {w:World} {A:Around} {R:Result→Shared→Prop} {s:Shared} {elt target iter:Expr} {ifs:List Expr} {scope:Scope} {pos:Pos} {it acc:Value} {env:Env} (I:Nat→Shared→Prop)
  (turn:∀ n s,I n s→wpAny (model prog w) A (pyNext it) (fun r s₁=>match r with
   | .none=>R (.ok .next) s₁
   | some v=>wpAny (model prog w) A (letOwnedTupleGo target it v) (fun _ s₁'=>wpAny (model prog w) A (assign target env v) (fun _ s₂=>
     wpAny (model prog w) A (forIn ifs true fun c r=>if r = true then do let ok ← isTrue c env (eval c env); pure (ForInStep.yield ok) else pure (ForInStep.yield r)) (fun ok s₃=>
      if ok = true then wpAny (model prog w) A (eval elt env) (fun x s₄=>
       wpAny (model prog w) A (call (.builtin "list.append") [acc,x]) (fun _ s₅=>∃ m,m < n∧I m s₅) (fun _ _=>False) s₄) (fun _ _=>False) s₃
      else ∃ m,m < n∧I m s₃) (fun _ _=>False) s₂) (fun _ _=>False) s₁') (fun _ _=>False) s₁) (fun _ _=>False) s)
  (n:Nat) (h:I n s):codeAny (model prog w) A (.compLoop (.ListComp elt [⟨target,iter,ifs,0⟩] scope pos) 0 it acc env) R s:=by
 refine codeAny_loop rfl I (fun n s hI=>?_) n h
 show wpAny _ A ((compTurn (.ListComp elt [⟨target,iter,ifs,0⟩] scope pos) 0 it acc env).onRaise (fun x=>do noteFrame x env; theTreesLotGoes x)) _ _ s
 refine wpAny_noted ?_
 rw [compTurn_list]
 refine wpAny_bind (wpAny_standAt (wpAny_bind (wpAny_mono (turn n s hI) (fun r s₁ h₁=>?_) fun _ _ h'=>h'.elim)))
 cases r with
 | none=>exact wpAny_pure h₁
 | some v=>
  refine wpAny_bind (wpAny_mono h₁ (fun _ s₁' h₁'=>?_) fun _ _ h'=>h'.elim)
  refine wpAny_bind (wpAny_mono h₁' (fun _ s₂ h₂=>wpAny_bind (wpAny_mono h₂ (fun ok s₃ h₃=>?_) fun _ _ h'=>h'.elim)) fun _ _ h'=>h'.elim)
  cases ok with
  | false=>exact wpAny_pure ⟨rfl,h₃⟩
  | true=>exact wpAny_bind (wpAny_bind (wpAny_mono h₃ (fun x s₄ h₄=>wpAny_bind (wpAny_mono h₄ (fun _ s₅ h₅=>wpAny_pure (wpAny_pure ⟨rfl,h₅⟩)) fun _ _ h'=>h'.elim)) fun _ _ h'=>h'.elim))
noncomputable def WPifs (c:Ctx):List Expr→Lo→Hp→(Bool→Lo→Hp→Prop)→Prop
 | [],m,H,Q=>Q true m H
 | e :: r,m,H,Q=>WPt c e m H fun b m1 H1=>if b then WPifs c r m1 H1 Q else Q false m1 H1
theorem tests_false {M:Model} {A:Around} {E:Value→Shared→Prop} {s:Shared} {env:Env} {Q:Bool→Shared→Prop} (h:Q false s):∀ l:List Expr,
  wpAny M A (forIn l false fun c r=>if r = true then do let ok ← isTrue c env (eval c env); pure (ForInStep.yield ok) else pure (ForInStep.yield r)) Q E s
 | []=>wpAny_pure h
 | e :: l=>by
  rw [List.forIn_cons]
  exact wpAny_bind (wpAny_pure (tests_false h l))
theorem WPifs.run {c:Ctx}:∀ {l:List Expr} {m:Lo} {H:Hp} {Q:Bool→Lo→Hp→Prop} (h:WPifs c l m H Q) (s:Shared) (R:Rel c ⟨m,H⟩ s),
  Run c H s BR (forIn l true fun e r=>if r = true then do let ok ← isTrue e c.env (eval e c.env); pure (ForInStep.yield ok) else pure (ForInStep.yield r)) Q
 | [],m,H,Q,h,s,R=>.done R (b:=true) (fun P p=>wpAny_pure p) rfl h
 | e :: l,m,H,Q,h,s,R=>fun P k=>by
  rw [List.forIn_cons]
  refine wpAny_bind ?_
  show wpAny _ _ (isTrue e c.env (eval e c.env) >>= fun ok=>pure (ForInStep.yield ok)) _ _ s
  refine wpAny_bind (h s R _ fun b vb m1 H1 h1 tk1 R1 F1 r1 q1=>wpAny_pure ?_)
  cases r1
  cases b with
  | false=>exact tests_false (k false _ m1 H1 h1 tk1 R1 F1 rfl q1) l
  | true=>exact WPifs.run (l:=l) q1 _ R1 P fun v v' m3 H3 h3 tk3 R3 F3 r3 q3=>k v v' m3 H3 h3 tk3 R3 (F1.trans R1.hasL F3) r3 q3
theorem WPifs.go {c:Ctx} {l:List Expr} {m:Lo} {H:Hp} {Q:Bool→Lo→Hp→Prop} (h:WPifs c l m H Q) {s:Shared} (R:Rel c ⟨m,H⟩ s) {P:Bool→Shared→Prop}
  (kt:∀ m' H' h' tk',Rel c ⟨m',H'⟩ (sw s h' tk')→Fp c.env.locals H H' s.heap h'→Q true m' H'→P true (sw s h' tk')) (kf:∀ m' H' h' tk',Rel c ⟨m',H'⟩ (sw s h' tk')→Fp c.env.locals H H' s.heap h'→Q false m' H'→P false (sw s h' tk')) :
  wpAny (model c.prog c.w) c.A (forIn l true fun e r=>if r = true then do let ok ← isTrue e c.env (eval e c.env); pure (ForInStep.yield ok) else pure (ForInStep.yield r)) P (fun _ _=>False) s:=
 h.run s R P fun b vb m' H' h' tk' R' F' r q=>by
  cases (r:b = vb)
  cases b
  ·exact kf m' H' h' tk' R' F' q
  ·exact kt m' H' h' tk' R' F' q
theorem abs2 {α β:Type} {R:Prop} (J:α→β→Prop) (h:∀ JJ:α→β→Prop,(∀ a b,J a b→JJ a b)→(∀ a b,JJ a b→J a b)→R):R:=h J (fun _ _=>id) (fun _ _=>id)
noncomputable def Ctx.comp (c:Ctx) (scope:Scope) (cl:List (Str × Addr)) (C:Addr) (hk:scope.kind = .function):Ctx:=
 ⟨c.prog,c.w,c.A,compEnvC scope cl C c.env,c.G,c.fuel,c.hh,c.hd,c.hu,hk⟩
section
variable {c:Ctx} {m:Lo} {H:Hp} {pos:Pos} {Q:V→Lo→Hp→Prop}
theorem Rel.inner {scope:Scope} {cl:List (Str × Addr)} {C:Addr} {hk:scope.kind = .function} {s:Shared} {m0:Str→Option Value} (R:Rel c ⟨m,H⟩ s) (hn:s.heap.Ns C m0) (h1:C∉dom H) (h3:c.G C = .none):Rel (c.comp scope cl C hk) ⟨[],H⟩ s:=
 ⟨⟨m0,hn,fun x u e=>by cases e⟩,R.obj,R.nd,fun a ha=>⟨fun e=>(by have e':a = C:=e; subst e'; exact h1 ha),(R.apart a ha).2⟩,R.keep,h3,R.bare⟩
theorem Rel.outer {scope:Scope} {cl:List (Str × Addr)} {C:Addr} {hk:scope.kind = .function} {s:Shared} {m0 m':Lo} {H':Hp} {h':Heap} {tk:Tk} (R:Rel c ⟨m,H⟩ s) (R0:Rel (c.comp scope cl C hk) ⟨m0,H⟩ s) (hne:c.env.locals≠C)
  (F:Fp C H H' s.heap h') (R':Rel (c.comp scope cl C hk) ⟨m',H'⟩ (sw s h' tk)):Rel c ⟨m,H'⟩ (sw s h' tk):=by
 refine ⟨?_,R'.obj,R'.nd,fun a ha=>⟨fun e=>?_,(R'.apart a ha).2⟩,R'.keep,R.gl,R'.bare⟩
 ·obtain ⟨m',hn,q⟩:=R.loc
  obtain ⟨oL,es,ep,hoL,rL⟩:=hn
  exact ⟨m',⟨oL,es,ep,F.keep _ _ (fun q=>(R.apart _ q).1 rfl) hne hoL,rL⟩,fun x u e=>let ⟨v,h1,h2⟩:=q x u e; ⟨v,h1,V.rep_fp h2 R0 F⟩⟩
 ·rcases F.dom a ha with q | q
  ·exact (R.apart a q).1 e
  ·subst e; obtain ⟨o,ho⟩:=R.hasL; rw [q] at ho; cases ho
theorem Fp.via {L C:Addr} {H H' H'':Hp} {base h h':Heap} (F:Fp L H H' base h) (hC:base.get? C = .none) (F':Fp C H' H'' h h'):Fp L H H'' base h' where
 keep:=fun b o hb hL e=>F'.keep b o (fun q=>(F.dom b q).elim hb fun n=>by rw [n] at e; cases e) (fun q=>by subst q; rw [hC] at e; cases e) (F.keep b o hb hL e)
 dom:=fun b hb=>(F'.dom b hb).elim (F.dom b) fun n=>by
  cases q:base.get? b with
  | none=>exact .inr rfl
  | some o=>obtain ⟨o',e⟩:=F.alive b o q; rw [n] at e; cases e
 alive:=fun b o e=>let ⟨o',e'⟩:=F.alive b o e; F'.alive b o' e'
noncomputable def WPcomp (c:Ctx) (scope:Scope) (cl:List (Str × Addr)) (hk:scope.kind = .function) (t elt:Expr) (ifs:List Expr) (n:Nat) (x:Nat→V) (Ok:Hp→Prop) (H1:Hp) (Qf:List V→Hp→Prop):Prop:=
 ∀ C,∃ I:Nat→List V→Hp→Prop,I 0 [] H1∧(∀ i ys H2,i < n→I i ys H2→Ok H2∧Asg (c.comp scope cl C hk) t (x i) [] H2 fun m3 H3=>WPifs (c.comp scope cl C hk) ifs m3 H3 fun b m4 H4=>
  if b then WPe (c.comp scope cl C hk) elt m4 H4 fun v _ H5=>I (i + 1) (ys ++ [v]) H5 else I (i + 1) ys H4)∧∀ ys H2,I n ys H2→Ok H2∧Qf ys H2
structure CompJ' (c:Ctx) (s:Shared) (m1:Lo) (H:Hp) (base:Heap) (fp:List Addr) (D C:Addr) (J:Nat→Heap→Prop) (I:Nat→List V→Hp→Prop) (n k:Nat) (s':Shared) (i:Nat) (ys:List V) (m2:Str→Option Value) (H':Hp) (h':Heap) (tk':Tk) (items:Array Value) (nn:Nat):Prop where
 eq:s' = (sw s h' tk')
 rel:Rel c ⟨m1,H'⟩ s'
 fpp:Fp c.env.locals H H' base h'
 aside:Aside c H' h' (fp ++ [D])
 out:C∉dom H'∧C≠c.env.locals∧c.G C = .none
 ns:h'.Ns C m2
 isl:IsL h' D items nn
 reps:Reps h' ys items.toList
 jj:J i h'
 inv:I i ys H'
 le:i≤n
 len:ys.length≤i
 kk:k = n + 1 - i
noncomputable def CompJ (c:Ctx) (s:Shared) (m1:Lo) (H:Hp) (base:Heap) (fp:List Addr) (D C:Addr) (J:Nat→Heap→Prop) (I:Nat→List V→Hp→Prop) (n k:Nat) (s':Shared):Prop:=∃ i ys m2 H' h' tk' items nn,CompJ' c s m1 H base fp D C J I n k s' i ys m2 H' h' tk' items nn
theorem CompJ.use {s:Shared} {m1:Lo} {base:Heap} {fp:List Addr} {D C:Addr} {J:Nat→Heap→Prop} {I:Nat→List V→Hp→Prop} {n k:Nat} {s':Shared} {G:Shared→Prop} (h:CompJ c s m1 H base fp D C J I n k s')
  (f:∀ i ys m2 H' h' tk' items nn,Rel c ⟨m1,H'⟩ (sw s h' tk')→Fp c.env.locals H H' base h'→Aside c H' h' (fp ++ [D])→(C∉dom H'∧C≠c.env.locals∧c.G C = .none)→h'.Ns C m2→IsL h' D items nn→Reps h' ys items.toList→J i h'→I i ys H'→i≤n→ys.length≤i→k = n + 1 - i→G (sw s h' tk')):G s':=by
 obtain ⟨i,ys,m2,H',h',tk',items,nn,rfl,a1,a2,a3,a4,a5,a6,a7,a8,a9,b1,b2,b3⟩:=h
 exact f i ys m2 H' h' tk' items nn a1 a2 a3 a4 a5 a6 a7 a8 a9 b1 b2 b3
theorem mem_snoc {α:Type} (l:List α) (a:α):a∈l ++ [a]:=List.mem_append_right _ (List.mem_singleton_self a)
theorem notTup_list {items:Array Value} {nn:Nat}:NotTup { cls:=.type "list",dict:=.none,data:=.seq items nn,slots:=#[] }:=fun k its m q=>by cases k <;> exact absurd q.1 (by unfold clsOf; simp)
theorem comp_push {m1:Lo} {H7:Hp} {s:Shared} {h7:Heap} {tk7:Tk} {D:Addr} {items:Array Value} {nn:Nat} {ys:List V} {u:V} {vu:Value} {G:Heap→Prop} (R7c:Rel c ⟨m1,H7⟩ (sw s h7 tk7)) (hl7:IsL h7 D items nn) (hr7:Reps h7 ys items.toList) (r7:u.rep h7 vu) (aD:D∉dom H7) (hDL:D≠c.env.locals) (gD:c.G D = .none)
  (k:∀ h8 items' nn',Rel c ⟨m1,H7⟩ (sw s h8 tk7)→IsL h8 D items' nn'→Reps h8 (ys ++ [u]) items'.toList→(∀ b o,b≠D→h7.get? b = some o→h8.get? b = some o)→G h8):G (h7.update D (Obj.mapSeq (·.push vu))):=by
 have A:Aside c H7 h7 [D]:=fun b hb=>by rw [List.mem_singleton.mp hb]; exact ⟨aD,hDL,gD,_,hl7,notTup_list⟩
 have kp:∀ b o,b≠D→h7.get? b = some o→(h7.update D (Obj.mapSeq (·.push vu))).get? b = some o:=upd_kp
 refine k _ _ _ (R7c.off tk7 hl7 notTup_list aD hDL gD kp) (IsL.update hl7 (·.push vu)) ?_ kp
 rw [Array.toList_push]
 exact (lift_offL A (one_off kp) hr7).append (.one (lift_off A (one_off kp) r7))
theorem comp_loop {RR:Result→Shared→Prop} {scope:Scope} {cl:List (Str × Addr)} {hk:scope.kind = .function} {t elt iter:Expr} {ifs:List Expr} {it:Value} {fp:List Addr} {n:Nat} {x:Nat→V} {Ok:Hp→Prop} {J:Nat→Heap→Prop} {J':Nat→Value→Heap→Prop}
  {H1:Hp} {m1:Lo} {s:Shared} {base:Heap} {D C:Addr} {Qf:List V→Hp→Prop} {m0:Str→Option Value} (W:Iter c t it fp n x Ok J J') (hsz:n≤sizeLine) (hw:WPcomp c scope cl hk t elt ifs n x Ok H1 Qf)
  (R1:Rel c ⟨m1,H1⟩ s) (F1:Fp c.env.locals H H1 base s.heap) (A1:Aside c H1 s.heap (fp ++ [D])) (hfr:∀ b∈fp,base.get? b = .none) (hD:base.get? D = .none) (hC:base.get? C = .none) (hCo:C∉dom H1∧C≠c.env.locals∧c.G C = .none) (hCf:C∉fp) (hDf:D∉fp) (hCD:C≠D)
  (hn:s.heap.Ns C m0) (hl:IsL s.heap D #[] 0) (j:J 0 s.heap)
  (post:∀ ys H2 h2 tk2 m2,Rel c ⟨m1,(D,.list ys) :: H2⟩ (sw s h2 tk2)→Fp c.env.locals H ((D,.list ys) :: H2) base h2→h2.Ns C m2→(C∉dom H2∧C≠c.env.locals∧c.G C = .none)→Qf ys H2→RR (.ok .next) (sw s h2 tk2)) :
  codeAny (model c.prog c.w) c.A (.compLoop (.ListComp elt [⟨t,iter,ifs,0⟩] scope pos) 0 it (.ref D) (compEnvC scope cl C c.env)) RR s:=by
 obtain ⟨I,i0,step,fin⟩:=hw C
 refine abs2 (CompJ c s m1 H base fp D C J I n) fun JJ mk ou=>?_
 refine compLoop_any JJ ?_ (n + 1) (mk _ _ ⟨0,[],m0,H1,s.heap,(tkn s s.toks),#[],0,rfl,R1,F1,A1,hCo,hn,hl,rfl,j,i0,Nat.zero_le _,Nat.le_refl _,rfl⟩)
 intro k s' hJ
 refine CompJ.use (G:=fun s'=>wpAny _ _ (pyNext it) _ _ s') (ou _ _ hJ) fun i ys m2 H2 h2 tk2 items nn R2 F2 A2 hC2 hn2 hl2 hr2 j2 hI hle hyl hkk=>?_
 have Afp:Aside c H2 h2 fp:=fun b hb=>A2 b (List.mem_append_left _ hb)
 by_cases hlt:i < n
 ·obtain ⟨ok,body⟩:=step i ys H2 hlt hI
  refine W.item i m1 H2 _ hlt R2 Afp ok j2 _ fun v h3 tk3 R3 k3 A3 j3 r3=>?_
  have F3:=F2.off hfr k3
  have hl3:IsL h3 D items nn:=k3 D _ hDf hl2
  have hr3:=lift_offL Afp k3 hr2
  have hn3:h3.Ns C m2:=hn2.at' fun o e=>k3 C o hCf e
  refine W.go i v m1 H2 _ R3 A3 j3 r3 _ fun h4 tk4 R4 k4 A4 j4 r4=>?_
  have F4:=F3.off hfr k4
  have hn4:h4.Ns C m2:=hn3.at' fun o e=>k4 C o hCf e
  have hl4:IsL h4 D items nn:=k4 D _ hDf hl3
  have hr4:=lift_offL A3 k4 hr3
  have R4':Rel (c.comp scope cl C hk) ⟨[],H2⟩ _:=R4.inner hn4 hC2.1 hC2.2.2
  have A4':Aside (c.comp scope cl C hk) H2 h4 (fp ++ [D]):=fun b hb=>(List.mem_append.mp hb).elim
   (fun q=>⟨(A4 b q).1,fun e=>hCf ((show b = C from e) ▸ q),(A4 b q).2.2⟩)
   fun q=>by
    rw [List.mem_singleton.mp q]
    exact ⟨(A2 D (mem_snoc fp D)).1,fun e=>hCD (e:D = C).symm,(A2 D (mem_snoc fp D)).2.2.1,_,hl4,notTup_list⟩
  refine body _ v R4' r4 _ fun _ _ m5 H5 h5 tk5 R5 F5 _ q5=>?_
  have F5':=F4.via hC F5
  have A5:=A4'.step F5
  have kp5:∀ b∈fp ++ [D],∀ o,h4.get? b = some o→h5.get? b = some o:=fun b hb o e=>F5.keep b o (A4' b hb).1 (A4' b hb).2.1 e
  have hr5:=R4'.liftL F5 hr4
  refine q5.go R5 (fun m6 H6 h6 tk6 R6 F6 q6=>?_) (fun m6 H6 h6 tk6 R6 F6 q6=>?_)
  ·have A6:=A5.step F6
   have kp6:∀ b∈fp ++ [D],∀ o,h4.get? b = some o→h6.get? b = some o:=fun b hb o e=>F6.keep b o (A5 b hb).1 (A5 b hb).2.1 (kp5 b hb o e)
   refine q6 _ R6 _ fun u vu m7 H7 h7 tk7 R7 F7 r7 q7=>?_
   have A7:=A6.step F7
   have kp7:∀ b∈fp ++ [D],∀ o,h4.get? b = some o→h7.get? b = some o:=fun b hb o e=>F7.keep b o (A6 b hb).1 (A6 b hb).2.1 (kp6 b hb o e)
   have hl7:IsL h7 D items nn:=kp7 D (mem_snoc fp D) _ hl4
   have hr7:Reps h7 ys items.toList:=R6.liftL F7 (R5.liftL F6 hr5)
   have R7c:Rel c ⟨m1,H7⟩ (sw s h7 tk7):=R4.outer R4' (Ne.symm hC2.2.1) ((F5.trans R5.hasL F6).trans R6.hasL F7) R7
   have hisz:items.size≤sizeLine:=by have:=hr2.length; rw [← Array.length_toList,this]; exact as3 4 (.l Z0 Z1) (.l Z2 Z3) (.t Z3 Z0) (.l Z2 Z1) [_,_,_,_] hsz hyl hlt
   refine call_meets F.slot_list_append ⟨_,hl7,rfl⟩ F.entry_list_append (F.args_list_append_2 _ _) (PySem.list_append D items nn vu hisz) ⟨hl7,?_⟩
   have AD:=A7 D (mem_snoc fp D)
   have hDL:=(A2 D (mem_snoc fp D)).2.1
   show ∃ m,m < k∧JJ m (sw s (h7.update D (Obj.mapSeq (·.push vu))) tk7)
   refine comp_push (G:=fun h8=>∃ m,m < k∧JJ m (sw s h8 tk7)) R7c hl7 hr7 r7 AD.1 hDL AD.2.2.1 fun h8 items' nn' R8 hl8 hr8 kp8=>?_
   have j8:=W.keep _ _ _ (W.keep _ _ _ j4 fun b hb o e=>kp7 b (List.mem_append_left _ hb) o e) fun b hb o e=>kp8 b o (fun e=>hDf (e ▸ hb)) e
   have F8:=(((F5'.via hC F6).via hC F7).off (fp:=[D]) (fun b hb=>by rw [List.mem_singleton.mp hb]; exact hD) fun b o q e=>kp8 b o (fun e=>q (e ▸ List.mem_singleton_self _)) e)
   obtain ⟨m7',hn7,_⟩:=R7.loc
   refine ⟨n + 1 - (i + 1),by rw [hkk]; exact as1 2 (.t Z0 Z1) (.t (.s (.a Z1 N1) (.a Z0 N1)) (.s (.a Z1 N1) Z0)) [_,_] hlt,mk _ _ ⟨i + 1,ys ++ [u],m7',H7,h8,tk7,_,_,rfl,R8,F8,fun b hb=>(List.mem_append.mp hb).elim (fun q=>?_) (fun q=>?_),⟨fun q=>(R7.apart C q).1 rfl,hC2.2⟩,hn7.at' fun o e=>kp8 C o hCD e,hl8,hr8,j8,q7,hlt,by rw [List.length_append]; exact Nat.succ_le_succ hyl,rfl⟩⟩
   ·obtain ⟨a1,a2,a3,o,ho,nt⟩:=A7 b hb
    exact ⟨a1,(A2 b hb).2.1,a3,o,kp8 b o (fun e=>hDf (e ▸ q)) ho,nt⟩
   ·rw [List.mem_singleton.mp q]
    exact ⟨AD.1,hDL,AD.2.2.1,_,hl8,notTup_list⟩
  ·have A6:=A5.step F6
   have kp6:∀ b∈fp ++ [D],∀ o,h4.get? b = some o→h6.get? b = some o:=fun b hb o e=>F6.keep b o (A5 b hb).1 (A5 b hb).2.1 (kp5 b hb o e)
   have R6c:Rel c ⟨m1,H6⟩ _:=R4.outer R4' (Ne.symm hC2.2.1) (F5.trans R5.hasL F6) R6
   obtain ⟨m6',hn6,_⟩:=R6.loc
   exact ⟨n + 1 - (i + 1),by rw [hkk]; exact as1 2 (.t Z0 Z1) (.t (.s (.a Z1 N1) (.a Z0 N1)) (.s (.a Z1 N1) Z0)) [_,_] hlt,mk _ _ ⟨i + 1,ys,m6',H6,h6,tk6,items,nn,rfl,R6c,F5'.via hC F6,fun b hb=>⟨(A6 b hb).1,(A2 b hb).2.1,(A6 b hb).2.2⟩,⟨fun q=>(R6.apart C q).1 rfl,hC2.2⟩,hn6,kp6 D (mem_snoc fp D) _ hl4,R5.liftL F6 hr5,W.keep _ _ _ j4 fun b hb o e=>kp6 b (List.mem_append_left _ hb) o e,q6,hlt,Nat.le_succ_of_le hyl,rfl⟩⟩
 ·have hin:i = n:=by exact as2 2 (.l Z0 Z1) (.no (.t Z0 Z1)) (.e Z0 Z1) [_,_] hle hlt
  rw [hin] at hI j2
  obtain ⟨ok,q⟩:=fin ys H2 hI
  refine W.done m1 H2 _ R2 Afp ok j2 _ fun h3 tk3 R3 k3=>?_
  have hl3:IsL h3 D items nn:=k3 D _ hDf hl2
  have AD:=A2 D (mem_snoc fp D)
  have F3:=F2.off hfr k3
  exact post ys H2 h3 tk3 m2 ⟨R3.loc,fun a o hm=>(List.mem_cons.mp hm).elim (fun e=>by cases e; exact O.list_mk hl3 (lift_offL Afp k3 hr2)) (R3.obj a o),List.nodup_cons.mpr ⟨AD.1,R3.nd⟩,fun a ha=>(List.mem_cons.mp ha).elim (fun e=>by rw [show a = D from e]; exact ⟨AD.2.1,AD.2.2.1⟩) (R3.apart a),R3.keep,R3.gl,R3.bare⟩
   ⟨F3.keep,fun b hb=>(List.mem_cons.mp hb).elim (fun e=>by rw [show b = D from e]; exact .inr hD) (F3.dom b),F3.alive⟩ (hn2.at' fun o e=>k3 C o hCf e) hC2 q
end
section
variable {c:Ctx} {m:Lo} {H:Hp} {pos:Pos} {Q:V→Lo→Hp→Prop}
theorem comp_tail {PQ:Value→Shared→Prop} {use:Option (Value→Sem Unit)} {scope:Scope} {cl:List (Str × Addr)} {hk:scope.kind = .function} {t elt iter:Expr} {ifs:List Expr} {it:Value} {fp:List Addr} {n:Nat} {x:Nat→V} {Ok:Hp→Prop} {J:Nat→Heap→Prop} {J':Nat→Value→Heap→Prop}
  {H1:Hp} {m1:Lo} {s:Shared} {h1:Heap} {tk1:Tk} {Qf:List V→Hp→Prop} (hcell:∀ y∈scope.names,y.2≠.cell) (W:Iter c t it fp n x Ok J J') (hsz:n≤sizeLine) (hw:WPcomp c scope cl hk t elt ifs n x Ok H1 Qf)
  (R1:Rel c ⟨m1,H1⟩ (sw s h1 tk1)) (F1:Fp c.env.locals H H1 s.heap h1) (A1:Aside c H1 h1 fp) (hfr:∀ b∈fp,s.heap.get? b = .none) (j:J 0 h1)
  (post:∀ ys H2 h2 tk2 m2 D C,Rel c ⟨m1,(D,.list ys) :: H2⟩ (sw s h2 tk2)→Fp c.env.locals H ((D,.list ys) :: H2) s.heap h2→h2.Ns C m2→(C∉dom ((D,.list ys) :: H2)∧C≠c.env.locals∧c.G C = .none∧s.heap.get? C = .none)→Qf ys H2 →
   compPost (model c.prog c.w) c.A (fun _ _=>False) use PQ (.ref D) C (.ok .next) (sw s h2 tk2)) :
  wpAny (model c.prog c.w) c.A (newList []) (fun acc s₃=>wpAny (model c.prog c.w) c.A (newFunctionEnv scope c.env.globals cl [] c.env.qual .none .none (some c.env)) (fun cenv s₄=>
   codeAny (model c.prog c.w) c.A (.compStart (.ListComp elt [⟨t,iter,ifs,0⟩] scope pos) 0 it acc { cenv with scope:=relabel scope c.env }) (compPost (model c.prog c.w) c.A (fun _ _=>False) use PQ acc cenv.locals) s₄) (fun _ _=>False) s₃) (fun _ _=>False) (sw s h1 tk1):=by
 refine wpAny_newObj_type ?_
 refine wpAny_newFunctionEnv hcell (fun y hy=>by cases hy) (fun h' hn hs=>?_) hk
 have e1:(h1.push { cls:=.type "list",data:=.seq #[] }).objs.size = h1.objs.size + 1:=by simp
 have g1:∀ b o,h1.get? b = some o→(h1.push { cls:=.type "list",data:=.seq #[] }).get? b = some o:=push_grow
 have g2:∀ b o,(h1.push { cls:=.type "list",data:=.seq #[] }).get? b = some o→h'.get? b = some o:=fun b o e=>
  (hs.2 b (Nat.ne_of_lt (Heap.lt_size e))).trans (push_grow b o e)
 have g:∀ b o,h1.get? b = some o→h'.get? b = some o:=fun b o e=>g2 b o (g1 b o e)
 have hl:IsL h' h1.objs.size #[] 0:=g2 _ _ (Heap.get?_push_size _ rfl)
 have fD:=R1.fresh (get_size h1)
 have cN:h1.get? (h1.objs.size + 1) = .none:=get_ge (Nat.le_succ _)
 have fC:=R1.fresh cN
 have back:∀ b,h1.get? b = .none→s.heap.get? b = .none:=fun b hb=>by
  cases q:s.heap.get? b with
  | none=>rfl
  | some o=>obtain ⟨o',e⟩:=F1.alive _ _ q; rw [hb] at e; cases e
 have ntD:NotTup { cls:=.type "list",dict:=.none,data:=.seq #[] 0,slots:=#[] }:=fun k its m q=>by cases k <;> exact absurd q.1 (by unfold clsOf; simp)
 have live:∀ b∈fp,b < h1.objs.size:=fun b hb=>by obtain ⟨_,_,_,o,ho,_⟩:=A1 b hb; exact Heap.lt_size ho
 have main:=fun (n0:Nat)=>comp_loop (c:=c) (H:=H) (pos:=pos) (RR:=compPost (model c.prog c.w) c.A (fun _ _=>False) use PQ (.ref h1.objs.size) (h1.objs.size + 1)) (iter:=iter) (hk:=hk) (s:=(sw s h' ⟨n0,tk1.drawn,tk1.gens⟩)) (base:=s.heap) (D:=h1.objs.size) (C:=h1.objs.size + 1) W hsz hw
  (R1.grow ⟨n0,tk1.drawn,tk1.gens⟩ g) (F1.trans R1.hasL (.grow g)) (fun b hb=>by
   rcases List.mem_append.mp hb with q | q
   ·obtain ⟨a1,a2,a3,o,ho,nt⟩:=A1 b q
    exact ⟨a1,a2,a3,o,g b o ho,nt⟩
   ·simp at q; subst q
    exact ⟨fD.1,fD.2.1,fD.2.2,_,hl,ntD⟩) hfr (back _ (get_size h1)) (back _ cN) fC (fun q=>absurd (live _ q) (Nat.not_lt.mpr (Nat.le_succ _))) (fun q=>absurd (live _ q) (Nat.lt_irrefl _)) (Nat.succ_ne_self _)
  (m0:=fun x=>([]:List (Str × Value)).reverse.lookup x) (by rw [← e1]; exact hn) hl (W.keep _ _ _ j fun b _ o e=>g b o e) (fun ys H2 h2 tk2 m2 R F N o q=>post ys H2 h2 tk2 m2 _ _ R F N ⟨fun q=>by
   rcases List.mem_cons.mp q with e | e
   ·exact absurd (e:h1.objs.size + 1 = h1.objs.size) (Nat.succ_ne_self _)
   ·exact o.1 e,o.2.1,o.2.2,back _ cN⟩ q)
 have eC:({ newEnv scope (h1.push { cls:=.type "list",data:=.seq #[] }).objs.size c.env.globals cl c.env.qual .none .none (some c.env) 0 with scope:=relabel scope c.env }:Env) = compEnvC scope cl (h1.objs.size + 1) c.env:=by rw [e1]; rfl
 have e2:(newEnv scope (h1.push { cls:=.type "list",data:=.seq #[] }).objs.size c.env.globals cl c.env.qual .none .none (some c.env) 0).locals = h1.objs.size + 1:=e1
 show codeAny _ _ (.compStart _ 0 it (.ref h1.objs.size) { newEnv scope (h1.push { cls:=.type "list",data:=.seq #[] }).objs.size c.env.globals cl c.env.qual .none .none (some c.env) 0 with scope:=relabel scope c.env }) (compPost _ _ _ use PQ (.ref h1.objs.size) (newEnv scope (h1.push { cls:=.type "list",data:=.seq #[] }).objs.size c.env.globals cl c.env.qual .none .none (some c.env) 0).locals) _
 rw [eC,e2]
 refine codeAny_compStart_list (main _) (wpAny_mono (W.self _ _ (W.keep _ _ _ j fun b _ o e=>g b o e) (main _)) (fun _ _ q=>q) fun _ _ q=>q.elim)
theorem e_comp {t elt iter:Expr} {ifs:List Expr} {scope:Scope} {cl:List (Str × Addr)} (hclos:closureFor scope c.env = pure cl) (hk:scope.kind = .function)
  (h:WPit c t iter m H fun n x Ok m1 H1=>n≤sizeLine∧WPcomp c scope cl hk t elt ifs n x Ok H1 fun ys H2=>∀ D,Q (.ref D) m1 ((D,.list ys) :: H2))
  (hcell:autoParam (∀ y∈scope.names,y.2≠.cell) auDec) (hnames:autoParam (∀ y∈scope.names,y.2 = .local→scope.names.lookup y.1 = some .local) auDec)
  (hs:autoParam (∀ x,foldedSetIterable iter c.env x = pure x) auFun):WPe c (.ListComp elt [⟨t,iter,ifs,0⟩] scope pos) m H Q:=fun s R P k=>by
 rw [eval_ListComp]
 refine wpAny_comprehension_free (use:=.none) rfl hs hclos hk hnames (h s R _ fun it fp n x Ok J J' m1 H1 h1 tk1 W R1 F1 A1 fr1 j1 q=>?_)
 refine comp_tail hcell W q.1 q.2 R1 F1 A1 fr1 j1 fun ys H2 h2 tk2 m2 D C R2 F2 N o q=>?_
 refine ⟨m2,N,fun h' hs'=>?_⟩
 obtain ⟨oC,es,ep,hoC,hdC,_⟩:=N
 have R3:=R2.off (h':=h') tk2 hoC (fun _ _ _ q=>by rw [hdC] at q; cases q.2) o.1 o.2.1 o.2.2.1 (Heap.SameBut.kp hs')
 exact k (.ref D) _ m1 _ h' tk2 R3 (F2.off (fp:=[C]) (fun b hb=>by simp at hb; subst hb; exact o.2.2.2) (one_off (Heap.SameBut.kp hs'))) rfl (q D)
theorem s1_comp {y:Str} {py spos:Pos} {Q:Fl→Lo→Hp→Prop} {t elt iter:Expr} {ifs:List Expr} {scope:Scope} {cl:List (Str × Addr)} (hclos:closureFor scope c.env = pure cl) (hk:scope.kind = .function) (hy:c.env.kindOf y = some .local)
  (h:WPit c t iter m H fun n x Ok m1 H1=>n≤sizeLine∧WPcomp c scope cl hk t elt ifs n x Ok H1 fun ys H2=>∀ D,Q .next ((y,.ref D) :: m1) ((D,.list ys) :: H2))
  (hsw:swapsWith (.ListComp elt [⟨t,iter,ifs,0⟩] scope pos) (some (.Name y py)) spos.line c.env = pure true)
  (hcell:autoParam (∀ y∈scope.names,y.2≠.cell) auDec) (hnames:autoParam (∀ y∈scope.names,y.2 = .local→scope.names.lookup y.1 = some .local) auDec)
  (hs:autoParam (∀ x,foldedSetIterable iter c.env x = pure x) auFun):WP1 c (.Assign [.Name y py] (.ListComp elt [⟨t,iter,ifs,0⟩] scope pos) spos) m H Q:=fun s R P k=>by
 rw [exec_Assign_Name_used _ _ _ _ hsw]
 refine wpAny_bind (wpAny_standAt (wpAny_bind ?_))
 show wpAny _ _ (do let _ ← comprehension (.ListComp elt [⟨t,iter,ifs,0⟩] scope pos) scope c.env _ (newList []) false (eval iter c.env) (some (assign (.Name y py) c.env))) _ _ s
 refine wpAny_bind (wpAny_mono (wpAny_comprehension_free (use:=some (assign (.Name y py) c.env)) (Q:=fun _ s'=>P .next s') rfl hs hclos hk hnames (h s R _ fun it fp n x Ok J J' m1 H1 h1 tk1 W R1 F1 A1 fr1 j1 q=>?_))
  (fun _ s' hq=>wpAny_pure (wpAny_pure hq)) fun _ _ e=>e)
 refine comp_tail hcell W q.1 q.2 R1 F1 A1 fr1 j1 fun ys H2 h2 tk2 m2 D C R2 F2 N o q=>?_
 obtain ⟨mL,hn,qL⟩:=R2.loc
 show wpAny _ _ (assign (.Name y py) c.env (.ref D)) _ _ _
 refine wpAny_assign_Name (wpAny_storeName_local hy hn (fun h3 hn3 hs3=>?_) c.hp)
 have R3:=R2.store (h':=h3) ⟨tk2.toks + 1,tk2.drawn,tk2.gens⟩ (x:=y) (u:=.ref D) (v:=.ref D) rfl hs3 qL hn3
 have N3:h3.Ns C m2:=N.sameBut hs3 o.2.1
 refine ⟨m2,N3,fun h' hs'=>?_⟩
 obtain ⟨oC,es,ep,hoC,hdC,_⟩:=N3
 have R4:=R3.off (h':=h') ⟨tk2.toks + 1,tk2.drawn,tk2.gens⟩ hoC (fun _ _ _ q=>by rw [hdC] at q; cases q.2) o.1 o.2.1 o.2.2.1 (Heap.SameBut.kp hs')
 have F3:=F2.trans R2.hasL (Fp.frame (H:=(D,.list ys) :: H2) hs3 (let ⟨o,_,_,ho,_⟩:=hn3; ⟨o,ho⟩))
 exact k .next _ _ _ h' ⟨tk2.toks + 1,tk2.drawn,tk2.gens⟩ R4 (F3.off (fp:=[C]) (fun b hb=>by simp at hb; subst hb; exact o.2.2.2) (one_off (Heap.SameBut.kp hs'))) rfl (q D)
end
inductive Lit {α:Type}:List α→List α→Prop
 | nil:Lit [] []
 | cons {a:α} {l r:List α}:Lit l r→Lit (a :: l) (a :: r)
structure Base (c:Ctx) (K:Frag):Prop where
 kin:c.Knows K.In
 glo:∃ mg,c.Knows fun h=>h.Ns mainGlobals mg
 bui:∃ mb,(c.Knows fun h=>h.Ns builtinsNs mb)∧∀ x:Str,x≠"__name__"→mb x = bootBuiltins x
 lim:c.Knows Heap.NoLimit
 g:c.env.globals = mainGlobals
 b:c.env.builtins = builtinsNs
inductive Loc (x:Str) (u:V):Lo→Prop
 | head (m:Lo):Loc x u ((x,u) :: m)
 | tail {y:Str} {w:V} {m:Lo}:x≠y→Loc x u m→Loc x u ((y,w) :: m)
theorem Loc.eq {x:Str} {u:V} {m:Lo} (h:Loc x u m):m.lookup x = some u:=by
 induction h with
 | head m=>simp [List.lookup]
 | @tail y w m hne _ ih=>
  rw [List.lookup_cons]
  have:(x == y) = false:=by simpa using hne
  rw [this]; exact ih
theorem Less.of {m m':Lo} {H H':Hp} (hm:∀ x u,(x,u)∈m'→Loc x u m) (hH:List.Sublist H' H):Less m H m' H':=by
 refine ⟨fun x u e=>(hm x u ?_).eq,fun p hp=>hH.subset hp,fun nd=>?_⟩
 ·exact mem_of_lookup e
 ·exact nd.sublist (hH.map _)
section
variable {c:Ctx} {m:Lo} {H:Hp} {pos:Pos} {Q:V→Lo→Hp→Prop} {K:Frag}
theorem Base.glob (B:Base c K) {x:Str} {u:At} {v:Value} (hk:c.env.kindOf x = some .globalImplicit) (e:nsIn K mainGlobals x = some (some v)) (hr:u.rep v):Glob c x u:=by
 refine ⟨hk,fun h hh s P hs k=>?_⟩
 obtain ⟨mg,hg⟩:=B.glo
 subst hs
 exact loadGlobal_global (by rw [B.g]; exact hg _ hh) (mg_of (B.kin _ hh) (hg _ hh) e) (k v hr)
theorem Base.bi (B:Base c K) {x:Str} {u:At} {v:Value} (hk:c.env.kindOf x = some .globalImplicit) (e:nsIn K mainGlobals x = some .none) (hb:bootBuiltins x = some v) (hn:x≠"__name__") (hr:u.rep v):Glob c x u:=by
 refine ⟨hk,fun h hh s P hs k=>?_⟩
 obtain ⟨mg,hg⟩:=B.glo
 obtain ⟨mb,hm,hx⟩:=B.bui
 subst hs
 exact loadGlobal_builtin (by rw [B.g]; exact hg _ hh) (mg_none_of (B.kin _ hh) (hg _ hh) e) (by rw [B.b]; exact hm _ hh) ((hx x hn).trans hb) (k v hr)
theorem Base.enter (B:Base c K) {fd:FuncData} {a L:Addr} {k:Nat} {hf:c.fuel = k + 1} {hk:fd.scope.kind = .function} (hg:fd.globals = mainGlobals) (hb:fd.builtins = builtinsNs):Base (c.enter fd a L k hf hk) K:=
 ⟨B.kin,B.glo,B.bui,B.lim,hg,hb⟩
theorem Base.comp (B:Base c K) {scope:Scope} {cl:List (Str × Addr)} {C:Addr} {hk:scope.kind = .function}:Base (c.comp scope cl C hk) K:=⟨B.kin,B.glo,B.bui,B.lim,B.g,B.b⟩
theorem kind_of {ns:List (Str × NameKind)} (hn:c.env.scope.names = ns) {x:Str} {k:NameKind} (h:ns.lookup x = some k):c.env.kindOf x = some k:=by unfold Env.kindOf; rw [hn]; exact h
theorem e_loc {ns:List (Str × NameKind)} (hn:c.env.scope.names = ns) {x:Str} {u:V} (hl:ns.lookup x = some .local) (hv:Loc x u m) (h:Q u m H) (hd:autoParam ((x == ("__debug__":Str)) = false) auDec):WPe c (.Name x pos) m H Q:=e_local (kind_of hn hl) hv.eq h hd
theorem if_b {b:Bool} {A B:Prop} (h1:b = true→A) (h0:b = false→B):if b then A else B:=by cases b; exact h0 rfl; exact h1 rfl
theorem On1.less {a:V} {α β:Type} {R:Heap→β→α→Prop} {t:Value→Sem α} {Q:β→Lo→Hp→Prop} {m':Lo} {H':Hp} (l:Less m H m' H') (h:On1 c a R t m' H' Q):On1 c a R t m H Q:=
 fun s va Rl r P k=>h s va (Rl.weaken l.1 l.2.1 (l.2.2 Rl.nd)) r P fun b v m' H2 h tk R' F r q=>k b v m' H2 h tk R' (F.less l.2.1) r q
theorem Sees.less {H':Hp} {a:Addr} {o:O} {m':Lo} (l:Less m H m' H') (h:(a,o)∈H'):Sees c H a o:=Sees.mem (l.2.1 _ h)
inductive LessM (m:Lo):Lo→Prop
 | nil:LessM m []
 | cons {x:Str} {u:V} {m':Lo}:Loc x u m→LessM m m'→LessM m ((x,u) :: m')
theorem LessM.loc {m m':Lo} (h:LessM m m'):∀ x u,(x,u)∈m'→Loc x u m:=by
 induction h with
 | nil=>intro x u q; cases q
 | cons hl _ ih=>
  intro x u q
  rcases List.mem_cons.mp q with e | e
  ·cases e; exact hl
  ·exact ih x u e
theorem less_of {m':Lo} {H':Hp} (hm:LessM m m') (hH:List.Sublist H' H):Less m H m' H':=Less.of hm.loc hH
theorem Less.refl (m:Lo) (H:Hp):Less m H m H:=⟨fun _ _ e=>e,fun _ h=>h,id⟩
theorem s_if {t:Expr} {a b r:List Stmt} {Q:Fl→Lo→Hp→Prop} (h:WPt c t m H fun x m1 H1=>if x then WPs c a m1 H1 fun f m2 H2=>match f with | .next=>WPs c r m2 H2 Q | f=>Q f m2 H2 else WPs c b m1 H1 fun f m2 H2=>match f with | .next=>WPs c r m2 H2 Q | f=>Q f m2 H2):WPs c (.If t a b pos :: r) m H Q:=s_cons (s1_if h)
theorem s_for_list {t iter:Expr} {b r:List Stmt} {Q:Fl→Lo→Hp→Prop}
  (h:WPe c iter m H fun u m1 H1=>∃ a xs,u = .ref a∧∃ I:Nat→Lo→Hp→Prop,I 0 m1 H1∧(∀ i m2 H2,I i m2 H2→Sees c H2 a (.list xs))∧(∀ i v m2 H2,xs[i]? = some v→I i m2 H2→Asg c t v m2 H2 fun m3 H3=>WPs c b m3 H3 fun f m4 H4=>
   match f with | .next | .cont=>I (i + 1) m4 H4 | .brk=>WPs c r m4 H4 Q | .ret v=>Q (.ret v) m4 H4)∧∀ m2 H2,I xs.length m2 H2→WPs c r m2 H2 Q)
  (ht:autoParam (isNameOrTuple t = true) auRfl) (hs:autoParam (∀ x,foldedSetIterable iter c.env x = pure x) auFun):WPs c (.For t iter b [] pos :: r) m H Q:=by
 refine s_cons (s1_for (it_list ht (h.mono ?_)) hs)
 rintro u m1 H1 ⟨a,xs,rfl,I,i0,sees,step,fin⟩
 refine ⟨a,xs,rfl,sees 0 m1 H1 i0,I,i0,fun i m2 H2 hi hI=>⟨sees i m2 H2 hI,?_⟩,fun m2 H2 hI=>⟨sees _ m2 H2 hI,fin m2 H2 hI⟩⟩
 refine On1.mono (step i (xs.getD i .none) m2 H2 (by simp [List.getD,hi]) hI) fun _ m3 H3 q=>q.mono fun f m4 H4 q=>?_
 cases f <;> exact q
theorem s_for_range {t iter:Expr} {b r:List Stmt} {Q:Fl→Lo→Hp→Prop}
  (h:WPe c iter m H fun u m1 H1=>∃ x lo hi,u = .ref x∧Sees c H1 x (.range lo hi 1)∧(-1000000≤lo∧lo≤1000000)∧(-1000000≤hi∧hi≤1000000)∧∃ I:Nat→Lo→Hp→Prop,I 0 m1 H1∧(∀ (i:Nat) m2 H2,lo + i < hi→I i m2 H2→Asg c t (.int (lo + i)) m2 H2 fun m3 H3=>WPs c b m3 H3 fun f m4 H4=>
   match f with | .next | .cont=>I (i + 1) m4 H4 | .brk=>WPs c r m4 H4 Q | .ret v=>Q (.ret v) m4 H4)∧∀ m2 H2,I (hi - lo).toNat m2 H2→WPs c r m2 H2 Q)
  (ht:autoParam (isNameOrTuple t = true) auRfl) (hs:autoParam (∀ x,foldedSetIterable iter c.env x = pure x) auFun):WPs c (.For t iter b [] pos :: r) m H Q:=by
 refine s_cons (s1_for (it_range ht (h.mono ?_)) hs)
 rintro u m1 H1 ⟨x,lo,hi,rfl,sees,h1,h2,I,i0,step,fin⟩
 refine ⟨x,lo,hi,rfl,sees,h1,h2,I,i0,fun i m2 H2 hi hI=>⟨trivial,?_⟩,fun m2 H2 hI=>⟨trivial,fin m2 H2 hI⟩⟩
 refine On1.mono (step i m2 H2 (by omega) hI) fun _ m3 H3 q=>q.mono fun f m4 H4 q=>?_
 cases f <;> exact q
theorem s_join {st:Stmt} {r:List Stmt} {Q:Fl→Lo→Hp→Prop} (J:Lo→Hp→Prop) (h:WP1 c st m H fun f m1 H1=>match f with | .next=>J m1 H1 | f=>Q f m1 H1) (k:∀ m1 H1,J m1 H1→WPs c r m1 H1 Q):WPs c (st :: r) m H Q:=by
 refine s_cons fun s R P kk=>h s R P fun f v m' H' h tk R' F r q=>kk f v m' H' h tk R' F r ?_
 cases f with
 | next=>exact k m' H' q
 | brk=>exact q
 | cont=>exact q
 | ret u=>exact q
theorem s_to {st:Stmt} {r:List Stmt} {Q:Fl→Lo→Hp→Prop} (m':Lo) (H':Hp) (h:WP1 c st m H fun f m1 H1=>match f with | .next=>Less m1 H1 m' H' | f=>Q f m1 H1) (k:WPs c r m' H' Q):WPs c (st :: r) m H Q:=
 s_join (fun m1 H1=>Less m1 H1 m' H') h fun m1 H1 l=>WPs.less l k
theorem swaps_yes {e:Expr} {gens:List Comprehension} {scope:Scope} {p p':Pos} {line:Nat} {x:Str} {ns:List (Str × NameKind)} (hn:c.env.scope.names = ns) (hl:ns.lookup x = some .local) (hp:(p'.line == p.line) = true)
  (ha:(scope.names.any fun (n,k)=>n == x && (k == .local || k == .cell)) = false):swapsWith (.ListComp e gens scope p) (some (.Name x p')) line c.env = pure true:=by
 have h1:c.env.blockKind = .function:=by unfold Env.blockKind; rw [c.hk]; rfl
 show pure (c.env.blockKind == .function && c.env.kindOf x == some .local && p'.line == p.line && !(scope.names.any fun (n,k)=>n == x && (k == .local || k == .cell))) = (pure true:Sem Bool)
 rw [h1,kind_of hn hl,hp,ha]; rfl
theorem swaps_no {e:Expr} {gens:List Comprehension} {scope:Scope} {p p':Pos} {line:Nat} {x:Str} {ns:List (Str × NameKind)} (hn:c.env.scope.names = ns) (hl:ns.lookup x = some .cell):swapsWith (.ListComp e gens scope p) (some (.Name x p')) line c.env = pure false:=by
 show pure (c.env.blockKind == .function && c.env.kindOf x == some .local && p'.line == p.line && !(scope.names.any fun (n,k)=>n == x && (k == .local || k == .cell))) = (pure false:Sem Bool)
 rw [kind_of hn hl]
 have:((some NameKind.cell:Option NameKind) == some NameKind.local) = false:=by decide
 rw [this]; simp
theorem Less.lift {H':Hp} {a:Addr} {o:O} (l:Less [] H [] H'):Less m ((a,o) :: H) m ((a,o) :: H'):=by
 refine ⟨fun _ _ e=>e,fun p hp=>?_,fun nd=>?_⟩
 ·rcases List.mem_cons.mp hp with e | e
  ·exact e ▸ mS
  ·exact mT (l.2.1 p e)
 ·obtain ⟨h1,h2⟩:=List.nodup_cons.mp nd
  refine List.nodup_cons.mpr ⟨fun q=>h1 ?_,l.2.2 h2⟩
  obtain ⟨p,hp,e⟩:=List.mem_map.mp q
  exact e ▸ List.mem_map.mpr ⟨p,l.2.1 p hp,rfl⟩
structure Inner (c:Ctx) (scope:Scope) (cl:List (Str × Addr)) (c2:Ctx):Prop where
 names:c2.env.scope.names = (relabel scope c.env).names
 cells:c2.env.cells = cl
 base:∀ K,Base c K→Base c2 K
 knows:∀ P,c.Knows P→c2.Knows P
 fuel:c2.fuel = c.fuel
 prog:c2.prog = c.prog
 w:c2.w = c.w
theorem Ctx.inner (c:Ctx) (scope:Scope) (cl:List (Str × Addr)) (C:Addr) (hk:scope.kind = .function):Inner c scope cl (c.comp scope cl C hk):=⟨rfl,rfl,fun _ B=>B.comp,fun _ k=>k,rfl,rfl,rfl⟩
noncomputable def relabelN (names ns:List (Str × NameKind)):List (Str × NameKind):=names.map fun x=>if x.2 = .free∧ns.lookup x.1 = some .cell then (x.1,.cell) else x
theorem Inner.named {scope:Scope} {cl:List (Str × Addr)} {c2:Ctx} (h:Inner c scope cl c2) {ns:List (Str × NameKind)} (hn:c.env.scope.names = ns):c2.env.scope.names = relabelN scope.names ns:=by
 rw [h.names]
 unfold relabel relabelN
 refine List.map_congr_left fun x hx=>?_
 obtain ⟨n,k⟩:=x
 have e:c.env.kindOf n = ns.lookup n:=by unfold Env.kindOf; rw [hn]
 have e2:(c.env.scope.kind == ScopeKind.function) = true:=by rw [c.hk]; rfl
 dsimp only
 rw [e,e2]
 by_cases h1:k = .free <;> by_cases h2:ns.lookup n = some .cell <;> simp [h1,h2]
structure Called (c:Ctx) (fd:FuncData) (L:Addr) (c2:Ctx):Prop where
 scope:c2.env.scope = fd.scope
 cells:c2.env.cells = cellsFrom (L + 1) fd.scope.names []
 base:∀ K,Base c K→fd.globals = mainGlobals→fd.builtins = builtinsNs→Base c2 K
 knows:∀ P,c.Knows P→c2.Knows P
 fuel:c.fuel = c2.fuel + 1
 prog:c2.prog = c.prog
 w:c2.w = c.w
 locals:c2.env.locals = L
 code:c2.env.code = fd.code
theorem Ctx.called (c:Ctx) (fd:FuncData) (fa L:Addr) (k:Nat) (hf:c.fuel = k + 1) (hk:fd.scope.kind = .function):Called c fd L (c.enter fd fa L k hf hk):=⟨rfl,rfl,fun _ B hg hb=>B.enter hg hb,fun _ k=>k,hf,rfl,rfl,rfl,rfl⟩
theorem keep_K {f:Addr} (B:Base c K) (hk:keepIn K (.ref f) = true):KeepOk c (.ref f) H:=fun m s vf R r=>by cases (r:vf = _); exact keeps_K hk _ (B.kin _ R.keep)
noncomputable def WPelt (c:Ctx) (elt:Expr) (ifs:List Expr) (m:Lo) (H:Hp) (Q:Option V→Hp→Prop):Prop:=WPifs c ifs m H fun b m4 H4=>if b then WPe c elt m4 H4 fun v _ H5=>Q (some v) H5 else Q .none H4
theorem compOver {scope:Scope} {cl:List (Str × Addr)} {hk:scope.kind = .function} {t elt:Expr} {ifs:List Expr} {n:Nat} {x:Nat→V} {Ok:Hp→Prop} {H1 H':Hp} {Qf:List V→Hp→Prop} (f:Nat→Option V)
  (h0:∀ m,Less m H1 [] H')
  (hstep:∀ c2,Inner c scope cl c2→∀ i,i < n→Asg c2 t (x i) [] H' fun m3 H3=>WPelt c2 elt ifs m3 H3 fun o H5=>o = f i∧Less [] H5 [] H')
  (hok:∀ H2,Less [] H2 [] H'→Ok H2) (hq:∀ H2,Less [] H2 [] H'→Qf ((List.range n).filterMap f) H2):WPcomp c scope cl hk t elt ifs n x Ok H1 Qf:=fun C=>by
 refine ⟨fun i ys H2=>ys = (List.range i).filterMap f∧Less [] H2 [] H',⟨rfl,h0 []⟩,fun i ys H2 hi hI=>⟨hok H2 hI.2,?_⟩,fun ys H2 hI=>⟨hok H2 hI.2,hI.1 ▸ hq H2 hI.2⟩⟩
 obtain ⟨rfl,hl⟩:=hI
 refine On1.less hl (On1.mono (hstep _ (c.inner scope cl C hk) i hi) fun _ m3 H3 q=>?_)
 have key:∀ (o:Option V) (H5:Hp),(o = f i∧Less [] H5 [] H')→(match o with | some v=>((List.range i).filterMap f ++ [v] = (List.range (i + 1)).filterMap f∧Less [] H5 [] H') | .none=>((List.range i).filterMap f = (List.range (i + 1)).filterMap f∧Less [] H5 [] H')):=by
  rintro o H5 ⟨rfl,hl⟩
  rw [List.range_succ,List.filterMap_append]
  cases q:f i with
  | none=>simp [q,hl]
  | some v=>simp [q,hl]
 have wm:∀ (l:List Expr) (m:Lo) (H:Hp) (Q Q':Bool→Lo→Hp→Prop),(∀ b m H,Q b m H→Q' b m H)→WPifs (c.comp scope cl C hk) l m H Q→WPifs (c.comp scope cl C hk) l m H Q':=by
  intro l
  induction l with
  | nil=>intro m H Q Q' hQ q; exact hQ _ _ _ q
  | cons e l ih=>intro m H Q Q' hQ q; exact WPt.mono q fun b m1 H1 q=>by cases b; exact hQ _ _ _ q; exact ih _ _ _ _ hQ q
 refine wm _ _ _ _ _ (fun b m4 H4 q=>?_) q
 cases b with
 | false=>exact key .none H4 q
 | true=>exact WPe.mono q fun v _ H5 q=>key (some v) H5 q
end
theorem Loc.of {x:Str} {u:V}:∀ {m:Lo},m.lookup x = some u→Loc x u m
 | [],h=>by cases h
 | (y,w) :: m,h=>by
  rw [List.lookup_cons] at h
  cases e:x == y with
  | true=>rw [e] at h; cases h; cases beq_iff_eq.mp e; exact .head m
  | false=>rw [e] at h; exact .tail (by simpa using e) (Loc.of h)
theorem LessM.c {x:Str} {u:V} {m m':Lo} (k:LessM m m') (h:autoParam (m.lookup x = some u) auAll):LessM m ((x,u) :: m'):=.cons (.of h) k
theorem LessM.k {m:Lo}:∀ {m':Lo},autoParam (m'.map (fun p=>m.lookup p.1) = m'.map fun p=>some p.2) auAll→LessM m m'
 | [],_=>.nil
 | (x,u) :: r,h=>by
  have h:(m.lookup x :: r.map fun p=>m.lookup p.1) = some u :: r.map fun p=>some p.2:=h
  injection h with h1 h2
  exact .c (LessM.k h2) h1
section
open PySem.SeqAt
section
variable {c:Ctx} {m:Lo} {H:Hp} {pos:Pos} {Q:V→Lo→Hp→Prop} {K:Frag}
theorem Ctx.hu0 (c:Ctx):c.A.units < cLine:=by have:=c.hu; exact as1 3 (.t (.a (.a Z0 (.m 40 Z1)) (.n 400)) Z2) (.t Z0 Z2) [_,_,_] this
theorem Ctx.hu1 (c:Ctx):c.A.in1.units < cLine:=by have:=c.hu; show c.A.units + 1 < cLine; exact as1 3 (.t (.a (.a Z0 (.m 40 Z1)) (.n 400)) Z2) (.t (.a Z0 N1) Z2) [_,_,_] this
theorem isIS_rep {k:IS} {h:Heap} {v:Value} (r:k.v.rep h v):isIS k v = true:=by
 cases k with
 | i n=>obtain ⟨t,rfl⟩:=r; simp [isIS,Value.isInt]
 | s x=>obtain ⟨t,rfl⟩:=r; simp [isIS,Value.isStrOf]
theorem rep_isIS {k:IS} {h:Heap} {v:Value} (r:isIS k v = true):k.v.rep h v:=by
 rcases isIS_shape r with ⟨n,t,rfl,rfl⟩ | ⟨x,t,rfl,rfl⟩
 ·exact ⟨t,rfl⟩
 ·exact ⟨t,rfl⟩
theorem isIS_eqAt {k k':IS} {u v:Value} {A:Around} {s:Shared} (hu:isIS k u = true) (hv:isIS k' v = true):EqAt A s u v (decide (k = k')):=fun prog w E Q q=>(mixKind prog w).eqBool hu hv q
theorem isIS_dec {k j:IS} {v:Value} (hj:isIS j v = true):isIS k v = decide (k = j):=by
 cases q:isIS k v with
 | true=>
  have:k = j:=by
   rcases isIS_shape q with ⟨n,t,rfl,rfl⟩ | ⟨x,t,rfl,rfl⟩
   ·rcases isIS_shape hj with ⟨n',t',rfl,e⟩ | ⟨x',t',rfl,e⟩
    ·injection e with e1; rw [e1]
    ·cases e
   ·rcases isIS_shape hj with ⟨n',t',rfl,e⟩ | ⟨x',t',rfl,e⟩
    ·cases e
    ·injection e with e1; rw [e1]
  simp [this]
 | false=>
  have:k≠j:=fun e=>by subst e; rw [hj] at q; cases q
  simp [this]
theorem isIS_any {h:Heap} {k:IS}:∀ {ks:List IS} {vs:List Value},Reps h (ks.map IS.v) vs→vs.any (isIS k) = decide (k∈ks)
 | [],_,e=>by cases e; rfl
 | j :: ks,_,⟨v,r,rfl,hv,hr⟩=>by
  rw [List.any_cons,isIS_any hr]
  have e:isIS k v = decide (k = j):=isIS_dec (isIS_rep hv)
  rw [e]
  by_cases q:k = j <;> simp [q]
theorem isIS_mem {h:Heap}:∀ {ks:List IS} {vs:List Value},Reps h (ks.map IS.v) vs→∀ y∈vs,∃ j,isIS j y = true
 | [],_,e,y,hy=>by cases e; cases hy
 | j :: ks,_,⟨v,r,rfl,hv,hr⟩,y,hy=>by
  rcases List.mem_cons.mp hy with e | e
  ·subst e; exact ⟨j,isIS_rep hv⟩
  ·exact isIS_mem hr y e
theorem isIS_e {k:IS} {y vx:Value} {A:Around} {s:Shared} (hx:isIS k vx = true) (hy:∃ j,isIS j y = true):EqAt A s y vx (isIS k y):=by
 obtain ⟨j,hj⟩:=hy
 have e:isIS k y = decide (k = j):=isIS_dec hj
 rw [e]
 have:=isIS_eqAt (A:=A) (s:=s) hj hx
 rwa [show decide (j = k) = decide (k = j) by simp [eq_comm]] at this
theorem c_in {a:Addr} {ks:List IS} {k:IS} (ha:Sees c H a (.list (ks.map IS.v))) (h:Q (.bool (decide (k∈ks))) m H):Cmp c .In k.v (.ref a) m H Q:=fun s va vb R ra rb=>by
 cases (rb:vb = _)
 obtain ⟨i1,n1,l1,r1⟩:=O.list_get (ha m s R)
 refine .val R h fun P kk=>in_listAt (isIS k) (IsL.isList l1) (fun y hy=>isIS_e (isIS_rep ra) (isIS_mem r1 y (by simpa using hy))) (kk _ s.toks ?_)
 show _ = _
 rw [← isIS_any r1,Array.any_toList]
theorem c_notin {a:Addr} {ks:List IS} {k:IS} (ha:Sees c H a (.list (ks.map IS.v))) (h:Q (.bool (!decide (k∈ks))) m H):Cmp c .NotIn k.v (.ref a) m H Q:=fun s va vb R ra rb=>by
 cases (rb:vb = _)
 obtain ⟨i1,n1,l1,r1⟩:=O.list_get (ha m s R)
 refine .val R h fun P kk=>notIn_listAt (isIS k) (IsL.isList l1) (fun y hy=>isIS_e (isIS_rep ra) (isIS_mem r1 y (by simpa using hy))) (kk _ s.toks ?_)
 show _ = _
 rw [← isIS_any r1,Array.any_toList]
end
end
section
open PySem.SeqAt
structure Cls (K:Frag) (C:Addr):Prop where
 pg:findIn K (.ref C) "__getattribute__" = some (some (.builtin "object.__getattribute__"))
 pa:findIn K (.ref C) "__getattr__" = some .none
 hd:hasDictIn K C = true
 po:plainOver K C = true
 sa:findIn K (.ref C) "__setattr__" = some (some (.builtin "object.__setattr__"))
noncomputable def At.notBi:At→Bool
 | .bi _=>false
 | _=>true
noncomputable def V.notBi:V→Bool
 | .at x=>x.notBi
 | _=>true
theorem handed_of {u:V} {h:Heap} {v:Value} (hu:u.notBi = true) (r:u.rep h v):handedIn v = true:=by
 cases u with
 | «at» x=>
  cases x with
  | bi n=>cases hu
  | none=>cases (r:v = _); rfl
  | bool b=>cases (r:v = _); rfl
  | ty b=>cases (r:v = _); rfl
  | ref b=>cases (r:v = _); rfl
  | int i=>obtain ⟨t,rfl⟩:=r; rfl
  | str i=>obtain ⟨t,rfl⟩:=r; rfl
  | float i=>obtain ⟨t,rfl⟩:=r; rfl
 | tup k xs=>obtain ⟨a,items,rfl,_⟩:=r; rfl
theorem nodup_len:∀ (l l':List Str),l.Nodup→(∀ x∈l,x∈l')→l.length≤l'.length
 | [],_,_,_=>Nat.zero_le _
 | x :: l,l',nd,h=>by
  obtain ⟨h1,h2⟩:=List.nodup_cons.mp nd
  have hx:=h x mS
  have:=nodup_len l (l'.erase x) h2 fun y hy=>(List.mem_erase_of_ne (a:=y) (b:=x) (fun e=>h1 (by rw [← e]; exact hy))).mpr (h y (mT hy))
  rw [List.length_erase_of_mem hx] at this
  have:0 < l'.length:=List.length_pos_of_mem hx
  simp; lia
noncomputable def keyName:Value→Str
 | .str n _=>n
 | _=>Str.empty
theorem ns_size {h:Heap} {a:Addr} {mm:Str→Option Value} {fs:List (Str × V)} (hn:h.Ns1 a mm) (h1:∀ y,mm y = .none ↔ fs.lookup y = .none):∃ o es ep,h.get? a = some o∧o.data = .dict es ep∧es.size≤fs.length:=by
 obtain ⟨o,es,ep,ho,hd,hk,hu,hf⟩:=hn
 refine ⟨o,es,ep,ho,hd,?_⟩
 have key:∀ e∈es.toList,e.key.isStr (keyName e.key) = true:=fun e he=>by
  obtain ⟨n,t,hkey⟩:=hk e (by simpa using he)
  rw [hkey]; show (n == n) = true; exact beq_self_eq_true n
 have:=nodup_len (es.toList.map fun e=>keyName e.key) (fs.map (·.1)) ?_ ?_
 ·simpa using this
 ·rw [List.nodup_iff_pairwise_ne]
  refine List.pairwise_map.mpr ?_
  refine List.Pairwise.imp_of_mem (fun {a b} ha hb q e=>?_) hu
  exact q (keyName a.key) (key a ha) (e ▸ key b hb)
 ·intro x hx
  obtain ⟨e,he,rfl⟩:=List.mem_map.mp hx
  have hne:mm (keyName e.key)≠.none:=by
   rw [← hf]
   unfold nsFind findBy
   rw [← Array.find?_toList]
   cases q:es.toList.find? (fun x=>x.key.isStr (keyName e.key)) with
   | some y=>simp
   | none=>exact absurd (key e he) (by have:=List.find?_eq_none.mp q e he; simpa using this)
  cases q:fs.lookup (keyName e.key) with
  | none=>exact absurd ((h1 _).mpr q) hne
  | some u=>exact List.mem_map.mpr ⟨_,mem_of_lookup q,rfl⟩
section
variable {c:Ctx} {m:Lo} {H:Hp} {pos:Pos} {Q:V→Lo→Hp→Prop} {K:Frag}
theorem inst_at {x C d:Addr} {fs:List (Str × V)} {s:Shared} (hx:(O.inst C d).rep c.prog c.w s.heap x) (hd:(O.ns fs).rep c.prog c.w s.heap d):∃ ox od mm,InstAt s.heap x ox C (some od)∧ox.dict = some d∧s.heap.get? d = some od∧s.heap.Ns1 d mm∧(∀ y,lookIn y od = some (mm y))∧(∀ y,mm y = .none ↔ fs.lookup y = .none)∧∀ y u,fs.lookup y = some u→∃ v,mm y = some v∧u.rep s.heap v:=by
 obtain ⟨ox,ho,hc,hdc,hp,_⟩:=hx
 obtain ⟨mm,hn,h1,h2⟩:=hd
 obtain ⟨od,es,ep,hod,hde,hk,huq,hf⟩:=id hn
 refine ⟨ox,od,mm,⟨ho,hc,?_,?_⟩,hdc,hod,hn,?_,h1,h2⟩
 ·obtain ⟨a,b,dt,sl⟩:=ox; subst hp; rfl
 ·rw [hdc]; exact hod
 ·intro y
  unfold lookIn
  rw [hde]
  dsimp only
  rw [← hf y]
  unfold nsFind findBy
  rw [← Array.find?_toList]
  cases q:es.toList.find? (·.key.isStr y) with
  | some e=>rfl
  | none=>
   have:es.toList.any (·.refKey) = false:=by
    rw [List.any_eq_false]
    intro e he
    obtain ⟨n,t,hkey⟩:=hk e (by simpa using he)
    simp [DictEntry.refKey,hkey]
   simp [this]
noncomputable abbrev Attr (c:Ctx) (u:V) (name:Str) (m:Lo) (H:Hp) (Q:V→Lo→Hp→Prop):Prop:=On1 c u VR (fun v=>getAttr v name true) m H Q
theorem e_attr {o:Expr} {name:Str} (h:WPe c o m H fun u m1 H1=>Attr c u name m1 H1 Q)
  (he:autoParam (eval (.Attribute o name pos) c.env = (do let v ← eval o c.env; standAt pos.atName; let r ← holding [v] (getAttr v name true); letTemporaryGo o v r; pure r)) auAll):WPe c (.Attribute o name pos) m H Q:=
 fun s R P k=>Attribute_any_ (h s R _ fun a va m1 H1 h1 tk1 R1 F1 r1 q1=>q1 _ va R1 r1 P fun v v' m3 H3 h3 tk3 R3 F3 r3 q3=>k v v' m3 H3 h3 tk3 R3 (F1.trans R1.hasL F3) r3 q3) he
theorem a_inst {x C d:Addr} {fs:List (Str × V)} {name:Str} {u:V} (B:Base c K) (hC:Cls K C) (hf:findIn K (.ref C) name = some .none) (hx:Sees c H x (.inst C d)) (hd:Sees c H d (.ns fs)) (hu:fs.lookup name = some u) (h:Q u m H) (hb:autoParam (u.notBi = true) auRfl):Attr c (.ref x) name m H Q:=fun s va R r=>by
 cases (r:va = _)
 obtain ⟨ox,od,mm,I,hdd,hod,hn,hl,h1,h2⟩:=inst_at (hx m s R) (hd m s R)
 obtain ⟨v,hv,hr⟩:=h2 name u hu
 refine .val R h fun P k=>get_value (B.kin _ R.keep) I hC.pg ?_ (handed_of hb hr) (k v _ hr)
 obtain ⟨cd,hc,hdd⟩:=any_some hC.hd
 unfold findObj
 rw [hc,Option.bind_some,hf,Option.bind_some]
 dsimp only [Option.bind_some]
 unfold W.ownOf
 rw [hdd,if_pos rfl]
 show (lookIn name od).bind _ = _
 rw [hl name,hv]; rfl
theorem gm_inst {x C d f:Addr} {fs:List (Str × V)} {name:Str} (B:Base c K) (hC:Cls K C) (hf:findIn K (.ref C) name = some (some (.ref f))) (hfn:typeIn K (.ref f) = some (.type "function")) (hx:Sees c H x (.inst C d)) (hd:Sees c H d (.ns fs)) (hu:fs.lookup name = .none):GM c (.ref x) name (.ref f) [.ref x] H:=fun m s vu pl P R r k=>by
 cases (r:vu = _)
 obtain ⟨ox,od,mm,I,hdd,hod,hn,hl,h1,h2⟩:=inst_at (hx m s R) (hd m s R)
 refine method_fn (B.kin _ R.keep) I hC.pg hC.pa hf hfn ?_ (k _ _ s.toks rfl (.one rfl))
 show (lookIn name od).map _ = _
 rw [hl name,(h1 name).mpr hu]; rfl
theorem asg_attr {o:Expr} {name:Str} {v:V} {Q:Lo→Hp→Prop} (h:WPe c o m H fun u m1 H1=>On2 c u v UR (fun a b=>setAttr a name b) m1 H1 fun _=>Q):Asg c (.Attribute o name pos) v m H Q:=
 fun s va R r P k=>kas_attr (h s R _ fun a vo m1 H1 h1 tk1 R1 F1 r1 q1=>q1 _ vo va R1 r1 (R.lift F1 r) _ fun b w m3 H3 h3 tk3 R3 F3 r3 q3=>k b w m3 H3 h3 tk3 R3 (F1.trans R1.hasL F3) r3 q3)
theorem set_inst {x C d:Addr} {fs:List (Str × V)} {H':Hp} {name:Str} {v:V} {Q:Lo→Hp→Prop} (B:Base c K) (hC:Cls K C) (hf:findIn K (.ref C) name = some .none) (hx:Sees c H x (.inst C d)) (up:Upd d (.ns fs) (.ns ((name,v) :: fs)) H H') (h:Q m H') (hz:autoParam (fs.length≤1000) auBle):On2 c (.ref x) v UR (fun a b=>setAttr a name b) m H fun _=>Q:=fun s va vb R ra rb=>by
 cases (ra:va = _)
 obtain ⟨ox,od,mm,I,hdd,hod,hn,hl,h1,h2⟩:=inst_at (hx m s R) (R.obj _ _ up.mem)
 have X:=B.kin _ R.keep
 refine .upd R up (b:=()) h fun P k=>set_plain X I hC.sa ?_
 refine osa_open (s:={ s with toks:=s.toks + 1 }) X I hC.po (r:=.none) (by unfold takerIn; rw [hf]; rfl) fun b=>?_
 obtain ⟨cd,hc,hdc⟩:=any_some hC.hd
 have hox:=I.at_
 have hcl:=I.cls
 have hno:=I.no
 obtain ⟨oc,odi,oda,osl⟩:=ox
 dsimp only at hcl hdd
 subst hcl hdd
 refine wpAny_bind (wpAny_pure (wpAny_bind (wpAny_bind (wpAny_loadPart hox (wpAny_bind (Looks.here (s:={ s with toks:=s.toks + 1 }) (looks_clsIn X hc) ?_))))))
 rw [hdc]
 refine wpAny_pure (a:=some d) (wpAny_bind (wpAny_pure (wpAny_bind ?_)))
 refine wpAny_nsSet1 hn fun h' hn' hs'=>?_
 have g1:∀ y,(fun x=>if x = name then some vb else mm x) y = .none ↔ ((name,v) :: fs).lookup y = .none:=fun y=>by
  rw [List.lookup_cons]
  cases q:y == name with
  | true=>simp [beq_iff_eq.mp q]
  | false=>
   have:y≠name:=fun e=>by subst e; simp at q
   simp only [this,if_false]
   exact h1 y
 obtain ⟨o9,es9,ep9,ho9,hd9,hz9⟩:=ns_size hn' g1
 refine wpAny_bind (wpAny_lookBehind (s:={ s with heap:=h',toks:=s.toks + 1 + 1 }) ho9 (by rw [hd9]; exact pastItsLine_dict (by rw [sizeLine_eq]; simp at hz9; exact as2 2 (.l Z0 (.n 1000)) (.l Z1 (.a Z0 N1)) (.l Z1 (.a (.n 16777216) N1)) [_,_] hz hz9)) (wpAny_pure ?_))
 refine k () h' _ (Heap.SameBut.kp hs') (let ⟨o,_,_,ho,_⟩:=hn'; ⟨o,ho⟩) (fun F=>?_) trivial
 refine ⟨_,hn',g1,fun y u e=>?_⟩
 ·rw [List.lookup_cons] at e
  cases q:y == name with
  | true=>rw [q] at e; cases e; exact ⟨vb,if_pos (beq_iff_eq.mp q),R.lift F rb⟩
  | false=>
   rw [q] at e
   have:y≠name:=fun e=>by subst e; simp at q
   obtain ⟨w,hw,hr⟩:=h2 y u e
   exact ⟨w,(if_neg this).trans hw,R.lift F hr⟩
end
end
section
open PySem.SeqAt
noncomputable def fdIn (K:Frag) (a:Addr):FuncData:=match K.lookup a with
 | some ⟨_,_,.func fd,_⟩=>fd
 | _=>default
noncomputable def bodyIn (fd:FuncData):List Stmt:=match fd.body with
 | .stmts b=>b
 | _=>[]
noncomputable def FnB (K:Frag) (a:Addr) (fd:FuncData):Bool:=codeIn K fd.code fd.qualname && fd.closure.isEmpty && (match fd.scope.kind with | .function=>true | _=>false) && !fd.scope.isCoroutine && !fd.scope.isGenerator && (fd.globals == mainGlobals) && (fd.builtins == builtinsNs) && (match fd.body with | .stmts _=>true | _=>false) && keepIn K (.ref a)
noncomputable def fnOkB (K:Frag) (a:Addr):Bool:=match K.lookup a with
 | some ⟨_,_,.func fd,_⟩=>FnB K a fd
 | _=>false
noncomputable def distinctB:List Str→Bool
 | []=>true
 | x :: l=>!l.contains x && distinctB l
theorem distinctB_nodup:∀ {l:List Str},distinctB l = true→l.Nodup
 | [],_=>List.nodup_nil
 | x :: l,h=>by
  have h:(!l.contains x && distinctB l) = true:=h
  rw [Bool.and_eq_true,Bool.not_eq_true'] at h
  exact List.nodup_cons.mpr ⟨by simpa using h.1,distinctB_nodup h.2⟩
structure FnOk (K:Frag) (fa:Addr) (fd:FuncData):Prop where
 look:∃ o,K.lookup fa = some o∧o.data = .func fd
 code:codeIn K fd.code fd.qualname = true
 clo:fd.closure = []
 kind:fd.scope.kind = .function
 co:fd.scope.isCoroutine = false
 gen:fd.scope.isGenerator = false
 glob:fd.globals = mainGlobals
 bui:fd.builtins = builtinsNs
 body:fd.body = .stmts (bodyIn fd)
 keep:keepIn K (.ref fa) = true
theorem fnOk_of {K:Frag} {a:Addr} (h:fnOkB K a = true):FnOk K a (fdIn K a):=by
 delta fnOkB at h
 delta fdIn
 cases q:K.lookup a with
 | none=>rw [q] at h; cases h
 | some o=>
  rw [q] at h
  obtain ⟨oc,od,dat,osl⟩:=o
  cases dat with
  | func fd=>
   refine (fun (h:FnB K a fd = true)=>?_) h
   unfold FnB at h
   rw [Bool.and_eq_true,Bool.and_eq_true,Bool.and_eq_true,Bool.and_eq_true,Bool.and_eq_true,Bool.and_eq_true,Bool.and_eq_true,Bool.and_eq_true,Bool.not_eq_true',Bool.not_eq_true'] at h
   obtain ⟨⟨⟨⟨⟨⟨⟨⟨h1,h2⟩,h3⟩,h4⟩,h5⟩,h6⟩,h7⟩,h8⟩,h9⟩:=h
   refine ⟨⟨_,q,rfl⟩,h1,by simpa using h2,?_,h4,h5,by simpa using h6,by simpa using h7,?_,h9⟩
   ·show fd.scope.kind = _
    cases k:fd.scope.kind with
    | function=>rfl
    | _=>rw [k] at h3; cases h3
   ·show fd.body = .stmts (bodyIn fd)
    cases k:fd.body with
    | stmts b=>delta bodyIn; rw [k]
    | _=>rw [k] at h8; cases h8
  | _=>cases h
theorem cellsFrom_look:∀ {names:List (Str × NameKind)} {n:Nat} {acc:List (Str × Addr)},(names.map (·.1)).Nodup→(∀ x∈acc,x.1∉names.map (·.1))→(∀ x∈acc,acc.lookup x.1 = some x.2)→∀ x∈cellsFrom n names acc,(cellsFrom n names acc).lookup x.1 = some x.2
 | [],n,acc,nd,hx,h=>h
 | (nm,k) :: r,n,acc,nd,hx,h=>by
  obtain ⟨n1,n2⟩:=List.nodup_cons.mp nd
  unfold cellsFrom
  split
  ·refine cellsFrom_look n2 (fun y hy q=>?_) (fun y hy=>?_)
   ·rcases List.mem_cons.mp hy with e | e
    ·subst e; exact n1 q
    ·exact hx y e (by simp only [List.map_cons]; exact mT q)
   ·rcases List.mem_cons.mp hy with e | e
    ·subst e; simp [List.lookup]
    ·rw [List.lookup_cons]
     have:(y.1 == nm) = false:=by
      have:y.1≠nm:=fun q=>hx y e (by rw [q]; simp)
      simpa using this
     rw [this]; exact h y e
  ·exact cellsFrom_look n2 (fun y hy q=>hx y hy (by simp only [List.map_cons]; exact mT q)) h
theorem cellsFrom_some:∀ {names:List (Str × NameKind)} {n:Nat} {acc:List (Str × Addr)} {x:Str},(names.lookup x = some .cell ∨ (acc.lookup x).isSome = true)→((cellsFrom n names acc).lookup x).isSome = true
 | [],n,acc,x,h=>by
  rcases h with h | h
  ·cases h
  ·exact h
 | (nm,k) :: r,n,acc,x,h=>by
  unfold cellsFrom
  rw [List.lookup_cons] at h
  cases q:x == nm with
  | true=>
   rw [q] at h
   split
   ·exact cellsFrom_some (.inr (by rw [List.lookup_cons,q]; rfl))
   ·rename_i hk
    rcases h with h | h
    ·cases h; exact absurd rfl hk
    ·exact cellsFrom_some (.inr h)
  | false=>
   rw [q] at h
   split
   ·exact cellsFrom_some (h.imp id fun h=>by rw [List.lookup_cons,q]; exact h)
   ·exact cellsFrom_some h
noncomputable def kindsB (names:List (Str × NameKind)) (ps:List Str):Bool:=ps.all fun x=>match names.lookup x with
 | some .local=>true
 | some .cell=>true
 | _=>false
section
variable {c:Ctx} {m:Lo} {H:Hp} {pos:Pos} {Q:V→Lo→Hp→Prop} {K:Frag}
theorem cal_K {fa:Addr} {fd:FuncData} {vs:List V} {bs:List (Str × V)} {k:Nat} (B:Base c K) (hfu:c.fuel = k + 1) (f:FnOk K fa fd) (hnd:distinctB (fd.scope.names.map (·.1)) = true) (hks:kindsB fd.scope.names (bs.map (·.1)) = true)
  (hbind:∀ s vvs,K.In s.heap→Reps s.heap vs vvs→∃ binds,BindsTo s fd ⟨vvs,[]⟩ binds∧BRep s.heap bs binds)
  (h:∀ L c2,Called c fd L c2→c2.fuel = k→Base c2 K→WPs c2 (bodyIn fd) (locOf fd.scope.names bs) (cellsAt L fd bs ++ H) fun f _ H'=>Q f.val m H'):CalC c (.ref fa) vs m H Q:=by
 obtain ⟨o,hf,hd⟩:=f.look
 refine cal_fn (bs:=bs) hfu (fun h hh=>⟨o,B.kin h hh _ _ hf,hd⟩) (fun h hh=>codeRec_of (B.kin h hh) f.code) B.lim f.body f.clo f.kind f.co f.gen (fun m H s vvs R r=>hbind s vvs (B.kin _ R.keep) r) ?_
  (fun n=>cellsFrom_look (distinctB_nodup hnd) (fun _ q=>by cases q) (fun _ q=>by cases q)) (fun L=>h L _ (c.called fd fa L k hfu f.kind) rfl (B.enter f.glob f.bui))
 intro n x hx
 have:=List.all_eq_true.mp hks x.1 (List.mem_map.mpr ⟨x,hx,rfl⟩)
 cases q:fd.scope.names.lookup x.1 with
 | none=>rw [q] at this; cases this
 | some k=>
  rw [q] at this
  cases k with
  | «local»=>exact .inl rfl
  | cell=>exact .inr ⟨rfl,cellsFrom_some (.inl q)⟩
  | _=>cases this
theorem binds_plain {fd:FuncData} {vs:List V} {ps:List Str} (hps:ps.length = vs.length) (h:∀ vvs:List Value,vvs.length = vs.length→bindArgs fd ⟨vvs,[]⟩ = pure (ps.zip vvs)) (s:Shared) (vvs:List Value) (X:K.In s.heap) (r:Reps s.heap vs vvs) :
  ∃ binds,BindsTo s fd ⟨vvs,[]⟩ binds∧BRep s.heap (ps.zip vs) binds:=by
 refine ⟨ps.zip vvs,.of_eq (h vvs r.length),?_,?_⟩
 ·have:=r.length
  rw [List.map_fst_zip (by exact as2 3 (.e Z0 Z1) (.e Z2 Z1) (.l Z0 Z2) [_,_,_] hps this),List.map_fst_zip (by exact as1 2 (.e Z0 Z1) (.l Z0 Z1) [_,_] hps)]
 ·have:=r.length
  rw [List.map_snd_zip (by exact as1 2 (.e Z0 Z1) (.l Z1 Z0) [_,_] hps),List.map_snd_zip (by exact as2 3 (.e Z0 Z1) (.e Z2 Z1) (.l Z2 Z0) [_,_,_] hps this)]
  exact r
structure Made (c c2:Ctx):Prop where
 env:c2.env = c.env
 G:c2.G = c.G
 fuel:c.fuel = c2.fuel + 1
 prog:c2.prog = c.prog
 w:c2.w = c.w
theorem Made.rel {c c2:Ctx} (h:Made c c2) {st:St} {s:Shared}:Rel c st s ↔ Rel c2 st s:=by
 obtain ⟨e1,e2,e3,e4,e5⟩:=h
 constructor
 ·intro R
  exact ⟨by rw [e1]; exact R.loc,by rw [e4,e5]; exact R.obj,R.nd,by rw [e1,e2]; exact R.apart,by rw [e2]; exact R.keep,by rw [e1,e2]; exact R.gl,R.bare⟩
 ·intro R
  exact ⟨by rw [← e1]; exact R.loc,by rw [← e4,← e5]; exact R.obj,R.nd,by rw [← e1,← e2]; exact R.apart,by rw [← e2]; exact R.keep,by rw [← e1,← e2]; exact R.gl,R.bare⟩
theorem Made.base {c c2:Ctx} (h:Made c c2) (B:Base c K):Base c2 K:=
 ⟨fun hp hh=>B.kin hp (by rw [← h.G]; exact hh),B.glo.imp fun _ k hp hh=>k hp (by rw [← h.G]; exact hh),B.bui.imp fun _ k=>⟨fun hp hh=>k.1 hp (by rw [← h.G]; exact hh),k.2⟩,fun hp hh=>B.lim hp (by rw [← h.G]; exact hh),by rw [h.env]; exact B.g,by rw [h.env]; exact B.b⟩
theorem cal_class {C fI:Addr} {vs:List V} {k:Nat} (B:Base c K) (hfu:c.fuel = k + 1) (hm:makesIn K C = true) (hi:findIn K (.ref C) "__init__" = some (some (.ref fI))) (hf:typeIn K (.ref fI) = some (.type "function"))
  (h:∀ c2 x d,Made c c2→c2.fuel = k→Base c2 K→CalC c2 (.ref fI) (.ref x :: vs) m ((x,.inst C d) :: (d,.ns []) :: H) fun v m' H'=>v = .none∧Q (.ref x) m' H'):CalC c (.ref C) vs m H Q:=fun s vf vvs R rf rv P kont=>by
 cases (rf:vf = _)
 have X:=B.kin _ R.keep
 obtain ⟨hp,g,d,t,os⟩:=s
 have dep:(c.A.under (.builtin "type.__call__" ⟨.ref C :: vvs,[]⟩)).depth = c.A.depth + 1:=rfl
 have uni:(c.A.under (.builtin "type.__call__" ⟨.ref C :: vvs,[]⟩)).units = c.A.units + 1:=rfl
 let c2:Ctx:=⟨c.prog,c.w,c.A.under (.builtin "type.__call__" ⟨.ref C :: vvs,[]⟩),c.env,c.G,k,c.hh,(by have:=c.hd; rw [hfu] at this; rw [dep]; exact as1 3 (.t (.a Z0 (.a Z1 N1)) Z2) (.t (.a (.a Z0 N1) Z1) Z2) [_,_,_] this),(by have:=c.hu; rw [hfu] at this; rw [uni]; exact as1 3 (.t (.a (.a Z0 (.m 40 (.a Z1 N1))) (.n 400)) Z2) (.t (.a (.a (.a Z0 N1) (.m 40 Z1)) (.n 400)) Z2) [_,_,_] this),c.hk⟩
 have M:Made c c2:=⟨rfl,rfl,hfu,rfl,rfl⟩
 have g1:∀ b o,hp.get? b = some o→(hp.push emptyDict).get? b = some o:=push_grow
 have R1:Rel c ⟨m,(hp.objs.size,.ns []) :: H⟩ ⟨hp.push emptyDict,g,d,t,os⟩:=R.new (s:=⟨hp,g,d,t,os⟩) ⟨t,d,g⟩ g1 (get_size hp) ⟨_,Heap.Ns1.of_empty (Heap.Ns.new hp _),fun _=>⟨fun _=>rfl,fun _=>rfl⟩,fun _ _ e=>by cases e⟩
 have e1:(hp.push emptyDict).objs.size = hp.objs.size + 1:=by simp
 have R2:Rel c ⟨m,(hp.objs.size + 1,.inst C hp.objs.size) :: (hp.objs.size,.ns []) :: H⟩ ⟨(hp.push emptyDict).push (instObj C hp.objs.size),g,d,t,os⟩:=by
  have:=R1.new (s:=⟨hp.push emptyDict,g,d,t,os⟩) (a:=(hp.push emptyDict).objs.size) (o:=.inst C hp.objs.size) ⟨t,d,g⟩ (push_grow (o:=instObj C hp.objs.size)) (get_size _) ⟨_,Heap.get?_push_size _ rfl,rfl,rfl,rfl,rfl⟩
  rwa [e1] at this
 have F0:Fp c.env.locals H ((hp.objs.size + 1,.inst C hp.objs.size) :: (hp.objs.size,.ns []) :: H) hp ((hp.push emptyDict).push (instObj C hp.objs.size)):=by
  have a:=Fp.new (L:=c.env.locals) (H:=H) (o:=.ns []) g1 (get_size hp)
  have b:=Fp.new (L:=c.env.locals) (H:=(hp.objs.size,O.ns []) :: H) (a:=(hp.push emptyDict).objs.size) (o:=.inst C hp.objs.size) (push_grow (h:=hp.push emptyDict) (o:=instObj C hp.objs.size)) (get_size _)
  rw [e1] at b
  exact a.trans R1.hasL b
 refine (make_core (makes_of X hm) (looks_findIn X hi) (fun self=>bind_fn X self hf) (.inl rfl) ?_)
 have main:=h c2 (hp.objs.size + 1) hp.objs.size M rfl (M.base B) _ _ _ (M.rel.mp R2) rfl (.cons rfl (R.liftL F0 rv)) (fun v s'=>v = .none∧P (.ref (hp.objs.size + 1)) s') (fun b v m' H' h' tk' R' F' r' q'=>?_)
 ·refine codeAny_mono main fun r s' q=>?_
  cases r with
  | ok f=>cases f <;> first | exact q | exact q.elim
  | error e=>exact q.elim
 ·obtain ⟨rfl,q⟩:=q'
  cases (r':v = _)
  exact ⟨rfl,kont (.ref (hp.objs.size + 1)) _ m' H' h' tk' (M.rel.mpr R') (F0.trans R2.hasL F') rfl q⟩
end
end
section
open PySem.SeqAt
noncomputable def dictAt (es:List (IS × V)) (k:IS):Option V:=(es.find? fun e=>decide (e.1 = k)).map (·.2)
noncomputable def dictDel (es:List (IS × V)) (k:IS):List (IS × V):=es.filter fun e=>decide (e.1≠k)
noncomputable def dictPut (es:List (IS × V)) (k:IS) (v:V):List (IS × V):=if es.any (fun e=>decide (e.1 = k)) then es.map (fun e=>if e.1 = k then (e.1,v) else e) else es ++ [(k,v)]
noncomputable def PairsR (h:Heap) (kvs:List (IS × Value)) (es:List (IS × V)):Prop:=kvs.map (·.1) = es.map (·.1)∧Reps h (es.map (·.2)) (kvs.map (·.2))
theorem PairsR.cons {h:Heap} {k:IS} {u:V} {es:List (IS × V)} {kvs:List (IS × Value)} (b:PairsR h kvs ((k,u) :: es)):∃ v r,kvs = (k,v) :: r∧u.rep h v∧PairsR h r es:=by
 obtain ⟨h1,h2⟩:=b
 cases kvs with
 | nil=>simp at h1
 | cons p r=>
  obtain ⟨y,v⟩:=p
  simp only [List.map_cons,List.cons.injEq] at h1
  obtain ⟨w,r',e,hv,hr⟩:=h2
  simp only [List.map_cons,List.cons.injEq] at e
  obtain ⟨rfl,rfl⟩:=e
  obtain ⟨rfl,h1⟩:=h1
  exact ⟨v,r,rfl,hv,h1,hr⟩
theorem PairsR.mk {h:Heap} {k:IS} {u:V} {v:Value} {es:List (IS × V)} {kvs:List (IS × Value)} (hv:u.rep h v) (r:PairsR h kvs es):PairsR h ((k,v) :: kvs) ((k,u) :: es):=⟨by simp [r.1],⟨v,_,rfl,hv,r.2⟩⟩
theorem PairsR.nil {h:Heap} {kvs:List (IS × Value)} (b:PairsR h kvs []):kvs = []:=by have:=b.1; simpa using this
theorem PairsR.length {h:Heap} {kvs:List (IS × Value)} {es:List (IS × V)} (b:PairsR h kvs es):kvs.length = es.length:=by have:=congrArg List.length b.1; simpa using this
theorem PairsR.at {h:Heap} {k:IS}:∀ {es:List (IS × V)} {kvs:List (IS × Value)},PairsR h kvs es→(dictAt es k = .none ↔ valueAt kvs k = .none)∧∀ u,dictAt es k = some u→∃ v,valueAt kvs k = some v∧u.rep h v
 | [],kvs,b=>by cases b.nil; exact ⟨⟨fun _=>rfl,fun _=>rfl⟩,fun _ e=>by cases e⟩
 | (j,u) :: es,_,b=>by
  obtain ⟨v,r,rfl,hv,hr⟩:=b.cons
  have ih:=PairsR.at (k:=k) hr
  unfold dictAt valueAt at *
  rw [List.find?_cons,List.find?_cons]
  by_cases q:j = k
  ·simp only [q,decide_true,Option.map_some]
   exact ⟨⟨fun e=>(by cases e),fun e=>(by cases e)⟩,fun w e=>(by cases e; exact ⟨v,rfl,hv⟩)⟩
  ·simp only [q,decide_false]
   exact ih
theorem PairsR.del {h:Heap} {k:IS}:∀ {es:List (IS × V)} {kvs:List (IS × Value)},PairsR h kvs es→PairsR h (without kvs k) (dictDel es k)
 | [],kvs,b=>by cases b.nil; exact b
 | (j,u) :: es,_,b=>by
  obtain ⟨v,r,rfl,hv,hr⟩:=b.cons
  have ih:=PairsR.del (k:=k) hr
  unfold dictDel without at *
  rw [List.filter_cons,List.filter_cons]
  by_cases q:j = k
  ·simpa [q] using ih
  ·simpa [q] using PairsR.mk hv ih
theorem PairsR.snoc {h:Heap} {k:IS} {u:V} {v:Value} (hv:u.rep h v):∀ {es:List (IS × V)} {kvs:List (IS × Value)},PairsR h kvs es→PairsR h (kvs ++ [(k,v)]) (es ++ [(k,u)])
 | [],kvs,b=>by cases b.nil; exact PairsR.mk hv b
 | (j,w) :: es,_,b=>by
  obtain ⟨x,r,rfl,hx,hr⟩:=b.cons
  exact PairsR.mk hx (PairsR.snoc hv hr)
theorem PairsR.any {h:Heap} {k:IS}:∀ {es:List (IS × V)} {kvs:List (IS × Value)},PairsR h kvs es→kvs.any (fun e=>decide (e.1 = k)) = es.any (fun e=>decide (e.1 = k))
 | [],kvs,b=>by cases b.nil; rfl
 | (j,w) :: es,_,b=>by
  obtain ⟨x,r,rfl,hx,hr⟩:=b.cons
  rw [List.any_cons,List.any_cons,PairsR.any hr]
theorem PairsR.over {h:Heap} {k:IS} {u:V} {v:Value} (hv:u.rep h v):∀ {es:List (IS × V)} {kvs:List (IS × Value)},PairsR h kvs es→PairsR h (kvs.map fun e=>if e.1 = k then (e.1,v) else e) (es.map fun e=>if e.1 = k then (e.1,u) else e)
 | [],kvs,b=>by cases b.nil; exact b
 | (j,w) :: es,_,b=>by
  obtain ⟨x,r,rfl,hx,hr⟩:=b.cons
  have ih:=PairsR.over (k:=k) hv hr
  rw [List.map_cons,List.map_cons]
  by_cases q:j = k
  ·simpa [q] using PairsR.mk hv ih
  ·simpa [q] using PairsR.mk hx ih
theorem PairsR.put {h:Heap} {k:IS} {u:V} {v:Value} (hv:u.rep h v) {es:List (IS × V)} {kvs:List (IS × Value)} (b:PairsR h kvs es):PairsR h (stored kvs k v) (dictPut es k u):=by
 unfold stored dictPut
 rw [b.any]
 split
 ·exact b.over hv
 ·exact b.snoc hv
theorem dictAt_none {es:List (IS × V)} {k:IS} (h:dictAt es k = .none):es.any (fun e=>decide (e.1 = k)) = false:=by
 unfold dictAt at h
 rw [Option.map_eq_none_iff,List.find?_eq_none] at h
 rw [List.any_eq_false]
 exact h
section
variable {c:Ctx} {m:Lo} {H:Hp} {pos:Pos} {Q:V→Lo→Hp→Prop} {K:Frag}
theorem dict_get {d:Addr} {ep:Nat} {es:List (IS × V)} {s:Shared} (r:(O.dict ep es).rep c.prog c.w s.heap d):(d == sysModules) = false∧∃ kvs,s.heap.DictAt (mixKind c.prog c.w) d kvs ep∧s.heap.DictOf (mixKind c.prog c.w) d kvs∧PairsR s.heap kvs es:=by
 obtain ⟨h0,kvs,hm,h1,h2⟩:=r
 exact ⟨h0,kvs,hm,hm.dictOf,h1,h2⟩
theorem e_dict (B:Base c K) (h:∀ a,Q (.ref a) m ((a,.dict 0 []) :: H)):WPe c (.Dict [] [] pos) m H Q:=fun s R=>by
 refine .new R (o:=.dict 0 []) (b:=fun a=>.ref a) h fun P k=>wpAny_Dict_empty (k _ _ _ s.toks push_grow (get_size _) ⟨?_,[],?_,rfl,rfl⟩ rfl)
 ·obtain ⟨mg,hg⟩:=B.glo
  obtain ⟨o,es,ep,ho,_⟩:=hg _ R.keep
  have:=Heap.lt_size ho
  have e:mainGlobals = 3:=rfl
  rw [e] at this
  have h1:s.heap.objs.size≠1:=fun q=>by rw [q] at this; exact absurd this (by decide)
  simpa [sysModules] using h1
 ·exact ⟨_,#[],Heap.get?_push_size _ rfl,⟨rfl,rfl,rfl⟩,rfl,(by intro e he; simp at he),.nil,(by simp)⟩
theorem gm_dict {a:Addr} {ep:Nat} {es:List (IS × V)} {name:Str} {id:String} (hx:Sees c H a (.dict ep es)) (slot:Slot "dict" name id) (hty:typeOf (.builtin id) = pure (.type "method_descriptor")):GM c (.ref a) name (.bi id) [.ref a] H:=fun m s vu pl P R r k=>by
 cases (r:vu = _)
 obtain ⟨_,kvs,ha,hd,_⟩:=dict_get (hx m s R)
 obtain ⟨o,des,ho,hex,_⟩:=ha
 exact getMethod_builtin hd.typeIs F.plainAttrs_dict slot hty (fun b e=>by cases e; exact ⟨_,ho,hex.2.1⟩) (k _ _ s.toks rfl (.one rfl))
theorem k_dict_turn {d:Addr} {ep:Nat} {es es':List (IS × V)} {F:O→Hp} {t:Sem Value} {s:Shared} {u:V} {v:Value} (R:Rel c ⟨m,H⟩ s) (sp:Spot d (.dict ep es) H F) (h:∀ ep',Q u m (F (.dict ep' es'))) (hv:u.rep s.heap v)
  (hw:∀ P:Value→Shared→Prop,(∀ h' tk kvs',h'.DictOf (mixKind c.prog c.w) d kvs'→(∀ h,(∀ u v,V.rep s.heap u v→V.rep h u v)→PairsR h kvs' es')→Heap.SameBut d s.heap h'→P v { s with heap:=h',toks:=tk })→c.wp t P s):Run c H s VR t Q:=fun P k=>by
 refine hw P fun h' tk kvs' hd hr hs=>?_
 obtain ⟨ep',ha⟩:=hd.dictAt
 have al:∃ o,h'.get? d = some o:=let ⟨o,_,ho,_⟩:=ha; ⟨o,ho⟩
 have Fp':Fp c.env.locals H (F (.dict ep' es')) s.heap h':=.upd (sp.upd _) (Heap.SameBut.kp hs) al
 refine k u v m (F (.dict ep' es')) h' (tkn s tk) (R.upd (tkn s tk) (sp.upd _) (Heap.SameBut.kp hs) al fun _=>?_) Fp' (R.lift Fp' hv) (h ep')
 obtain ⟨h0,_⟩:=dict_get (R.obj _ _ (sp.upd (.dict 0 [])).mem)
 exact ⟨h0,kvs',ha,(hr h' fun u v r=>R.lift Fp' r)⟩
theorem PairsR.lift {h h':Heap} {kvs:List (IS × Value)} {es:List (IS × V)} (b:PairsR h kvs es) (l:∀ u v,V.rep h u v→V.rep h' u v):PairsR h' kvs es:=by
 refine ⟨b.1,?_⟩
 have:∀ (us:List V) (vs:List Value),Reps h us vs→Reps h' us vs:=by
  intro us
  induction us with
  | nil=>intro vs r; exact r
  | cons u us ih=>rintro vs ⟨v,r,e,hv,hr⟩; exact ⟨v,r,e,l u v hv,ih r hr⟩
 exact this _ _ b.2
theorem k_setdefault_new {d:Addr} {ep:Nat} {es:List (IS × V)} {k:IS} {u:V} {F:O→Hp} (sp:Spot d (.dict ep es) H F) (hn:dictAt es k = .none) (h:∀ ep',Q u m (F (.dict ep' (es ++ [(k,u)])))) (hz:es.length≤1000000):Cal c (.bi "dict.setdefault") [.ref d,k.v,u] m H Q:=fun s vf vvs R rf rv=>by
 cases (rf:vf = _)
 obtain ⟨va,rest,rfl,ra,rr⟩:=rv
 obtain ⟨vk,vu,rfl,rk,ru⟩:=Reps.two rr
 cases (ra:va = _)
 obtain ⟨h0,kvs,ha,hd,hp⟩:=dict_get (R.obj _ _ (sp.upd (.dict 0 [])).mem)
 refine k_dict_turn R sp h ru fun P kk=>call_meetsIn PySem.F.slot_dict_setdefault hd.typeIs PySem.F.entry_dict_setdefault (PySem.F.args_dict_setdefault_3 _ _ _) (kt_meets_setdefault (mixKind c.prog c.w) d (isIS_rep rk) h0 vu)
  ⟨kvs,hd,by rw [hp.length]; have:sizeLine = 16777216:=rfl; exact as2 2 (.l Z0 (.n 1000000)) (.e Z1 (.n 16777216)) (.l Z0 Z1) [_,_] hz this,fun v e=>?_,fun _ h' hd' hs'=>kk h' _ _ hd' (fun h l=>?_) hs'⟩
 ·rw [(hp.at.1.mp hn)] at e; cases e
 ·have e:dictPut es k u = es ++ [(k,u)]:=by unfold dictPut; rw [dictAt_none hn]; rfl
  exact e ▸ (hp.lift l).put (l _ _ ru)
theorem k_setdefault_old {d:Addr} {ep:Nat} {es:List (IS × V)} {k:IS} {u w:V} (hx:Sees c H d (.dict ep es)) (hn:dictAt es k = some w) (h:Q w m H) (hz:es.length≤1000000):Cal c (.bi "dict.setdefault") [.ref d,k.v,u] m H Q:=fun s vf vvs R rf rv=>by
 cases (rf:vf = _)
 obtain ⟨va,rest,rfl,ra,rr⟩:=rv
 obtain ⟨vk,vu,rfl,rk,ru⟩:=Reps.two rr
 cases (ra:va = _)
 obtain ⟨h0,kvs,ha,hd,hp⟩:=dict_get (hx m s R)
 obtain ⟨v,hv,hr⟩:=hp.at.2 w hn
 refine .val R h fun P kk=>call_meetsIn PySem.F.slot_dict_setdefault hd.typeIs PySem.F.entry_dict_setdefault (PySem.F.args_dict_setdefault_3 _ _ _) (kt_meets_setdefault (mixKind c.prog c.w) d (isIS_rep rk) h0 vu)
  ⟨kvs,hd,by rw [hp.length]; have:sizeLine = 16777216:=rfl; exact as2 2 (.l Z0 (.n 1000000)) (.e Z1 (.n 16777216)) (.l Z0 Z1) [_,_] hz this,fun v' e=>?_,fun e=>?_⟩
 ·rw [hv] at e; cases e; exact kk _ _ hr
 ·rw [hv] at e; cases e
theorem k_get {d:Addr} {ep:Nat} {es:List (IS × V)} {k:IS} {u:V} (hx:Sees c H d (.dict ep es)) (h:Q ((dictAt es k).getD u) m H):Cal c (.bi "dict.get") [.ref d,k.v,u] m H Q:=fun s vf vvs R rf rv=>by
 cases (rf:vf = _)
 obtain ⟨va,rest,rfl,ra,rr⟩:=rv
 obtain ⟨vk,vu,rfl,rk,ru⟩:=Reps.two rr
 cases (ra:va = _)
 obtain ⟨h0,kvs,ha,hd,hp⟩:=dict_get (hx m s R)
 refine .val R h fun P kk=>call_meetsIn PySem.F.slot_dict_get hd.typeIs PySem.F.entry_dict_get (PySem.F.args_dict_get_3 _ _ _) (meets_dict_get_default (mixKind c.prog c.w) d (isIS_rep rk) h0 vu) ⟨_,hd.mapOf,kk _ _ ?_⟩
 cases q:dictAt es k with
 | none=>rw [hp.at.1.mp q]; exact ru
 | some w=>obtain ⟨v,hv,hr⟩:=hp.at.2 w q; rw [hv]; exact hr
theorem sub_dict {v i:Expr} {d:Addr} {ep:Nat} {es:List (IS × V)} {k:IS} {u:V} (hx:Sees c H d (.dict ep es)) (hu:dictAt es k = some u) (h:Q u m H)
  (hs:autoParam (∀ o vk,subscripted i false (.ref o) vk = operate [.ref o,vk] (getItem (.ref o) vk)) auFunU2):Sub c v i (.ref d) k.v m H Q:=fun s va vb R ra rb=>by
 cases (ra:va = _)
 obtain ⟨h0,kvs,ha,hd,hp⟩:=dict_get (hx m s R)
 obtain ⟨w,hw,hr⟩:=hp.at.2 u hu
 refine .val R h fun P kk=>tail_any hd.typeIs PySem.F.slot_dict_getitem.lookup (wpAny_getItem_of (isIS_rep rb) hd.mapOf hw (kk _ _ hr)) (hs _ _)
theorem del_dict {d:Addr} {ep:Nat} {es:List (IS × V)} {k:IS} {u:V} {F:O→Hp} {Q:Lo→Hp→Prop} (sp:Spot d (.dict ep es) H F) (hu:dictAt es k = some u) (h:∀ ep',Q m (F (.dict ep' (dictDel es k)))) (hz:es.length≤1000000):On2 c (.ref d) k.v UR delItem m H fun _=>Q:=fun s va vb R ra rb P kk=>by
 cases (ra:va = _)
 obtain ⟨h0,kvs,ha,hd,hp⟩:=dict_get (R.obj _ _ (sp.upd (.dict 0 [])).mem)
 obtain ⟨w,hw,hr⟩:=hp.at.2 u hu
 unfold delItem
 refine wpAny_holding ?_
 refine wpAny_bind (wpAny_sequenceKey hd.typeIs (by decide) ?_)
 refine wpAny_bind (wpAny_callSpecial?_slot (name:=Str.ofString "__delitem__") hd.typeIs PySem.F.slot_dict_delitem
  (call_meetsIn PySem.F.slot_dict_delitem hd.typeIs PySem.F.entry_dict_delitem (PySem.F.args_dict_delitem_2 _ _) (meets_dict_delitem_pairs (mixKind c.prog c.w) d (isIS_rep rb)) ⟨kvs,hd,by rw [hp.length]; have:sizeLine = 16777216:=rfl; exact as2 2 (.l Z0 (.n 1000000)) (.e Z1 (.n 16777216)) (.l Z0 Z1) [_,_] hz this,by rw [hw]; rfl,fun h' hd' hs'=>?_⟩))
 obtain ⟨ep',ha'⟩:=hd'.dictAt
 have al:∃ o,h'.get? d = some o:=let ⟨o,_,ho,_⟩:=ha'; ⟨o,ho⟩
 have Fp':Fp c.env.locals H (F (.dict ep' (dictDel es k))) s.heap h':=.upd (sp.upd _) (Heap.SameBut.kp hs') al
 exact wpAny_pure (kk () () m _ h' (tkn s (s.toks + 1)) (R.upd _ (sp.upd _) (Heap.SameBut.kp hs') al (o':=.dict ep' (dictDel es k)) fun _=>⟨h0,_,ha',(hp.lift fun u v r=>R.lift Fp' r).del⟩) Fp' trivial (h ep'))
end
end
section
open PySem.SeqAt
noncomputable def IS.a:IS→At
 | .i n=>.int n
 | .s x=>.str x
theorem IS.v_a (k:IS):k.v = .at k.a:=by cases k <;> rfl
section
variable {c:Ctx} {m:Lo} {H:Hp} {pos:Pos} {K:Frag}
theorem PairsR.get {h:Heap}:∀ {es:List (IS × V)} {kvs:List (IS × Value)} {i:Nat} {e:IS × V},PairsR h kvs es→es[i]? = some e→∃ v,kvs[i]? = some (e.1,v)∧e.2.rep h v
 | [],_,_,_,_,e=>by simp at e
 | (k,u) :: es,_,i,e,b,q=>by
  obtain ⟨v,r,rfl,hv,hr⟩:=b.cons
  cases i with
  | zero=>simp at q; subst q; exact ⟨v,rfl,hv⟩
  | succ i=>simp at q; obtain ⟨v',h1,h2⟩:=PairsR.get hr q; exact ⟨v',by simpa using h1,h2⟩
theorem fresh_back {H H1:Hp} {s:Shared} {h1:Heap} (F1:Fp c.env.locals H H1 s.heap h1) {b:Addr} (hb:h1.get? b = .none):s.heap.get? b = .none:=by
 cases q:s.heap.get? b with
 | none=>rfl
 | some o=>obtain ⟨o',e⟩:=F1.alive _ _ q; rw [hb] at e; cases e
theorem iter_dict {t:Expr} {d it:Addr} {ep:Nat} {es:List (IS × V)} (ht:isNameOrTuple t = true) (hne:d≠it):Iter c t (.ref it) [it] es.length (fun i=>(es.getD i (.i 0,.none)).1.v) (fun H=>Sees c H d (.dict ep es)) (fun i h=>h.IsKeyIter it d i es.length ep) (fun i _ h=>h.IsKeyIter it d (i + 1) es.length ep) where
 item:=fun i m H s hi R A ok j P k=>by
  obtain ⟨h0,kvs,ha,hd,hp⟩:=dict_get (ok m s R)
  obtain ⟨h1,h2,h3,_⟩:=A it (by simp)
  have hx:es[i]? = some (es.getD i (.i 0,.none)):=by simp [List.getD,hi]
  obtain ⟨v,hv,hrv⟩:=hp.get hx
  obtain ⟨oi,ho,_,hdi⟩:=_root_.id j
  refine wpAny_pyNext_dict_item (by rw [hp.length]; exact j) ha hv fun key h' hk hit' hs'=>?_
  have R':=R.off (h':=h') (tkn s s.toks) ho (fun _ _ _ q=>by rw [hdi] at q; cases q.2) h1 h2 h3 (Heap.SameBut.kp hs')
  rw [hp.length] at hit'
  exact k key h' (tkn s s.toks) R' (one_off (Heap.SameBut.kp hs')) (A.one (let ⟨o,ho,_,hd⟩:=hit'; ⟨o,ho,fun _ _ _ q=>by rw [hd] at q; cases q.2⟩)) hit' (rep_isIS hk)
 go:=fun i v m H s R A j r P k=>by
  obtain ⟨oi,ho,hc,hd⟩:=_root_.id j
  exact letGo_other ht ho hc hd (by decide) (k s.heap (tkn s s.toks) R (fun _ _ _ e=>e) A j r)
 done:=fun m H s R A ok j P k=>by
  obtain ⟨h0,kvs,ha,hd,hp⟩:=dict_get (ok m s R)
  obtain ⟨h1,h2,h3,_⟩:=A it (by simp)
  obtain ⟨oi,ho,_,hdi⟩:=_root_.id j
  refine wpAny_pyNext_dict_end c.hh (by rw [hp.length]; exact j) ha (by rw [← hp.length]; simp) fun h' hs'=>?_
  exact k h' (tkn s s.toks) (R.off (tkn s s.toks) ho (fun _ _ _ q=>by rw [hdi] at q; cases q.2) h1 h2 h3 hs') (one_off hs')
 keep:=fun i h h' j hk=>j.at fun o e=>hk it (by simp) o e
 self:=fun s P j p=>wpAny_pyIter_keyiter j p
theorem k_keys {Q:V→Lo→Hp→Prop} {d:Addr} {ep:Nat} {es:List (IS × V)} (hx:Sees c H d (.dict ep es)) (h:∀ a,Q (.ref a) m ((a,.view "dict_keys" d) :: H)):Cal c (.bi "dict.keys") [.ref d] m H Q:=fun s vf vvs R rf rv=>by
 cases (rf:vf = _)
 obtain ⟨va,rfl,ra⟩:=rv.sole
 cases (ra:va = _)
 obtain ⟨h0,kvs,ha,hd,hp⟩:=dict_get (hx m s R)
 exact .new R (o:=.view "dict_keys" d) (b:=fun a=>.ref a) h fun P k=>call_meetsIn PySem.F.slot_dict_keys hd.typeIs PySem.F.entry_dict_keys (PySem.F.args_dict_keys_1 _) (kdl_meets_keys (mixKind c.prog c.w) d h0) ⟨⟨kvs,hd⟩,k _ _ _ s.toks push_grow (get_size _) ⟨_,Heap.get?_push_size _ rfl,rfl,rfl⟩ rfl⟩
theorem k_items {Q:V→Lo→Hp→Prop} {d:Addr} {ep:Nat} {es:List (IS × V)} (hx:Sees c H d (.dict ep es)) (h:∀ a,Q (.ref a) m ((a,.view "dict_items" d) :: H)):Cal c (.bi "dict.items") [.ref d] m H Q:=fun s vf vvs R rf rv=>by
 cases (rf:vf = _)
 obtain ⟨va,rfl,ra⟩:=rv.sole
 cases (ra:va = _)
 obtain ⟨h0,kvs,ha,hd,hp⟩:=dict_get (hx m s R)
 exact .new R (o:=.view "dict_items" d) (b:=fun a=>.ref a) h fun P k=>call_meetsIn PySem.F.slot_dict_items hd.typeIs PySem.F.entry_dict_items (PySem.F.args_dict_items_1 _) (meets_dict_items (mixKind c.prog c.w) d h0) ⟨⟨kvs,hd⟩,k _ _ _ s.toks push_grow (get_size _) ⟨_,Heap.get?_push_size _ rfl,rfl,rfl⟩ rfl⟩
theorem it_keys {t e:Expr} (ht:isNameOrTuple t = true) {Q:Nat→(Nat→V)→(Hp→Prop)→Lo→Hp→Prop}
  (h:WPe c e m H fun u m1 H1=>∃ a d ep es,u = .ref a∧Sees c H1 a (.view "dict_keys" d)∧Sees c H1 d (.dict ep es)∧Q es.length (fun i=>(es.getD i (.i 0,.none)).1.v) (fun H=>Sees c H d (.dict ep es)) m1 H1):WPit c t e m H Q:=fun s R P k=>by
 refine h s R _ fun u va m1 H1 h1 tk1 R1 F1 r1 q1=>?_
 obtain ⟨a,d,ep,es,rfl,hv,hs,q⟩:=q1
 cases (r1:va = _)
 obtain ⟨h0,kvs,ha,hd,hp⟩:=dict_get (hs m1 _ R1)
 refine kdl_pyIter_keys (hv m1 _ R1) ha ?_
 have hf:=R1.fresh (get_size h1)
 refine k (.ref h1.objs.size) [h1.objs.size] _ _ _ _ _ m1 H1 _ tk1 (iter_dict (d:=d) (ep:=ep) (es:=es) ht (Nat.ne_of_lt ha.lt_size)) (R1.grow tk1 push_grow) (F1.trans R1.hasL (.grow push_grow))
  (fun b hb=>by simp at hb; subst hb; exact ⟨hf.1,hf.2.1,hf.2.2,_,Heap.get?_push_size _ rfl,fun _ _ _ q=>by cases q.2⟩) (fun b hb=>by simp at hb; subst hb; exact fresh_back F1 (get_size h1)) ⟨_,Heap.get?_push_size _ rfl,rfl,by rw [hp.length]; rfl⟩ q
noncomputable def atE (e:IS × At):IS × V:=(e.1,.at e.2)
theorem tup_two {h:Heap} {a:Addr} {k:IS} {u:At} {key v:Value} (ho:h.get? a = some { cls:=.type "tuple",data:=.seq #[key,v] }) (hk:isIS k key = true) (hv:u.rep v):(V.tup .none [k.a,u]).rep h (.ref a):=by
 refine ⟨a,#[key,v],rfl,⟨_,0,ho,rfl,rfl⟩,key,[v],rfl,?_,v,[],rfl,hv,rfl⟩
 have:k.v.rep h key:=rep_isIS hk
 rw [IS.v_a] at this
 exact this
theorem entry_itemiter:entryFor table "dict_itemiterator.__iter__" = some Builtin.«dict_keyiterator.__iter__»:=entryFor_alias (id':="dict_keyiterator.__iter__") (by kernel_rfl) rfl (by decide +kernel) (by kernel_rfl)
theorem iter_items {ts:List Expr} {k1:Nat} {tp:Pos} {d it:Addr} {ep:Nat} {es:List (IS × At)} (hne:d≠it):Iter c (.Tuple ts k1 tp) (.ref it) [it] es.length (fun i=>.tup .none [(es.getD i (.i 0,.none)).1.a,(es.getD i (.i 0,.none)).2]) (fun H=>Sees c H d (.dict ep (es.map atE)))
  (fun i h=>∃ ok ov,IsItemIter h it d i es.length ep ok ov) (fun i v h=>∃ ok ov a,v = .ref a∧IsItemIterOut h it d (i + 1) es.length ep ok ov a) where
 item:=fun i m H s hi R A ok j P k=>by
  obtain ⟨h0,kvs,ha,hd,hp⟩:=dict_get (ok m s R)
  have hlen:kvs.length = es.length:=by rw [hp.length]; simp
  obtain ⟨h1,h2,h3,_⟩:=A it (by simp)
  have hx:(es.map atE)[i]? = some (atE (es.getD i (.i 0,.none))):=by simp [List.getD,hi]
  obtain ⟨v,hv,hrv⟩:=hp.get hx
  obtain ⟨o1,o2,j⟩:=j
  refine wpAny_pyNext_items_item (ok:=o1) (ov:=o2) (by rw [hlen]; exact j) ha hv fun key h' hk hit' ht' hsz hs'=>?_
  rw [hlen] at hit'
  have R':=R.off (h':=h') (tkn s s.toks) j (fun _ _ _ q=>by cases q.2) h1 h2 h3 hs'
  exact k _ h' (tkn s s.toks) R' (one_off hs') (A.one ⟨_,hit',fun _ _ _ q=>by cases q.2⟩) ⟨_,_,_,rfl,hit'⟩ (tup_two ht' hk hrv)
 go:=fun i v m H s R A j r P k=>by
  obtain ⟨o1,o2,a,rfl,j⟩:=j
  obtain ⟨h1,h2,h3,_⟩:=A it (by simp)
  refine wpAny_letOwnedTupleGo_items j fun h' hit' hs'=>?_
  have R':=R.off (h':=h') (tkn s s.toks) j (fun _ _ _ q=>by cases q.2) h1 h2 h3 (Heap.SameBut.kp hs')
  exact k h' (tkn s s.toks) R' (one_off (Heap.SameBut.kp hs')) (A.one ⟨_,hit',fun _ _ _ q=>by cases q.2⟩) ⟨_,_,hit'⟩ (lift_off A (one_off (Heap.SameBut.kp hs')) r)
 done:=fun m H s R A ok j P k=>by
  obtain ⟨h0,kvs,ha,hd,hp⟩:=dict_get (ok m s R)
  have hlen:kvs.length = es.length:=by rw [hp.length]; simp
  obtain ⟨h1,h2,h3,_⟩:=A it (by simp)
  obtain ⟨o1,o2,j⟩:=j
  refine wpAny_pyNext_items_end c.hh (ok:=o1) (ov:=o2) (by rw [hlen]; exact j) ha (by rw [← hlen]; simp) fun h' hs'=>?_
  exact k h' (tkn s s.toks) (R.off (tkn s s.toks) j (fun _ _ _ q=>by cases q.2) h1 h2 h3 hs') (one_off hs')
 keep:=fun i h h' j hk=>let ⟨a,b,j⟩:=j; ⟨a,b,hk it (by simp) _ j⟩
 self:=fun s P j p=>by
  obtain ⟨o1,o2,j⟩:=j
  have hT:s.TypeIs (.ref it) "dict_itemiterator":=⟨_,j,rfl⟩
  refine wpAny_pyIter_slot hT PySem.F.slot_dict_itemiterator_iter (wpAny_call_entry PySem.F.slot_dict_itemiterator_iter hT entry_itemiter ?_ (PySem.F.args_dict_itemiterator_iter_1 _))
  show wpAny _ _ (ret (.ref it)) _ _ s
  exact wpAny_pure ⟨_,rfl,"dict_itemiterator",_,hT,PySem.F.slot_dict_itemiterator_next.lookup,p⟩
theorem it_items {ts:List Expr} {k1:Nat} {tp:Pos} {e:Expr} {Q:Nat→(Nat→V)→(Hp→Prop)→Lo→Hp→Prop}
  (h:WPe c e m H fun u m1 H1=>∃ a d ep es,u = .ref a∧Sees c H1 a (.view "dict_items" d)∧Sees c H1 d (.dict ep (List.map atE es))∧Q es.length (fun i=>.tup .none [(es.getD i (.i 0,.none)).1.a,(es.getD i (.i 0,.none)).2]) (fun H=>Sees c H d (.dict ep (es.map atE))) m1 H1):WPit c (.Tuple ts k1 tp) e m H Q:=fun s R P k=>by
 refine h s R _ fun u va m1 H1 h1 tk1 R1 F1 r1 q1=>?_
 obtain ⟨a,d,ep,es,rfl,hv,hs,q⟩:=q1
 cases (r1:va = _)
 obtain ⟨h0,kvs,ha,hd,hp⟩:=dict_get (hs m1 _ R1)
 refine wpAny_pyIter_items (hv m1 _ R1) ha ?_
 have hf:=R1.fresh (get_size h1)
 refine k (.ref h1.objs.size) [h1.objs.size] _ _ _ _ _ m1 H1 _ tk1 (iter_items (d:=d) (ep:=ep) (es:=es) (Nat.ne_of_lt ha.lt_size)) (R1.grow tk1 push_grow) (F1.trans R1.hasL (.grow push_grow))
  (fun b hb=>by simp at hb; subst hb; exact ⟨hf.1,hf.2.1,hf.2.2,_,Heap.get?_push_size _ rfl,fun _ _ _ q=>by cases q.2⟩) (fun b hb=>by simp at hb; subst hb; exact fresh_back F1 (get_size h1)) ⟨.none,.none,by rw [hp.length,List.length_map]; exact Heap.get?_push_size _ rfl⟩ q
theorem iter_enum {ts:List Expr} {k1:Nat} {tp:Pos} {a e it:Addr} {xs:List At} (hae:a≠e) (hai:a≠it) (hei:e≠it):Iter c (.Tuple ts k1 tp) (.ref e) [e,it] xs.length (fun i=>.tup .none [.int i,xs.getD i .none]) (fun H=>Sees c H a (.list (xs.map .at)))
  (fun i h=>(∃ old,IsEnum h e it i old)∧h.IsListIter it a i) (fun i v h=>∃ x b,v = .ref b∧IsEnumOut h e it ((i:Int) + 1) x b∧h.IsListIter it a (i + 1)) where
 item:=fun i m H s hi R A ok j P k=>by
  obtain ⟨items,n,hl,hr⟩:=O.list_get (ok m s R)
  obtain ⟨h1,h2,h3,_⟩:=A e (by simp)
  obtain ⟨g1,g2,g3,_⟩:=A it (by simp)
  have hx:(xs.map V.at)[i]? = some (.at (xs.getD i .none)):=by simp [List.getD,hi]
  obtain ⟨v,hv,hrv⟩:=hr.get hx
  obtain ⟨⟨old,j1⟩,j2⟩:=j
  obtain ⟨oi,hoi,hci,hdi⟩:=_root_.id j2
  refine wpAny_pyNext_enum_item j1 j2 (IsL.isList hl) (by rw [← Array.getElem?_toList]; exact hv) hei fun h' he' hit' ht' hsz hs'=>?_
  have A2:Aside c H s.heap [e,it]:=A
  have off:∀ b o,b∉[e,it]→s.heap.get? b = some o→h'.get? b = some o:=fun b o hb q=>hs' b o (fun q=>hb (by simp [q])) (fun q=>hb (by simp [q])) q
  have R':Rel c ⟨m,H⟩ (sw s h' (tkn s (s.toks + 1))):=by
   -- by two steps aside
   have lift:∀ u v,V.rep s.heap u v→V.rep h' u v:=fun u v r=>lift_off A2 off r
   exact R.off2 (tkn s (s.toks + 1)) A2 off
  obtain ⟨o',ho',hc',hd'⟩:=_root_.id hit'
  refine k _ h' (tkn s (s.toks + 1)) R' off (fun b hb=>?_) ⟨_,_,rfl,he',hit'⟩ ?_
  ·simp at hb
   rcases hb with rfl | rfl
   ·exact ⟨h1,h2,h3,_,he',fun _ _ _ q=>by cases q.2⟩
   ·exact ⟨g1,g2,g3,o',ho',fun _ _ _ q=>by rw [hd'] at q; cases q.2⟩
  ·exact ⟨_,_,rfl,⟨_,0,ht',rfl,rfl⟩,_,[v],rfl,⟨_,rfl⟩,v,[],rfl,hrv,rfl⟩
 go:=fun i v m H s R A j r P k=>by
  obtain ⟨x,b,rfl,j1,j2⟩:=j
  obtain ⟨h1,h2,h3,_⟩:=A e (by simp)
  obtain ⟨g1,g2,g3,_⟩:=A it (by simp)
  refine wpAny_letOwnedTupleGo_enum j1 fun h' he' hs'=>?_
  have off:∀ b o,b∉[e,it]→s.heap.get? b = some o→h'.get? b = some o:=fun b o hb q=>(hs'.2 b (fun q=>hb (by simp [q]))).trans q
  have hit':=j2.at (h':=h') fun o q=>(hs'.2 it (Ne.symm hei)).trans q
  obtain ⟨o',ho',hc',hd'⟩:=_root_.id hit'
  refine k h' (tkn s s.toks) (R.off2 (tkn s s.toks) A off) off (fun b hb=>?_) ⟨⟨x,by simpa using he'⟩,hit'⟩ (lift_off A off r)
  simp at hb
  rcases hb with rfl | rfl
  ·exact ⟨h1,h2,h3,_,he',fun _ _ _ q=>by cases q.2⟩
  ·exact ⟨g1,g2,g3,o',ho',fun _ _ _ q=>by rw [hd'] at q; cases q.2⟩
 done:=fun m H s R A ok j P k=>by
  obtain ⟨items,n,hl,hr⟩:=O.list_get (ok m s R)
  obtain ⟨⟨old,j1⟩,j2⟩:=j
  refine wpAny_pyNext_enum_end c.hh j1 j2 (IsL.isList hl) (by rw [← Array.getElem?_toList]; simp [hr.length]) fun h' hs'=>?_
  have off:∀ b o,b∉[e,it]→s.heap.get? b = some o→h'.get? b = some o:=fun b o hb q=>hs' b o (fun q=>hb (by simp [q])) q
  exact k h' (tkn s s.toks) (R.off2 (tkn s s.toks) A off) off
 keep:=fun i h h' j hk=>⟨let ⟨o,j⟩:=j.1; ⟨o,hk e (by simp) _ j⟩,j.2.at fun o q=>hk it (by simp) o q⟩
 self:=fun s P j p=>let ⟨o,j⟩:=j.1; wpAny_pyIter_enum j p
theorem it_enum {ts:List Expr} {k1:Nat} {tp p1 p2:Pos} {arg:Expr} {Q:Nat→(Nat→V)→(Hp→Prop)→Lo→Hp→Prop} (hg:Glob c "enumerate" (.ty "enumerate"))
  (h:WPe c arg m H fun u m1 H1=>∃ a xs,u = .ref a∧Sees c H1 a (.list (List.map .at xs))∧Q xs.length (fun i=>.tup .none [.int i,xs.getD i .none]) (fun H=>Sees c H a (.list (xs.map .at))) m1 H1)
  (he:autoParam (starEach [arg] c.env = [(false,eval arg c.env)]) auRfl):WPit c (.Tuple ts k1 tp) (.Call (.Name "enumerate" p1) [arg] [] p2) m H Q:=fun s R P k=>by
 refine Call_Name1 (Name_function_global c.hk hg.1 (hg.2 s.heap R.keep s _ rfl fun vf hvf=>?_) (by decide)) he
 cases (hvf:vf = _)
 refine PySem.callWith_type rfl (PySem.Calls.evalArgs_plain (PySem.Calls.spliced_cons (h s R _ fun u va m1 H1 h1 tk1 R1 F1 r1 q1=>PySem.Calls.spliced_nil ?_)))
 obtain ⟨a,xs,rfl,hs,q⟩:=q1
 cases (r1:va = _)
 obtain ⟨items,n,hl,hr⟩:=O.list_get (hs m1 _ R1)
 refine call_enumerate_list (IsL.isList hl) fun h' he' hit' hsz hg'=>?_
 refine wpAny_pyIter_enum he' ?_
 have hal:a < h1.objs.size:=Heap.lt_size hl
 have f1:=R1.fresh (get_size h1)
 have f2:=R1.fresh (get_ge (h:=h1) (a:=h1.objs.size + 1) (Nat.le_succ _))
 obtain ⟨o',ho',hc',hd'⟩:=_root_.id hit'
 refine k (.ref (h1.objs.size + 1)) [h1.objs.size + 1,h1.objs.size] _ _ _ _ _ m1 H1 h' tk1 (iter_enum (a:=a) (xs:=xs) (Nat.ne_of_lt (Nat.lt_succ_of_lt hal)) (Nat.ne_of_lt hal) (Nat.succ_ne_self _)) (R1.grow tk1 hg') (F1.trans R1.hasL (.grow hg'))
  (fun b hb=>?_) (fun b hb=>?_) ⟨⟨_,he'⟩,hit'⟩ q
 ·simp at hb
  rcases hb with rfl | rfl
  ·exact ⟨f2.1,f2.2.1,f2.2.2,_,he',fun _ _ _ q=>by cases q.2⟩
  ·exact ⟨f1.1,f1.2.1,f1.2.2,o',ho',fun _ _ _ q=>by rw [hd'] at q; cases q.2⟩
 ·simp at hb
  rcases hb with rfl | rfl
  ·exact fresh_back F1 (get_ge (Nat.le_succ _))
  ·exact fresh_back F1 (get_size h1)
end
end
section
open PySem.SeqAt
theorem below_go {xs:Array Nat} {j:Nat} (hs:∀ i k,i < k→k < xs.size→xs.getD i j < xs.getD k j):∀ (fuel lo hi:Nat),lo≤hi→hi≤xs.size→hi - lo≤fuel →
  (∀ i,i < lo→xs.getD i j < j)→(∀ i,hi≤i→i < xs.size→j≤xs.getD i j) →
  SetTable.below.go xs j fuel lo hi≤xs.size∧(∀ i,i < SetTable.below.go xs j fuel lo hi→xs.getD i j < j)∧∀ i,SetTable.below.go xs j fuel lo hi≤i→i < xs.size→j≤xs.getD i j
 | 0,lo,hi,h1,h2,h3,h4,h5=>by
  have:lo = hi:=by exact as2 2 (.l Z0 Z1) (.l (.s Z1 Z0) (.n 0)) (.e Z0 Z1) [_,_] h1 h3
  subst this
  exact ⟨h2,h4,h5⟩
 | fuel + 1,lo,hi,h1,h2,h3,h4,h5=>by
  by_cases q:lo < hi
  ·by_cases r:xs.getD ((lo + hi) / 2) j < j
   ·rw [show SetTable.below.go xs j (fuel + 1) lo hi = SetTable.below.go xs j fuel ((lo + hi) / 2 + 1) hi by
     show (if lo < hi then (if xs.getD ((lo + hi) / 2) j < j then SetTable.below.go xs j fuel ((lo + hi) / 2 + 1) hi else _) else _) = _
     rw [if_pos q,if_pos r]]
    refine below_go hs fuel _ _ (by exact as2 3 (.t Z0 Z1) (.an (.l (.m 2 Z2) (.a Z0 Z1)) (.t (.a Z0 Z1) (.a (.m 2 Z2) (.n 2)))) (.l (.a Z2 N1) Z1) [_,_,_] q (half_le _)) h2 (by exact as2 4 (.l (.s Z0 Z1) (.a Z2 N1)) (.an (.l (.m 2 Z3) (.a Z1 Z0)) (.t (.a Z1 Z0) (.a (.m 2 Z3) (.n 2)))) (.l (.s Z0 (.a Z3 N1)) Z2) [_,_,_,_] h3 (half_le _)) (fun i hi'=>?_) h5
    by_cases e:i = (lo + hi) / 2
    ·rw [e]; exact r
    ·exact Nat.lt_trans (hs i _ (by exact as2 2 (.t Z0 (.a Z1 N1)) (.no (.e Z0 Z1)) (.t Z0 Z1) [_,_] hi' e) (by exact as3 4 (.l Z0 Z1) (.t Z2 Z0) (.an (.l (.m 2 Z3) (.a Z2 Z0)) (.t (.a Z2 Z0) (.a (.m 2 Z3) (.n 2)))) (.t Z3 Z1) [_,_,_,_] h2 q (half_le _))) r
   ·rw [show SetTable.below.go xs j (fuel + 1) lo hi = SetTable.below.go xs j fuel lo ((lo + hi) / 2) by
     show (if lo < hi then (if xs.getD ((lo + hi) / 2) j < j then _ else SetTable.below.go xs j fuel lo ((lo + hi) / 2)) else _) = _
     rw [if_pos q,if_neg r]]
    refine below_go hs fuel _ _ (by exact as2 3 (.t Z0 Z1) (.an (.l (.m 2 Z2) (.a Z0 Z1)) (.t (.a Z0 Z1) (.a (.m 2 Z2) (.n 2)))) (.l Z0 Z2) [_,_,_] q (half_le _)) (by exact as3 4 (.l Z0 Z1) (.t Z2 Z0) (.an (.l (.m 2 Z3) (.a Z2 Z0)) (.t (.a Z2 Z0) (.a (.m 2 Z3) (.n 2)))) (.l Z3 Z1) [_,_,_,_] h2 q (half_le _)) (by exact as2 4 (.l (.s Z0 Z1) (.a Z2 N1)) (.an (.l (.m 2 Z3) (.a Z1 Z0)) (.t (.a Z1 Z0) (.a (.m 2 Z3) (.n 2)))) (.l (.s Z3 Z1) Z2) [_,_,_,_] h3 (half_le _)) h4 (fun i hi' hn=>?_)
    by_cases e:i = (lo + hi) / 2
    ·rw [e]; exact as1 2 (.no (.t Z0 Z1)) (.l Z1 Z0) [_,_] r
    ·exact Nat.le_trans (Nat.le_of_not_lt r) (Nat.le_of_lt (hs _ i (by exact as2 2 (.l Z0 Z1) (.no (.e Z1 Z0)) (.t Z0 Z1) [_,_] hi' e) hn))
  ·rw [show SetTable.below.go xs j (fuel + 1) lo hi = lo by
    show (if lo < hi then _ else lo) = _
    rw [if_neg q]]
   have:lo = hi:=by exact as2 2 (.l Z0 Z1) (.no (.t Z0 Z1)) (.e Z0 Z1) [_,_] h1 q
   subst this
   exact ⟨h2,h4,h5⟩
theorem rises {xs:Array Nat} (h:xs.toList.Pairwise (· < ·)) (j:Nat):∀ i k,i < k→k < xs.size→xs.getD i j < xs.getD k j:=fun i k hik hk=>by
 have:=List.pairwise_iff_getElem.mp h i k (by simp; exact as2 3 (.t Z0 Z1) (.t Z1 Z2) (.t Z0 Z2) [_,_,_] hik hk) (by simpa using hk) hik
 simp [Array.getD,hk,Nat.lt_trans hik hk] at this ⊢
 exact this
theorem below_spec {xs:Array Nat} (h:xs.toList.Pairwise (· < ·)) (j:Nat):SetTable.below xs j≤xs.size∧(∀ i,i < SetTable.below xs j→xs.getD i j < j)∧∀ i,SetTable.below xs j≤i→i < xs.size→j≤xs.getD i j:=
 below_go (rises h j) xs.size 0 xs.size (Nat.zero_le _) (Nat.le_refl _) (Nat.le_refl _) (fun i hi=>absurd hi (Nat.not_lt_zero _)) (fun i h1 h2=>absurd h2 (by exact as1 2 (.l Z0 Z1) (.no (.t Z1 Z0)) [_,_] h1))
theorem insert_rises {xs:Array Nat} (h:xs.toList.Pairwise (· < ·)) {j:Nat} (hj:xs[SetTable.below xs j]?≠some j):(SetTable.insertAt xs (SetTable.below xs j) j).toList.Pairwise (· < ·):=by
 obtain ⟨h1,h2,h3⟩:=below_spec h j
 rw [SetTable.toList_insertAt]
 have ht:=List.take_append_drop (SetTable.below xs j) xs.toList
 rw [← ht,List.pairwise_append] at h
 obtain ⟨p1,p2,p3⟩:=h
 have lt:∀ a∈xs.toList.take (SetTable.below xs j),a < j:=fun a ha=>by
  obtain ⟨i,hi,e⟩:=List.mem_iff_getElem.mp ha
  have hi1:i < SetTable.below xs j:=by simp at hi; exact as1 3 (.t Z0 (.mn Z1 Z2)) (.t Z0 Z1) [_,_,_] hi
  have hi2:i < xs.size:=by exact as2 3 (.l Z0 Z1) (.t Z2 Z0) (.t Z2 Z1) [_,_,_] h1 hi1
  have:=h2 i hi1
  rw [List.getElem_take] at e
  simp [Array.getD,hi2] at this
  simp at e
  exact as2 3 (.e Z0 Z1) (.t Z0 Z2) (.t Z1 Z2) [_,_,_] e this
 have gt:∀ a∈xs.toList.drop (SetTable.below xs j),j < a:=fun a ha=>by
  obtain ⟨i,hi,e⟩:=List.mem_iff_getElem.mp ha
  simp at hi
  rw [List.getElem_drop] at e
  have hb:SetTable.below xs j + i < xs.size:=by exact as1 3 (.t Z0 (.s Z1 Z2)) (.t (.a Z2 Z0) Z1) [_,_,_] hi
  have:=h3 (SetTable.below xs j + i) (by exact as0 2 (.l Z0 (.a Z0 Z1)) [_,_]) hb
  simp [Array.getD,hb] at this
  simp at e
  rcases Nat.lt_or_ge j a with q | q
  ·exact q
  ·exfalso
   have ej:a = j:=by exact as3 3 (.e Z0 Z1) (.l Z2 Z0) (.l Z1 Z2) (.e Z1 Z2) [_,_,_] e this q
   subst ej
   cases i with
   | zero=>exact hj (by simp at e hb; simp [hb,e])
   | succ i=>
    have hb0:SetTable.below xs a < xs.size:=by exact as1 3 (.t (.a Z0 (.a Z1 N1)) Z2) (.t Z0 Z2) [_,_,_] hb
    have l0:=h3 (SetTable.below xs a) (Nat.le_refl _) hb0
    have l1:xs[SetTable.below xs a] < xs[SetTable.below xs a + (i + 1)]:=by
     have:=List.pairwise_iff_getElem.mp (ht ▸ (List.pairwise_append.mpr ⟨p1,p2,p3⟩)) (SetTable.below xs a) (SetTable.below xs a + (i + 1)) (by simpa using hb0) (by simpa using hb) (by exact as0 2 (.t Z0 (.a Z0 (.a Z1 N1))) [_,_])
     simpa using this
    simp [Array.getD,hb0] at l0
    exact as3 3 (.e Z0 Z1) (.t Z2 Z0) (.l Z1 Z2) .f [_,_,_] e l1 l0
 rw [List.pairwise_append]
 refine ⟨p1,?_,fun a ha b hb=>?_⟩
 ·rw [List.pairwise_cons]; exact ⟨gt,p2⟩
 ·rcases List.mem_cons.mp hb with rfl | hb
  ·exact lt a ha
  ·exact Nat.lt_trans (lt a ha) (gt b hb)
theorem has_none (j:Nat):SetTable.has #[] j = false:=by unfold SetTable.has; simp
theorem probe_free {t:SetTable} (hd:t.dummies = #[]) {f:Nat→Int} {h:Int}:∀ (fuel:Nat) (p:SetTable.Probe) {j:Nat} {d:Option Nat},p.dummy = .none→SetTable.probe.go t f h fuel p = some (.empty j d)→t.slot j = .empty∧d = .none
 | 0,p,j,d,_,e=>(nomatch e)
 | fuel + 1,p,j,d,hp,e=>by
  have hadv:∀ p:SetTable.Probe,p.dummy = .none→(t.advance p).dummy = .none:=fun p hp=>by unfold SetTable.advance; split <;> exact hp
  cases q:t.slot p.j with
  | empty=>
   have e2:some (SetTable.Met.empty p.j p.dummy) = some (.empty j d):=by
    rw [← e]
    show _ = (match t.slot p.j with | .empty=>some (SetTable.Met.empty p.j p.dummy) | .dummy=>_ | .live i=>if (f i == h) = true then _ else _)
    rw [q]
   injection e2 with e
   injection e with e1 e2
   subst e1
   exact ⟨q,by rw [← e2,hp]⟩
  | dummy=>
   exfalso
   unfold SetTable.slot at q
   dsimp only at q
   rw [hd,has_none] at q
   split at q <;> simp at q
  | live i=>
   have e2:(if (f i == h) = true then some (SetTable.Met.candidate p.j i (t.advance p)) else SetTable.probe.go t f h fuel (t.advance p)) = some (.empty j d):=by
    rw [← e]
    show _ = (match t.slot p.j with | .empty=>_ | .dummy=>_ | .live i=>if (f i == h) = true then some (SetTable.Met.candidate p.j i (t.advance p)) else SetTable.probe.go t f h fuel (t.advance p))
    rw [q]
   split at e2
   ·cases e2
   ·exact probe_free hd fuel _ (hadv p hp) e2
theorem free_spec {t:SetTable} (hd:t.dummies = #[]) {h:Int} {j:Nat} {b:Bool} (e:t.freeSlot h = some (j,b)):t.place[SetTable.below t.place j]?≠some j:=by
 unfold SetTable.freeSlot at e
 generalize q:t.probe _ _ _ = o at e
 cases o with
 | none=>cases e
 | some r=>
  cases r with
  | empty j' d=>
   obtain ⟨h1,rfl⟩:=probe_free hd _ _ rfl q
   have e2:some (j',_) = some (j,b):=e
   injection e2 with e2
   injection e2 with e3 e4
   subst e3
   unfold SetTable.slot at h1
   dsimp only at h1
   intro hc
   rw [hc] at h1
   simp at h1
  | _=>cases e
theorem tame_standIn (t:SetTable) (n:Nat):Tame (t.standIn n)∧(t.standIn n).led = t.led:=by
 refine ⟨⟨?_,rfl⟩,rfl⟩
 show (Array.range n).toList.Pairwise _
 rw [Array.toList_range]
 exact List.pairwise_lt_range
theorem tame_put {t:SetTable} (T:Tame t) {j:Nat} (hj:t.place[SetTable.below t.place j]?≠some j):Tame (t.put j).1∧(t.put j).1.led = t.led:=by
 refine ⟨⟨insert_rises T.1 hj,?_⟩,rfl⟩
 show (if SetTable.has t.dummies j = true then _ else t.dummies) = #[]
 rw [T.2,has_none]; rfl
theorem tame_layNew {t:SetTable} (T:Tame t) (es:Array (Int × Value)) (h:Int) (x:Value):Tame (layNew t es h x).2.1∧(layNew t es h x).2.1.led = t.led:=by
 unfold layNew
 generalize q:t.freeSlot h = o
 cases o with
 | none=>exact tame_standIn _ _
 | some p=>
  obtain ⟨slot,wd⟩:=p
  have:=tame_put T (free_spec T.2 q)
  dsimp only
  unfold SetTable.orStandIn
  split
  ·exact this
  ·refine ⟨(tame_standIn _ _).1,?_⟩
   rw [(tame_standIn _ _).2]; exact this.2
theorem tame_laid {mask finger moves:Nat} {led plain:Bool} {hs:Array Int} {t:SetTable} {o:Array Nat} (e:SetTable.laid mask finger moves led plain hs = some (t,o)):Tame t∧t.led = led:=by
 unfold SetTable.laid at e
 simp only [Option.bind_eq_bind,Option.bind_eq_some_iff,Option.pure_def,Option.some.injEq,Prod.mk.injEq] at e
 obtain ⟨ow,_,e1,_⟩:=e
 subst e1
 refine ⟨⟨?_,rfl⟩,rfl⟩
 dsimp only
 rw [List.pairwise_map,List.pairwise_filterMap]
 refine List.pairwise_lt_range.imp ?_
 intro a b hab x hx y hy
 simp at hx hy
 obtain ⟨u,_,rfl⟩:=hx
 obtain ⟨v,_,rfl⟩:=hy
 exact hab
theorem tame_relay {t:SetTable} (es:Array (Int × Value)) (wanted:Nat):Tame (relayAll t es wanted).2.1∧(relayAll t es wanted).2.1.led = t.led:=by
 unfold relayAll
 generalize q:t.relaid _ _ = o
 cases o with
 | none=>exact tame_standIn _ _
 | some p=>
  obtain ⟨t',order⟩:=p
  dsimp only
  split
  ·exact tame_laid q
  ·exact tame_standIn _ _
end
section
open PySem.SeqAt
noncomputable abbrev Raw:=Array (Int × Value) × Nat × SetTable
noncomputable def setPut (ks:List IS) (k:IS):List IS:=if k∈ks then ks else ks ++ [k]
noncomputable def RawAt (h:Heap) (a:Addr) (z:Raw):Prop:=∃ o,h.get? a = some o∧o.ExactSet∧o.data = .set z.1 z.2.1 z.2.2
section
variable {prog:Program} {w:World} {A:Around} {E:Value→Shared→Prop} {s:Shared}
theorem SetInv.lay {es es1:Array (Int × Value)} {ep ep':Nat} {t t2:SetTable} {ks:List IS} {k:IS} {x:Value} (I:SetInv prog w (es,ep,t) ks) (hk:k∉ks) (hkey:(mixKind prog w).is k x = true) (hsc:x.scannable = true)
  (hroom:ks.length + 1 < scanBound) (T:Tame t2) (hl:t2.led = t.led) (hf:t2.fits es1.size = true) (hp:List.Perm es1.toList (es.toList ++ [((mixKind prog w).hash k,x)])):SetInv prog w (es1,ep',t2) (ks ++ [k]):=by
 have hsz:es1.size = ks.length + 1:=by rw [← Array.length_toList,hp.length_eq,List.length_append,Array.length_toList]; have:=I.size; simp at this ⊢; exact as1 2 (.e Z0 Z1) (.e Z0 Z1) [_,_] this
 refine ⟨(I.el.push hkey hsc).perm hp,fun k'=>?_,by simpa [hsz] using hroom,hf,by simpa using hsz,?_,T,by rw [hl]; exact I.led⟩
 ·have:=mem_push_iff (S:=fun k=>decide (k∈ks)) hkey (fun k'=>by rw [decide_eq_true_eq]; exact I.mem k') hp k'
  simp only [← this,List.mem_append,List.mem_singleton,Bool.or_eq_true,decide_eq_true_eq]
 ·rw [List.nodup_append]; exact ⟨I.nd,by simp,fun a ha b hb=>by simp at hb; subst hb; intro e; exact hk (e ▸ ha)⟩
theorem SetInv.perm {es es2:Array (Int × Value)} {ep ep':Nat} {t t2:SetTable} {ks:List IS} (I:SetInv prog w (es,ep,t) ks) (T:Tame t2) (hl:t2.led = t.led) (hf:t2.fits es2.size = true) (hp:List.Perm es2.toList es.toList):SetInv prog w (es2,ep',t2) ks:=by
 have hsz:es2.size = es.size:=by rw [← Array.length_toList,hp.length_eq,Array.length_toList]
 refine ⟨I.el.perm hp,fun k'=>(I.mem k').trans ⟨fun ⟨e,he,q⟩=>⟨e,hp.mem_iff.mpr he,q⟩,fun ⟨e,he,q⟩=>⟨e,hp.mem_iff.mp he,q⟩⟩,by show es2.size < _; rw [hsz]; exact I.lt,hf,by show es2.size = _; rw [hsz]; exact I.size,I.nd,T,by rw [hl]; exact I.led⟩
theorem RawAt.put {h:Heap} {a:Addr} {z:Raw} (r:RawAt h a z) (es':Array (Int × Value)) (t':SetTable):RawAt (h.update a (Obj.putSet es' t')) a (es',z.2.1 + 1,t'):=by
 obtain ⟨o,ho,hex,hd⟩:=r
 have hg:(h.update a (Obj.putSet es' t')).get? a = some { o with data:=.set es' (z.2.1 + 1) t' }:=by
  have:=Heap.get?_update_self (Obj.putSet es' t') ho (by rw [putSet_of es' t' hd]; rfl)
  rw [putSet_of es' t' hd] at this; exact this
 exact ⟨_,hg,hex,rfl⟩
theorem RawAt.store {a:Addr} {z:Raw} {es':Array (Int × Value)} {t':SetTable} {Q:Unit→Shared→Prop} (r:RawAt s.heap a z) (hb:es'.size < scanBound) (h:Q () { s with heap:=s.heap.update a (Obj.putSet es' t') }):wpAny (model prog w) A (storeSet a es' t') Q E s:=by
 obtain ⟨o,ho,hex,hd⟩:=r
 exact wpAny_storeSet_of ho hd h (fits_of_scanBound hb)
theorem add_tail {g:Bool→Sem Unit} (hg:∀ (b:Bool) (s₁:Shared) (Q':Unit→Shared→Prop),Q' () s₁→wpAny (model prog w) A (g b) Q' E s₁)
  {a:Addr} {z:Raw} {ks:List IS} (r:RawAt s.heap a z) {es1:Array (Int × Value)} {t2:SetTable} (I:SetInv prog w (es1,z.2.1 + 1,t2) ks) {wasDummy:Bool} {R:Option Bool→Shared→Prop}
  (h:∀ h' z',Heap.SameBut a s.heap h'→RawAt h' a z'→SetInv prog w z' ks→R (some true) { s with heap:=h' }) :
  wpAny (model prog w) A (do
    storeSet a es1 t2
    if (!wasDummy && t2.tooFull) = true then do
      g (relayAll t2 es1 (SetTable.grown es1.size)).2.2
      storeSet a (relayAll t2 es1 (SetTable.grown es1.size)).1 (relayAll t2 es1 (SetTable.grown es1.size)).2.1
      pure (some true)
     else pure (some true)) R E s:=by
 refine wpAny_bind (r.store I.lt ?_)
 have r1:=r.put es1 t2
 have hsb1:=Heap.SameBut.update s.heap a (Obj.putSet es1 t2)
 split
 ·have hp:=relayAll_perm t2 es1 (SetTable.grown es1.size)
  have hf:=relayAll_fits t2 es1 (SetTable.grown es1.size)
  have ht:=tame_relay (t:=t2) es1 (SetTable.grown es1.size)
  generalize hRl:relayAll t2 es1 (SetTable.grown es1.size) = Rl at hp hf ht ⊢
  obtain ⟨es2,t3,gave⟩:=Rl
  dsimp only at hp hf ht ⊢
  have I2:SetInv prog w (es2,z.2.1 + 1 + 1,t3) ks:=I.perm ht.1 ht.2 hf hp
  refine wpAny_bind (hg _ _ _ ?_)
  refine wpAny_bind (RawAt.store (s:={ s with heap:=s.heap.update a (Obj.putSet es1 t2) }) r1 I2.lt ?_)
  exact wpAny_pure (h _ _ (hsb1.trans (Heap.SameBut.update _ a _)) (r1.put es2 t3) I2)
 ·exact wpAny_pure (h _ _ hsb1 r1 I)
theorem set_addHashed {a:Addr} {z:Raw} {ks:List IS} {k:IS} {x:Value} {Q:Bool→Shared→Prop} (hkey:(mixKind prog w).is k x = true) (hsc:x.scannable = true) (r:RawAt s.heap a z) (I:SetInv prog w z ks) (hroom:ks.length + 1 < scanBound)
  (h:∀ h' z' b,Heap.SameBut a s.heap h'→RawAt h' a z'→SetInv prog w z' (setPut ks k)→Q b { s with heap:=h' }):wpAny (model prog w) A (setAddHashed a x ((mixKind prog w).hash k)) Q E s:=by
 obtain ⟨es,ep,t⟩:=z
 obtain ⟨o,ho,hex,hd⟩:=_root_.id r
 dsimp only at hd
 unfold setAddHashed setAddHashedIn
 refine wpAny_holding (wpAny_bind (wpAny_setState_of ho hd I.fits ?_))
 dsimp only
 rw [byScan_of hsc I.lt I.el]
 simp only [↓reduceIte]
 unfold setAddByScan
 refine wpAny_bind ?_
 refine wpAny_bind (wpAny_rule ?_)
 refine wpAny_bind (wpAny_setScan_of hkey ho hd I.fits I.el ?_)
 cases hr:List.findIdx? (fun e=>(mixKind prog w).is k e.2) es.toList with
 | some j=>
  dsimp only
  obtain ⟨hj,hpj,_⟩:=List.findIdx?_eq_some_iff_getElem.mp hr
  have hk:k∈ks:=(I.mem k).mpr ⟨es.toList[j],List.getElem_mem hj,hpj⟩
  exact wpAny_pure (wpAny_pure (h s.heap (es,ep,t) _ (Heap.SameBut.refl a s.heap) r (by unfold setPut; rw [if_pos hk]; exact I)))
 | none=>
  dsimp only
  have hk:k∉ks:=fun hk=>by
   obtain ⟨e,he,hp⟩:=(I.mem k).mp hk
   have:=List.findIdx?_eq_none_iff.mp hr e he
   rw [hp] at this; cases this
  have hput:setPut ks k = ks ++ [k]:=if_neg hk
  have hgw:∀ (b:Bool) {s₁:Shared} {Q':Unit→Shared→Prop},Q' () s₁→wpAny (model prog w) A (match b with | true=>rule "set.scan.the-table-gave-way" | false=>pure ()) Q' E s₁:=
   fun b s₁ Q' hq=>by cases b <;> first | exact wpAny_pure hq | exact wpAny_rule hq
  have hperm:=layNew_perm t es ((mixKind prog w).hash k) x
  have hfits:=layNew_fits t es ((mixKind prog w).hash k) x
  have ht:=tame_layNew I.tame es ((mixKind prog w).hash k) x
  generalize hL:layNew t es ((mixKind prog w).hash k) x = L at hperm hfits ht ⊢
  obtain ⟨es1,t1,wasDummy,gave⟩:=L
  dsimp only at hperm hfits ht ⊢
  rw [Array.toList_push] at hperm
  refine wpAny_bind (hgw _ ?_)
  have I1:∀ t2:SetTable,Tame t2→t2.led = t1.led→t2.fits es1.size = true→SetInv prog w (es1,ep + 1,t2) (ks ++ [k]):=fun t2 T e f=>I.lay hk hkey hsc hroom T (e.trans ht.2) f hperm
  have fin:∀ h' z',Heap.SameBut a s.heap h'→RawAt h' a z'→SetInv prog w z' (ks ++ [k])→∀ b,Q b { s with heap:=h' }:=fun h' z' h1 h2 h3 b=>h h' z' b h1 h2 (by rw [hput]; exact h3)
  split
  ·refine wpAny_bind ?_
   rw [hashByValue_scannable 8 hsc]
   refine wpAny_pure ?_
   refine add_tail ?_ r (ks:=ks ++ [k]) (I1 _ ?_ ?_ ?_) ?_
   ·intro b s₁ Q' hq; cases b <;> first | exact wpAny_pure hq | exact wpAny_rule hq
   ·split
    ·exact ht.1
    ·exact ht.1
   ·split <;> rfl
   ·split
    ·exact hfits
    ·exact SetTable.fits_plain_off hfits
   ·intro h' z' hsb hS' hI; dsimp only; exact wpAny_pure (fin h' z' hsb hS' hI _)
  ·refine wpAny_bind (wpAny_pure ?_)
   simp only [↓reduceIte]
   refine add_tail ?_ r (ks:=ks ++ [k]) (I1 t1 ht.1 rfl hfits) ?_
   ·intro b s₁ Q' hq; cases b <;> first | exact wpAny_pure hq | exact wpAny_rule hq
   ·intro h' z' hsb hS' hI; dsimp only; exact wpAny_pure (fin h' z' hsb hS' hI _)
theorem SetInv.fresh (ep:Nat):SetInv prog w (#[],ep,.fresh 0 0 (!w.params.followText "set-order")) []:=
 ⟨fun e he=>by simp at he,fun k=>by simp,(by decide:0 < scanBound),by rfl,rfl,.nil,⟨.nil,rfl⟩,rfl⟩
end
end
section
open PySem.SeqAt
noncomputable def setObj0 (w:World):Obj:={ cls:=.type "set",dict:=none,data:=.set #[] 0 (.fresh 0 0 (!w.params.followText "set-order")) }
section
variable {prog:Program} {w:World} {A:Around} {E:Value→Shared→Prop} {s:Shared}
set_option maxHeartbeats 4000000 in
theorem code_set_made {args:List Value} (hnc:checkBuiltinCall "set.__new__" ⟨.type "set" :: args,[]⟩ = pure ()) {Q₁:Value→Shared→Prop}
  (h:Q₁ (.ref s.heap.objs.size) { s with heap:=s.heap.push (setObj0 w) }) :
  codeAny (model prog w) A (.call (.builtin "set.__new__") ⟨.type "set" :: args,[]⟩) (wants Q₁ E) s:=by
 refine codeAny_of_tree ?_
 show wpAny _ A.in1 (do checkBuiltinCall "set.__new__" ⟨.type "set" :: args,[]⟩; again (.builtin "set.__new__" ⟨.type "set" :: args,[]⟩)) _ _ s
 refine wpAny_bind (wpAny_of_eq hnc (wpAny_pure ⟨plainId_quiet PySem.F.plain_set_new _,codeAny_builtin PySem.F.entry_set_new ?_⟩))
 rw [Around.under_plainId PySem.F.plain_set_new _]
 unfold Builtin.«set.__new__» Builtin.Frozenset.newClass
 have hsub:=sub_set_self
 obtain ⟨hp,g,d,tk,os⟩:=s
 dsimp only
 wp_walk
 refine wpAny_askSetting (wpAny_pure ?_)
 dsimp only
 unfold newObj
 refine wpAny_bind (wpAny_alloc (wpAny_pure ?_))
 exact wpAny_pure h
set_option maxHeartbeats 4000000 in
theorem call_set_core {args:List Value} {Q:Value→Shared→Prop} (hct:checkTypeCall "set" ⟨args,[]⟩ = pure ()) (hnc:checkBuiltinCall "set.__new__" ⟨.type "set" :: args,[]⟩ = pure ())
  (hchk:∀ {A:Around} {s:Shared} {self:Value} {Q:Unit→Shared→Prop},s.TypeIs self "set"→Q () s→wpAny (model prog w) A (checkBuiltinCall "set.__init__" ⟨self :: args,[]⟩) Q E s)
  (h:∀ A',A'.handled = A.handled→wpAny (model prog w) A' (Builtin.«set.__init__» ⟨.ref s.heap.objs.size :: args,[]⟩) (fun fin s'=>fin = .done (.ret .none)∧Q (.ref s.heap.objs.size) s') E { s with heap:=s.heap.push (setObj0 w) }) :
  wpAny (model prog w) A (call (.type "set") args) Q E s:=by
 obtain ⟨c,tl,hmro⟩:=PySem.F.called_set.mro
 have hmade:=PySem.F.called_set.made
 have hsub:=PySem.F.called_set.sub
 refine wpAny_call (codeAny_of_tree ?_)
 show wpAny _ _ (callAny (.type "set") _) _ _ _
 refine wpAny_pure ⟨Code.quiet_builtin _ (by decide +kernel),codeAny_builtin PySem.F.entry_type_call ?_⟩
 rw [Around.under_plain (weight_type_call_type "set" args []) rfl]
 have h1:=PySem.F.called_set.notType
 have h2:=PySem.F.called_set.canCreate
 repeat (any_goals (first | assumption | wp_step))
 refine codeAny_mono (code_set_made hnc (E:=E) (Q₁:=fun obj s₁=>obj = .ref s.heap.objs.size∧s₁ = { s with heap:=s.heap.push (setObj0 w) }) ⟨rfl,rfl⟩) fun r s₁ hr=>?_
 cases r with
 | error e=>exact hr
 | ok fl=>
  cases fl with
  | ret obj=>
   obtain ⟨rfl,rfl⟩:=hr
   have hS:(s.heap.push (setObj0 w)).get? s.heap.objs.size = some (setObj0 w):=Heap.get?_push_size _ rfl
   have hT:Shared.TypeIs { s with heap:=s.heap.push (setObj0 w) } (.ref s.heap.objs.size) "set":=⟨_,hS,rfl⟩
   have hli:=PySem.F.called_set.init.lookup
   have hbi:=PySem.F.called_set.init.bind (.ref s.heap.objs.size)
   repeat (any_goals (first | assumption | wp_step))
   refine codeAny_mono (codeAny_call_builtin (R:=wants (fun r s₂=>r = .none∧Q (.ref s.heap.objs.size) s₂) E) PySem.F.called_set.init.plain PySem.F.entry_set_init (hchk hT ?_)) fun r₂ s₂ hr₂=>?_
   ·refine wpAny_mono (h _ ?_) (fun fin s' q=>?_) (fun _ _ q=>q)
    ·rfl
    ·obtain ⟨rfl,q⟩:=q
     exact ⟨rfl,q⟩
   ·cases r₂ with
    | error e=>exact hr₂
    | ok fl₂=>
     cases fl₂ with
     | ret r=>
      obtain ⟨rfl,hq⟩:=hr₂
      repeat (any_goals (first | assumption | wp_step))
     | _=>exact hr₂.elim
  | _=>exact hr.elim
end
end
section
open PySem.SeqAt
theorem isIS_scan {k:IS} {v:Value} (h:isIS k v = true):v.scannable = true:=by
 rcases isIS_shape h with ⟨n,t,rfl,rfl⟩ | ⟨x,t,rfl,rfl⟩ <;> rfl
section
variable {prog:Program} {w:World} {A:Around} {s:Shared} {R:Result→Shared→Prop}
end
section
variable {c:Ctx} {m:Lo} {H:Hp} {pos:Pos} {K:Frag} {Q:V→Lo→Hp→Prop}
theorem set_get {prog:Program} {w:World} {h:Heap} {a:Addr} {z:Raw} {ks:List IS} (r:(O.set z ks).rep prog w h a):RawAt h a z∧SetInv prog w z ks:=let ⟨o,ho,hx,hd,i⟩:=r; ⟨⟨o,ho,hx,hd⟩,i⟩
theorem set_mk {prog:Program} {w:World} {h:Heap} {a:Addr} {z:Raw} {ks:List IS} (r:RawAt h a z) (i:SetInv prog w z ks):(O.set z ks).rep prog w h a:=let ⟨o,ho,hx,hd⟩:=r; ⟨o,ho,hx,hd,i⟩
set_option maxHeartbeats 2000000 in
theorem k_set0 (h:∀ a z,Q (.ref a) m ((a,.set z []) :: H)):Cal c (.ty "set") [] m H Q:=fun s vf vvs R rf rv=>by
 cases (rf:vf = _)
 cases (rv:vvs = _)
 refine .new R (o:=.set (#[],0,.fresh 0 0 (!c.w.params.followText "set-order")) []) (b:=fun a=>.ref a) (fun a=>h a _) fun P k=>call_set_core PySem.F.typeCall_set_0 PySem.F.newCall_set_0 check_set_init fun A' _=>?_
 have hS:(s.heap.push (setObj0 c.w)).get? s.heap.objs.size = some { cls:=.type "set",dict:=none,data:=.set #[] 0 (.fresh 0 0 (!c.w.params.followText "set-order")) }:=Heap.get?_push_size _ rfl
 have hT:Shared.TypeIs { s with heap:=s.heap.push (setObj0 c.w) } (.ref s.heap.objs.size) "set":=⟨_,hS,rfl⟩
 have fin:=k s.heap.objs.size (.ref s.heap.objs.size) (s.heap.push (setObj0 c.w)) s.toks push_grow (get_size _) ⟨_,hS,⟨rfl,rfl,rfl⟩,rfl,SetInv.fresh 0⟩ rfl
 unfold Builtin.«set.__init__» noKeywords
 wp_walk
 exact ⟨rfl,fin⟩
set_option maxHeartbeats 4000000 in
theorem gm_set {a:Addr} {z:Raw} {ks:List IS} {name:Str} {id:String} (hx:Sees c H a (.set z ks)) (slot:Slot "set" name id) (hty:typeOf (.builtin id) = pure (.type "method_descriptor")):GM c (.ref a) name (.bi id) [.ref a] H:=fun m s vu pl P R r k=>by
 cases (r:vu = _)
 obtain ⟨⟨o,ho,hex,hd⟩,I⟩:=set_get (hx m s R)
 exact getMethod_builtin ⟨o,ho,hex.1⟩ PySem.F.plainAttrs_set slot hty (fun b e=>by cases e; exact ⟨_,ho,hex.2.1⟩) (k _ _ s.toks rfl (.one rfl))
theorem k_add {a:Addr} {z:Raw} {ks:List IS} {k:IS} {F:O→Hp} (sp:Spot a (.set z ks) H F) (hz:ks.length≤1000) (h:∀ z',Q .none m (F (.set z' (setPut ks k)))):Cal c (.bi "set.add") [.ref a,k.v] m H Q:=fun s vf vvs R rf rv P kk=>by
 cases (rf:vf = _)
 obtain ⟨va,vk,rfl,ra,rk⟩:=Reps.two rv
 cases (ra:va = _)
 obtain ⟨⟨o,ho,hex,hd⟩,I⟩:=set_get (R.obj _ _ (sp.upd (.set z ks)).mem)
 have hk:=isIS_rep rk
 refine wpAny_call_entry PySem.F.slot_set_add ⟨o,ho,hex.1⟩ PySem.F.entry_set_add ?_ (PySem.F.args_set_add_2 _ _)
 unfold Builtin.«set.add» Builtin.Frozenset.oneOther
 simp only [List.isEmpty_nil,bind_assoc]
 unfold Builtin.Frozenset.addrOf setAdd
 refine wpAny_bind (wpAny_pure ?_)
 try dsimp only
 refine wpAny_bind (wpAny_pure ?_)
 try dsimp only
 refine wpAny_bind ?_
 refine wpAny_holding ?_
 refine wpAny_bind ((mixKind c.prog c.w).pyHash hk ?_)
 refine set_addHashed (s:={ s with toks:=s.toks + 1 }) hk (isIS_scan hk) ⟨o,ho,hex,hd⟩ I (by have:scanBound = 4096:=rfl; exact as2 2 (.l Z0 (.n 1000)) (.e Z1 (.n 4096)) (.t (.a Z0 N1) Z1) [_,_] hz this) fun h' z' b hs' r' I'=>?_
 have al:∃ o,h'.get? a = some o:=let ⟨o,ho,_⟩:=r'; ⟨o,ho⟩
 show wpAny _ _ (ret Value.none) _ _ _
 exact wpAny_pure ⟨_,rfl,kk .none _ m _ h' (tkn s (s.toks + 1)) (R.upd _ (sp.upd _) (Heap.SameBut.kp hs') al fun _=>set_mk r' I') (.upd (sp.upd _) (Heap.SameBut.kp hs') al) rfl (h z')⟩
end
end
section
open PySem.SeqAt
theorem slot_sit_next:Slot "set_iterator" "__next__" "set_iterator.__next__":=
 .of (owner:="set_iterator") (n:="__next__") (by rw [typeLookup_type,builtinLookup_eq_fast]; kernel_rfl) (by decide +kernel) (by decide +kernel) (by decide +kernel)
  (by first | exact .inl (by decide +kernel) | exact .inr (by decide +kernel)) (by rw [isSubtype_type]; kernel_rfl)
theorem entry_sit_next:entryFor table "set_iterator.__next__" = some Builtin.«set_iterator.__next__»:=entryFor_of_tree (by kernel_rfl)
theorem owner_sit:Manifest.owners.lookup (String.ofList ['r','o','t','a','r','e','t','i','_','t','e','s'].reverse) = some Manifest.sig_set_iterator:=by kernel_rfl
theorem args_sit_next (a:Value):argsOk "set_iterator.__next__" ⟨[a],[]⟩:=by
 unfold argsOk; rw [signature?_of (id:="set_iterator.__next__") (n:=['_','_','t','x','e','n','_','_']) (o:=['r','o','t','a','r','e','t','i','_','t','e','s']) (by kernel_rfl) owner_sit]; kernel_rfl
theorem entry_set_iter:entryFor table "set.__iter__" = some Builtin.«frozenset.__iter__»:=
 entryFor_alias (id':="frozenset.__iter__") (by kernel_rfl) rfl (by decide +kernel) (by kernel_rfl)
section
variable {prog:Program} {w:World} {A:Around} {E:Value→Shared→Prop} {s:Shared}
theorem wp_choose {src:Source} {n:Nat} {M:Model} {Q:Nat→Shared→Prop} (hn:n≠0) (h:∀ i,i < n→Q i { s with drawn:=s.drawn.bump src }):wpAny M A (choose src n) Q E s:=fun Γ p _=>by
 unfold choose
 rw [Sem.wp_choose]
 exact ⟨hn,h _ (Nat.mod_lt _ (Nat.pos_of_ne_zero hn))⟩
theorem erase_perm {α:Type}:∀ (l:List α) (i:Nat) (x:α),l[i]? = some x→List.Perm (x :: l.eraseIdx i) l
 | [],i,x,e=>by simp at e
 | y :: l,0,x,e=>by simp at e; subst e; simp
 | y :: l,i + 1,x,e=>by
  simp at e
  simp only [List.eraseIdx_cons_succ]
  exact (List.Perm.swap y x _).trans ((erase_perm l i x e).cons y)
theorem wp_drawOrder {α:Type} {M:Model}:∀ (n:Nat) (l:List α) (s:Shared) {Q:List α→Shared→Prop},l.length = n→(∀ l' d,List.Perm l' l→Q l' { s with drawn:=d })→wpAny M A (drawOrder n l) Q E s
 | 0,l,s,Q,hl,h=>by
  have:l = []:=by simpa using hl
  subst this
  exact wpAny_pure (h [] s.drawn .rfl)
 | n + 1,[],s,Q,hl,h=>by simp at hl
 | n + 1,y :: l,s,Q,hl,h=>by
  refine wpAny_bind (wp_choose (by simp) fun i hi=>?_)
  have e:(y :: l)[i]? = some (y :: l)[i]:=by simp [hi]
  rw [e]
  dsimp only
  have p:=erase_perm _ _ _ e
  refine wpAny_bind (wp_drawOrder n ((y :: l).eraseIdx i) _ (by have:=p.length_eq; simp at this hl ⊢; exact as2 3 (.e Z0 Z1) (.e Z1 Z2) (.e Z0 Z2) [_,_,_] this hl) fun l' d hp=>?_)
  exact wpAny_pure (h _ d ((hp.cons _).trans p))
theorem pick_perm {α:Type} (next:Nat→Nat):∀ (fuel k:Nat) (left:List α) (out:Array α),fuel = left.length→List.Perm (pickOrder.go next fuel k left out).toList (out.toList ++ left)
 | 0,k,left,out,h=>by
  have:left = []:=by simpa using h.symm
  subst this
  show List.Perm out.toList (out.toList ++ [])
  rw [List.append_nil]
 | fuel + 1,k,left,out,h=>by
  unfold pickOrder.go
  have hlt:next k % left.length < left.length:=Nat.mod_lt _ (by exact as1 2 (.e (.a Z0 N1) Z1) (.t (.n 0) Z1) [_,_] h)
  have e:left[next k % left.length]? = some left[next k % left.length]:=by simp [hlt]
  rw [e]
  dsimp only
  have p:=erase_perm _ _ _ e
  refine (pick_perm next fuel (k + 1) _ _ (by have:=p.length_eq; simp at this; exact as2 3 (.e (.a Z0 N1) Z1) (.e (.a Z2 N1) Z1) (.e Z0 Z2) [_,_,_] h this)).trans ?_
  rw [Array.toList_push,List.append_assoc]
  exact List.Perm.append_left _ p
theorem pickOrder_perm {α:Type} (next:Nat→Nat) (xs:Array α):List.Perm (pickOrder next xs).toList xs.toList:=by
 unfold pickOrder
 simpa using pick_perm next xs.size 0 xs.toList #[] (by simp)
noncomputable def slotAt (place:Array Nat) (i:Nat):Nat:=if i = 0 then 0 else place.getD (i - 1) 0 + 1
theorem below_next {xs:Array Nat} (h:xs.toList.Pairwise (· < ·)) {i:Nat} (hi:i≤xs.size):SetTable.below xs (slotAt xs i) = i:=by
 obtain ⟨h1,h2,h3⟩:=below_spec h (slotAt xs i)
 have hr:=rises h (slotAt xs i)
 cases i with
 | zero=>
  rcases Nat.eq_zero_or_pos (SetTable.below xs (slotAt xs 0)) with q | q
  ·exact q
  ·have:=h2 0 q; unfold slotAt at this; simp at this
 | succ i=>
  have hlt:i < xs.size:=by exact as1 2 (.l (.a Z0 N1) Z1) (.t Z0 Z1) [_,_] hi
  have es:slotAt xs (i + 1) = xs[i] + 1:=by unfold slotAt; simp [hlt]
  rcases Nat.lt_trichotomy (SetTable.below xs (slotAt xs (i + 1))) (i + 1) with q | q | q
  ·have:=h3 i (by exact as1 2 (.t Z0 (.a Z1 N1)) (.l Z0 Z1) [_,_] q) hlt
   simp [hlt] at this
   rw [es] at this
   exact as1 3 (.l (.a Z0 N1) Z0) (.e Z1 (.a Z2 N1)) [_,_,_] this
  ·exact q
  ·have hb:i + 1 < xs.size:=by exact as2 3 (.l Z0 Z1) (.t (.a Z2 N1) Z0) (.t (.a Z2 N1) Z1) [_,_,_] h1 q
   have l1:=h2 (i + 1) q
   have l2:=hr i (i + 1) (by exact as0 1 (.t Z0 (.a Z0 N1)) [_]) hb
   simp [hlt,hb] at l1 l2
   rw [es] at l1
   exact as2 4 (.t Z0 (.a Z1 N1)) (.t Z1 Z0) (.e Z2 (.a Z3 N1)) [_,_,_,_] l1 l2
end
end
section
open PySem.SeqAt
noncomputable def sitObj (first:Value) (i:Nat) (a:Addr) (z:Raw):Obj:={ cls:=.type "set_iterator",dict:=none,data:=.fields #[first,.int i 0,.ref a,.int z.1.size 0,.int z.2.1 0],slots:=#[] }
section
variable {prog:Program} {w:World} {A:Around} {E:Value→Shared→Prop} {s:Shared}
theorem sit_stop {it:Addr} {Q:Option Value→Shared→Prop} (hh:A.handled = none) (hQ:∀ h',(∀ b o,s.heap.get? b = some o→h'.get? b = some o)→Q none { s with heap:=h' }) :
  wpAny (model prog w) A.in1 (do let x ← newExc (.type "StopIteration") []; raiseNew x) (fun (fin:PySem.Fin) s'=>∃ v,fin = .done (.ret v)∧wpAny (model prog w) A (pure (some v)) Q E s')
   (fun e s'=>wpAny (model prog w) A (do if (← isInstance e (.type "StopIteration")) = true then pure none else throw e) Q E s') s:=by
 refine wpAny_bind ?_
 simp only [newExc,newTuple]
 refine wpAny_bind (wpAny_newObj_type ?_ (by size_fits))
 refine wpAny_bind (m:=firstArgMember _ _) (wpAny_of_eq (a:=Value.none) (by first | rfl | (simp only [firstArgMember]; rfl)) ?_)
 refine wpAny_newObj_type ?_ (by size_fits)
 unfold raiseNew
 dsimp only
 refine wpAny_bind (wpAny_handled ?_)
 rw [show A.in1.handled = none from hh]
 refine wpAny_bind (wpAny_pure (wpAny_throw ?_))
 refine wpAny_bind (wpAny_isInstance (T:="StopIteration") (b:=true) ⟨_,Heap.get?_push_size _ rfl,rfl⟩ isSubtype_stop ?_)
 exact wpAny_pure (hQ _ fun b o e=>push_grow _ _ (push_grow _ _ e))
theorem sit_fields {it a:Addr} {first:Value} {i:Nat} {z:Raw} {h:Heap} (hit:h.get? it = some (sitObj first i a z)) (f:Array Value→Array Value) :
  (h.update it (Obj.mapFields f)).get? it = some { sitObj first i a z with data:=.fields (f #[first,.int i 0,.ref a,.int z.1.size 0,.int z.2.1 0]) }:=Heap.get?_update_self _ hit rfl
theorem sit_int {it a:Addr} {slot i next:Nat} {x:Value} {z:Raw} {ks:List IS} {Q:Option Value→Shared→Prop} (hit:s.heap.get? it = some (sitObj (.int slot 0) i a z)) (r:RawAt s.heap a z) (I:SetInv prog w z ks)
  (hnext:∀ (A':Around) (Q':Option (Value × Nat)→Shared→Prop) (E':Value→Shared→Prop),Q' (some (x,next)) s→wpAny (model prog w) A' (setNext a slot i z.2.1) Q' E' s)
  (hQ:∀ h',h'.get? it = some (sitObj (.int next 0) (i + 1) a z)→Heap.SameBut it s.heap h'→Q (some x) { s with heap:=h' }):wpAny (model prog w) A (pyNext (.ref it)) Q E s:=by
 have hT:s.TypeIs (.ref it) "set_iterator":=⟨_,hit,rfl⟩
 obtain ⟨o,ho,hex,hd⟩:=r
 unfold pyNext
 refine wpAny_bind (wpAny_attempt (wpAny_callSpecial?_slot (name:=Str.ofString "__next__") hT slot_sit_next (wpAny_call_entry slot_sit_next hT entry_sit_next ?_ (args_sit_next _))))
 unfold Builtin.«set_iterator.__next__»
 refine wpAny_bind (wpAny_pure ?_)
 refine wpAny_bind (wpAny_fieldsOf hit rfl ?_)
 dsimp only
 refine wpAny_bind (wpAny_setEntries_of ho hd I.fits ?_)
 rw [if_neg (by simp)]
 refine wpAny_bind ?_
 rw [Int.toNat_natCast,Int.toNat_natCast,Int.toNat_natCast]
 refine hnext _ _ _ ?_
 dsimp only
 refine wpAny_bind (wpAny_setField hit rfl (by simp) ?_)
 refine wpAny_bind (wpAny_setField (s:={ s with heap:=_ }) (sit_fields hit _) rfl (by simp) ?_)
 refine wpAny_pure ⟨x,rfl,wpAny_pure (hQ _ ?_ ((Heap.SameBut.update ..).trans (Heap.SameBut.update ..)))⟩
 rw [Heap.get?_update_self _ (sit_fields hit _) rfl]
 rfl
theorem sit_int_end {it a:Addr} {slot i:Nat} {z:Raw} {ks:List IS} {Q:Option Value→Shared→Prop} (hh:A.handled = none) (hit:s.heap.get? it = some (sitObj (.int slot 0) i a z)) (r:RawAt s.heap a z) (I:SetInv prog w z ks)
  (hnext:∀ (A':Around) (Q':Option (Value × Nat)→Shared→Prop) (E':Value→Shared→Prop),Q' none s→wpAny (model prog w) A' (setNext a slot i z.2.1) Q' E' s)
  (hQ:∀ h',(∀ b o,b≠it→s.heap.get? b = some o→h'.get? b = some o)→Q none { s with heap:=h' }):wpAny (model prog w) A (pyNext (.ref it)) Q E s:=by
 have hT:s.TypeIs (.ref it) "set_iterator":=⟨_,hit,rfl⟩
 obtain ⟨o,ho,hex,hd⟩:=r
 unfold pyNext
 refine wpAny_bind (wpAny_attempt (wpAny_callSpecial?_slot (name:=Str.ofString "__next__") hT slot_sit_next (wpAny_call_entry slot_sit_next hT entry_sit_next ?_ (args_sit_next _))))
 unfold Builtin.«set_iterator.__next__»
 refine wpAny_bind (wpAny_pure ?_)
 refine wpAny_bind (wpAny_fieldsOf hit rfl ?_)
 dsimp only
 refine wpAny_bind (wpAny_setEntries_of ho hd I.fits ?_)
 rw [if_neg (by simp)]
 refine wpAny_bind ?_
 rw [Int.toNat_natCast,Int.toNat_natCast,Int.toNat_natCast]
 refine hnext _ _ _ ?_
 dsimp only
 refine wpAny_bind (wpAny_setField hit rfl (by simp) ?_)
 refine sit_stop (it:=it) (s:={ s with heap:=_ }) hh fun h' hk=>hQ h' fun b o hb e=>hk b o (((Heap.SameBut.update ..).2 b hb).trans e)
noncomputable def tupObj (idx:List Nat):Obj:={ cls:=.type "tuple",data:=.seq (idx.map fun (j:Nat)=>rawInt j).toArray }
theorem sit_tup {it a T:Addr} {i j:Nat} {idx:List Nat} {e:Int × Value} {z:Raw} {ks:List IS} {Q:Option Value→Shared→Prop} (hit:s.heap.get? it = some (sitObj (.ref T) i a z)) (hT':s.heap.get? T = some (tupObj idx)) (r:RawAt s.heap a z) (I:SetInv prog w z ks)
  (hj:idx[i]? = some j) (he:z.1[j]? = some e)
  (hQ:∀ h',h'.get? it = some (sitObj (.ref T) (i + 1) a z)→Heap.SameBut it s.heap h'→Q (some e.2) { s with heap:=h' }):wpAny (model prog w) A (pyNext (.ref it)) Q E s:=by
 have hT:s.TypeIs (.ref it) "set_iterator":=⟨_,hit,rfl⟩
 obtain ⟨o,ho,hex,hd⟩:=r
 unfold pyNext
 refine wpAny_bind (wpAny_attempt (wpAny_callSpecial?_slot (name:=Str.ofString "__next__") hT slot_sit_next (wpAny_call_entry slot_sit_next hT entry_sit_next ?_ (args_sit_next _))))
 unfold Builtin.«set_iterator.__next__»
 refine wpAny_bind (wpAny_pure ?_)
 refine wpAny_bind (wpAny_fieldsOf hit rfl ?_)
 dsimp only
 refine wpAny_bind (wpAny_setEntries_of ho hd I.fits ?_)
 rw [if_neg (by simp)]
 refine wpAny_bind (wpAny_seqItems hT' rfl ?_)
 dsimp only
 have hp:((idx.map fun (j:Nat)=>rawInt j).toArray)[(i:Int).toNat]? = some (.int j 0):=by
  rw [Int.toNat_natCast,List.getElem?_toArray,List.getElem?_map,hj]; rfl
 rw [hp]
 dsimp only
 refine wpAny_bind ?_
 rw [Int.toNat_natCast,Int.toNat_natCast]
 unfold setNextDrawn
 refine wpAny_bind (wpAny_setState_of ho hd I.fits ?_)
 dsimp only
 rw [if_neg (by simp),he]
 refine wpAny_pure ?_
 refine wpAny_bind (wpAny_setField hit rfl (by simp) ?_)
 refine wpAny_pure ⟨e.2,rfl,wpAny_pure (hQ _ ?_ (Heap.SameBut.update ..))⟩
 rw [sit_fields hit]
 rfl
theorem sit_tup_end {it a T:Addr} {i:Nat} {idx:List Nat} {z:Raw} {ks:List IS} {Q:Option Value→Shared→Prop} (hh:A.handled = none) (hit:s.heap.get? it = some (sitObj (.ref T) i a z)) (hT':s.heap.get? T = some (tupObj idx)) (r:RawAt s.heap a z) (I:SetInv prog w z ks)
  (hj:idx[i]? = none)
  (hQ:∀ h',(∀ b o,b≠it→s.heap.get? b = some o→h'.get? b = some o)→Q none { s with heap:=h' }):wpAny (model prog w) A (pyNext (.ref it)) Q E s:=by
 have hT:s.TypeIs (.ref it) "set_iterator":=⟨_,hit,rfl⟩
 obtain ⟨o,ho,hex,hd⟩:=r
 unfold pyNext
 refine wpAny_bind (wpAny_attempt (wpAny_callSpecial?_slot (name:=Str.ofString "__next__") hT slot_sit_next (wpAny_call_entry slot_sit_next hT entry_sit_next ?_ (args_sit_next _))))
 unfold Builtin.«set_iterator.__next__»
 refine wpAny_bind (wpAny_pure ?_)
 refine wpAny_bind (wpAny_fieldsOf hit rfl ?_)
 dsimp only
 refine wpAny_bind (wpAny_setEntries_of ho hd I.fits ?_)
 rw [if_neg (by simp)]
 refine wpAny_bind (wpAny_seqItems hT' rfl ?_)
 dsimp only
 have hp:((idx.map fun (j:Nat)=>rawInt j).toArray)[(i:Int).toNat]? = none:=by
  rw [Int.toNat_natCast,List.getElem?_toArray,List.getElem?_map,hj]; rfl
 rw [hp]
 dsimp only
 refine wpAny_bind (wpAny_setField hit rfl (by simp) ?_)
 refine wpAny_bind (wpAny_setField (s:={ s with heap:=_ }) (sit_fields hit _) rfl (by simp) ?_)
 refine sit_stop (it:=it) (s:={ s with heap:=_ }) hh fun h' hk=>hQ h' fun b o hb e=>hk b o (((Heap.SameBut.update ..).2 b hb).trans (((Heap.SameBut.update ..).2 b hb).trans e))
theorem next_text {a:Addr} {slot i:Nat} {z:Raw} {ks:List IS} {Q:Option (Value × Nat)→Shared→Prop} (r:RawAt s.heap a z) (I:SetInv prog w z ks) (hw:w.params.followText "set-order" = true)
  (h:Q (((pickOrder (w.params.setOrder a z.2.1) z.1)[i]?).map fun e=>(e.2,slot)) s):wpAny (model prog w) A (setNext a slot i z.2.1) Q E s:=by
 obtain ⟨o,ho,hex,hd⟩:=r
 unfold setNext setWalk setsByText
 refine wpAny_bind (wpAny_setState_of ho hd I.fits ?_)
 dsimp only
 refine wpAny_bind (wpAny_bind (wpAny_askSetting (wpAny_pure ?_)))
 show wpAny _ _ (if w.params.followText "set-order" = true then _ else _) _ _ _
 rw [if_pos hw]
 rw [if_neg (by simp)]
 refine wpAny_bind ?_
 refine wpAny_bind (wpAny_setState_of ho hd I.fits ?_)
 dsimp only
 refine wpAny_bind (wpAny_bind (wpAny_askSetting (wpAny_pure ?_)))
 show wpAny _ _ (if w.params.followText "set-order" = true then _ else _) _ _ _
 rw [if_pos hw]
 refine wpAny_bind (wpAny_askSetting (wpAny_pure ?_))
 exact wpAny_pure h
theorem next_place {a:Addr} {i g:Nat} {z:Raw} {ks:List IS} {Q:Option (Value × Nat)→Shared→Prop} (r:RawAt s.heap a z) (I:SetInv prog w z ks) (hw:w.params.followText "set-order" = false) (hdr:(!z.2.2.plain && decide (z.1.size > 1)) = false) (hi:i≤z.1.size)
  (h:Q ((z.1[i]?).map fun e=>(e.2,slotAt z.2.2.place (i + 1))) s):wpAny (model prog w) A (setNext a (slotAt z.2.2.place i) g z.2.1) Q E s:=by
 obtain ⟨o,ho,hex,hd⟩:=r
 have hf:=I.fits
 simp only [SetTable.fits,Bool.and_eq_true,beq_iff_eq] at hf
 unfold setNext setsByText
 refine wpAny_bind (wpAny_setState_of ho hd I.fits ?_)
 dsimp only
 refine wpAny_bind (wpAny_bind (wpAny_askSetting (wpAny_pure ?_)))
 show wpAny _ _ (if w.params.followText "set-order" = true then _ else _) _ _ _
 rw [if_neg (by rw [hw]; simp)]
 show wpAny _ _ (if (!z.2.2.plain && decide (z.1.size > 1)) = true then _ else _) _ _ _
 rw [if_neg (by rw [hdr]; simp)]
 refine wpAny_bind (m:=(do if (!z.2.2.led && !z.1.isEmpty) = true then unsupported "set:maker-not-led" else pure ())) ?_
 rw [if_neg (by rw [I.led,hw]; simp)]
 refine wpAny_pure ?_
 rw [below_next I.tame.1 (by rw [hf.1]; exact hi)]
 refine wpAny_pure ?_
 by_cases hlt:i < z.1.size
 ·have e1:z.1[i]? = some z.1[i]:=by simp [hlt]
  have hp:i < z.2.2.place.size:=by rw [hf.1]; exact hlt
  have e2:z.2.2.place[i]? = some z.2.2.place[i]:=by simp [hp]
  rw [e1] at h
  rw [e1,e2]
  have e3:slotAt z.2.2.place (i + 1) = z.2.2.place[i] + 1:=by unfold slotAt; simp [hp]
  rw [e3] at h
  exact h
 ·have e1:z.1[i]? = none:=by simp; exact as1 2 (.no (.t Z0 Z1)) (.l Z1 Z0) [_,_] hlt
  rw [e1] at h ⊢
  exact h
end
end
section
open PySem.SeqAt
noncomputable def SetJ (w:World) (z:Raw) (a it:Addr) (W:List (Int × Value)) (Cl:Addr→Prop) (i:Nat) (h:Heap):Prop:=
 ∃ first,h.get? it = some (sitObj first i a z) ∧
  ((w.params.followText "set-order" = true∧first = .int (0:Nat) 0∧W = (pickOrder (w.params.setOrder a z.2.1) z.1).toList) ∨
   (w.params.followText "set-order" = false∧(!z.2.2.plain && decide (z.1.size > 1)) = false∧first = .int (slotAt z.2.2.place i) 0∧W = z.1.toList) ∨
   ∃ T idx,first = .ref T∧h.get? T = some (tupObj idx)∧Cl T∧T≠it∧(∀ j∈idx,j < z.1.size)∧W = idx.map fun j=>z.1.getD j (0,.none))
theorem map_getD {α:Type} (es:Array α) (d:α):(List.range es.size).map (fun j=>es.getD j d) = es.toList:=by
 apply List.ext_getElem
 ·simp
 ·intro i h1 h2
  simp at h1
  simp [h1]
section
variable {prog:Program} {w:World} {A:Around} {E:Value→Shared→Prop} {s:Shared}
theorem SetJ.item {z:Raw} {a it:Addr} {W:List (Int × Value)} {Cl:Addr→Prop} {i:Nat} {ks:List IS} {e:Int × Value} {Q:Option Value→Shared→Prop} (j:SetJ w z a it W Cl i s.heap) (r:RawAt s.heap a z) (I:SetInv prog w z ks) (hW:W[i]? = some e) (hl:W.length = z.1.size)
  (hQ:∀ h',SetJ w z a it W Cl (i + 1) h'→Heap.SameBut it s.heap h'→Q (some e.2) { s with heap:=h' }):wpAny (model prog w) A (pyNext (.ref it)) Q E s:=by
 obtain ⟨first,hit,q⟩:=j
 have hi:i < W.length:=by
  rcases Nat.lt_or_ge i W.length with q | q
  ·exact q
  ·rw [List.getElem?_eq_none q] at hW; cases hW
 rcases q with ⟨hw,rfl,rfl⟩ | ⟨hw,hdr,rfl,rfl⟩ | ⟨T,idx,rfl,hT,cT,nT,hlt,rfl⟩
 ·refine sit_int (x:=e.2) (next:=0) hit r I (fun A' Q' E' q=>next_text r I hw ?_) fun h' hit' hs=>hQ h' ⟨_,hit',.inl ⟨hw,rfl,rfl⟩⟩ hs
  rw [← Array.getElem?_toList,hW]; exact q
 ·refine sit_int (x:=e.2) (next:=slotAt z.2.2.place (i + 1)) hit r I (fun A' Q' E' q=>next_place r I hw hdr (by rw [← hl]; exact Nat.le_of_lt hi) ?_) fun h' hit' hs=>hQ h' ⟨_,hit',.inr (.inl ⟨hw,hdr,rfl,rfl⟩)⟩ hs
  rw [← Array.getElem?_toList,hW]; exact q
 ·rw [List.getElem?_map] at hW
  cases hj:idx[i]? with
  | none=>rw [hj] at hW; cases hW
  | some j=>
   rw [hj] at hW
   simp at hW
   have hlj:=hlt j (List.mem_of_getElem? hj)
   have he:z.1[j]? = some e:=by simp [hlj] at hW ⊢; exact hW
   refine sit_tup hit hT r I hj he fun h' hit' hs=>hQ h' ⟨_,hit',.inr (.inr ⟨T,idx,rfl,(hs.2 T nT).trans hT,cT,nT,hlt,rfl⟩)⟩ hs
theorem SetJ.done {z:Raw} {a it:Addr} {W:List (Int × Value)} {Cl:Addr→Prop} {ks:List IS} {Q:Option Value→Shared→Prop} (hh:A.handled = none) (j:SetJ w z a it W Cl W.length s.heap) (r:RawAt s.heap a z) (I:SetInv prog w z ks) (hl:W.length = z.1.size)
  (hQ:∀ h',(∀ b o,b≠it→s.heap.get? b = some o→h'.get? b = some o)→Q none { s with heap:=h' }):wpAny (model prog w) A (pyNext (.ref it)) Q E s:=by
 obtain ⟨first,hit,q⟩:=j
 rcases q with ⟨hw,rfl,rfl⟩ | ⟨hw,hdr,rfl,rfl⟩ | ⟨T,idx,rfl,hT,cT,nT,hlt,rfl⟩
 ·refine sit_int_end hh hit r I (fun A' Q' E' q=>next_text r I hw ?_) hQ
  rw [← Array.getElem?_toList,List.getElem?_eq_none (Nat.le_refl _)]; exact q
 ·refine sit_int_end hh hit r I (fun A' Q' E' q=>next_place r I hw hdr (by simp) ?_) hQ
  rw [← Array.getElem?_toList,List.getElem?_eq_none (Nat.le_refl _)]; exact q
 ·exact sit_tup_end hh hit hT r I (by simp) hQ
theorem SetJ.keep {z:Raw} {a it:Addr} {W:List (Int × Value)} {Cl Cl':Addr→Prop} {i:Nat} {h h':Heap} (j:SetJ w z a it W Cl i h) (k1:∀ o,h.get? it = some o→h'.get? it = some o) (k2:∀ b o,Cl b→h.get? b = some o→h'.get? b = some o∧Cl' b):SetJ w z a it W Cl' i h':=by
 obtain ⟨first,hit,q⟩:=j
 refine ⟨first,k1 _ hit,?_⟩
 rcases q with q | q | ⟨T,idx,rfl,hT,cT,q⟩
 ·exact .inl q
 ·exact .inr (.inl q)
 ·exact .inr (.inr ⟨T,idx,rfl,(k2 T _ cT hT).1,(k2 T _ cT hT).2,q⟩)
theorem set_pyIter {z:Raw} {a:Addr} {ks:List IS} {Cl:Addr→Prop} {Q:Value→Shared→Prop} (r:RawAt s.heap a z) (I:SetInv prog w z ks) (hCl:∀ b,s.heap.get? b = none→Cl b)
  (h:∀ h' d W it,List.Perm W z.1.toList→SetJ w z a it W Cl 0 h'→(∀ b o,s.heap.get? b = some o→h'.get? b = some o)→s.heap.get? it = none→Q (.ref it) { s with heap:=h',drawn:=d }):wpAny (model prog w) A (pyIter (.ref a)) Q E s:=by
 obtain ⟨o,ho,hex,hd⟩:=r
 have hT:s.TypeIs (.ref a) "set":=⟨o,ho,hex.1⟩
 have fin:∀ (s':Shared) (it:Addr) (ob:Obj),s'.heap.get? it = some ob→ob.cls = .type "set_iterator"→Q (.ref it) s'→∃ v,PySem.Fin.done (Flow.ret (Value.ref it)) = .done (.ret v)∧∃ T id,s'.TypeIs v T∧typeLookup (.type T) "__next__" = pure (some id)∧Q v s':=
  fun s' it ob e1 e2 q=>⟨_,rfl,"set_iterator",_,⟨ob,e1,e2⟩,slot_sit_next.lookup,q⟩
 refine wpAny_pyIter_slot hT PySem.F.slot_set_iter (wpAny_call_entry PySem.F.slot_set_iter hT entry_set_iter ?_ (PySem.F.args_set_iter_1 _))
 unfold Builtin.«frozenset.__iter__» Builtin.Frozenset.slot0 Builtin.Frozenset.sizeOf setDrawn setsByText
 refine wpAny_bind (wpAny_bind (wpAny_pure (wpAny_pure ?_)))
 refine wpAny_bind (wpAny_bind (wpAny_setEntries_of ho hd I.fits (wpAny_pure ?_)))
 refine wpAny_bind (wpAny_bind (wpAny_setState_of ho hd I.fits ?_))
 dsimp only
 refine wpAny_bind (wpAny_bind (wpAny_askSetting (wpAny_pure (wpAny_pure ?_))))
 show wpAny _ _ (if (!w.params.followText "set-order" && (!z.2.2.plain && decide (z.1.size > 1))) = true then _ else _) _ _ _
 by_cases hq:(!w.params.followText "set-order" && (!z.2.2.plain && decide (z.1.size > 1))) = true
 ·rw [if_pos hq]
  refine wpAny_bind (wp_drawOrder _ _ _ (by simp) fun idx d hp=>?_)
  have hlt:∀ j∈idx,j < z.1.size:=fun j hj=>by simpa using hp.mem_iff.mp hj
  have hsz:idx.length = z.1.size:=by simpa using hp.length_eq
  refine wpAny_bind (wpAny_newTuple ?_ (by have:=I.lt; have e:scanBound = 4096:=rfl; rw [List.length_map,hsz,sizeLine_eq]; exact as2 2 (.t Z0 Z1) (.e Z1 (.n 4096)) (.l Z0 (.n 16777216)) [_,_] this e))
  have ho':(s.heap.push (tupObj idx)).get? a = some o:=push_grow _ _ ho
  refine wpAny_bind (wpAny_setEpoch_of (s:={ s with heap:=s.heap.push (tupObj idx),drawn:=d }) ho' hd I.fits ?_)
  refine wpAny_bind (wpAny_newObj_type ?_ (by size_fits))
  have hTt:(s.heap.push (tupObj idx)).get? s.heap.objs.size = some (tupObj idx):=Heap.get?_push_size _ rfl
  have hit:((s.heap.push (tupObj idx)).push (sitObj (.ref s.heap.objs.size) 0 a z)).get? (s.heap.push (tupObj idx)).objs.size = some (sitObj (.ref s.heap.objs.size) 0 a z):=Heap.get?_push_size _ rfl
  have hsz1:(s.heap.push (tupObj idx)).objs.size = s.heap.objs.size + 1:=by simp
  refine wpAny_pure (fin _ _ _ hit rfl (h _ d (idx.map fun j=>z.1.getD j (0,.none)) _ ?_ ⟨_,hit,.inr (.inr ⟨_,idx,rfl,push_grow _ _ hTt,hCl _ (get_size _),by rw [hsz1]; exact Nat.ne_of_lt (Nat.lt_succ_self _),hlt,rfl⟩)⟩ (fun b o e=>push_grow _ _ (push_grow _ _ e)) (get_ge (by rw [hsz1]; exact Nat.le_succ _))))
  rw [← map_getD z.1 (0,.none)]
  exact hp.map _
 ·rw [if_neg hq]
  refine wpAny_bind (wpAny_pure ?_)
  refine wpAny_bind (wpAny_setEpoch_of ho hd I.fits ?_)
  refine wpAny_bind (wpAny_newObj_type ?_ (by size_fits))
  have hit:(s.heap.push (sitObj (.int (0:Nat) 0) 0 a z)).get? s.heap.objs.size = some (sitObj (.int (0:Nat) 0) 0 a z):=Heap.get?_push_size _ rfl
  by_cases hw:w.params.followText "set-order" = true
  ·exact wpAny_pure (fin _ _ _ hit rfl (h _ s.drawn _ _ (pickOrder_perm _ _) ⟨_,hit,.inl ⟨hw,rfl,rfl⟩⟩ push_grow (get_size _)))
  ·have hw':w.params.followText "set-order" = false:=by simpa using hw
   have hdr:(!z.2.2.plain && decide (z.1.size > 1)) = false:=by
    rw [hw'] at hq
    simpa using hq
   exact wpAny_pure (fin _ _ _ hit rfl (h _ s.drawn _ _ .rfl ⟨_,hit,.inr (.inl ⟨hw',hdr,rfl,rfl⟩)⟩ push_grow (get_size _)))
end
end
section
open PySem.SeqAt
noncomputable def keyOf (e:Int × Value):IS:=match e.2 with
 | .int n _=>.i n
 | .str x _=>.s x
 | _=>.i 0
theorem keyOf_is {k:IS} {e:Int × Value} (h:isIS k e.2 = true):keyOf e = k:=by
 obtain ⟨a,v⟩:=e
 rcases isIS_shape h with ⟨n,t,rfl,h2⟩ | ⟨x,t,rfl,h2⟩ <;> (dsimp only at h2; subst h2; rfl)
theorem nodup_perm {α:Type} [DecidableEq α]:∀ {ks l:List α},ks.Nodup→(∀ k∈ks,k∈l)→l.length≤ks.length→List.Perm l ks
 | [],l,_,_,hl=>by
  have:l = []:=by simpa using hl
  subst this; exact .rfl
 | k :: ks,l,hn,hs,hl=>by
  obtain ⟨h1,h2⟩:=List.nodup_cons.mp hn
  have hp:List.Perm l (k :: l.erase k):=List.perm_cons_erase (hs k (by simp))
  refine hp.trans ((nodup_perm h2 (fun x hx=>?_) ?_).cons k)
  ·have:x≠k:=fun e=>h1 (e ▸ hx)
   exact (List.mem_cons.mp (hp.mem_iff.mp (hs x (by simp [hx])))).resolve_left this
  ·have:=hp.length_eq
   simp at this hl
   exact as2 3 (.l Z0 (.a Z1 N1)) (.e Z0 (.a Z2 N1)) (.l Z2 Z1) [_,_,_] hl this
theorem SetInv.keys {prog:Program} {w:World} {z:Raw} {ks:List IS} (I:SetInv prog w z ks):List.Perm (z.1.toList.map keyOf) ks:=by
 refine nodup_perm I.nd (fun k hk=>?_) (by simpa using Nat.le_of_eq I.size)
 obtain ⟨e,he,hi⟩:=(I.mem k).mp hk
 exact List.mem_map.mpr ⟨e,he,keyOf_is hi⟩
section
variable {c:Ctx} {m:Lo} {H:Hp} {pos:Pos} {K:Frag}
structure SetLJ' (c:Ctx) (s:Shared) (H:Hp) (z:Raw) (a it:Addr) (W:List (Int × Value)) (I:Nat→Lo→Hp→Prop) (k:Nat) (s':Shared) (i:Nat) (m':Lo) (H':Hp) (h':Heap) (tk':Tk):Prop where
 p0:s' = (sw s h' tk')
 p1:Rel c ⟨m',H'⟩ s'
 p2:Fp c.env.locals H H' s.heap h'
 p3:Aside c H' h' [it]
 p4:SetJ c.w z a it W (fun T=>T∉dom H'∧T≠c.env.locals∧s.heap.get? T = .none) i h'
 p5:I i m' H'
 p6:i≤W.length
 p7:k = W.length + 1 - i
noncomputable def SetLJ (c:Ctx) (s:Shared) (H:Hp) (z:Raw) (a it:Addr) (W:List (Int × Value)) (I:Nat→Lo→Hp→Prop) (k:Nat) (s':Shared):Prop:=∃ i m' H' h' tk',SetLJ' c s H z a it W I k s' i m' H' h' tk'
theorem SetLJ.use {s:Shared} {z:Raw} {a it:Addr} {W:List (Int × Value)} {I:Nat→Lo→Hp→Prop} {k:Nat} {s':Shared} {G:Shared→Prop} (h:SetLJ c s H z a it W I k s')
  (f:∀ i m' H' h' tk',Rel c ⟨m',H'⟩ (sw s h' tk')→Fp c.env.locals H H' s.heap h'→Aside c H' h' [it]→SetJ c.w z a it W (fun T=>T∉dom H'∧T≠c.env.locals∧s.heap.get? T = .none) i h'→I i m' H'→i≤W.length→k = W.length + 1 - i→G (sw s h' tk')):G s':=by
 obtain ⟨i,m',H',h',tk',rfl,a1,a2,a3,a4,a5,a6,a7⟩:=h
 exact f i m' H' h' tk' a1 a2 a3 a4 a5 a6 a7
theorem s1_for_set {y:Str} {py:Pos} {iter:Expr} {b:List Stmt} {Q:Fl→Lo→Hp→Prop}
  (h:WPe c iter m H fun u m1 H1=>∃ a z ks,u = .ref a∧Sees c H1 a (.set z ks)∧∀ σ:List IS,List.Perm σ ks→∃ I:Nat→Lo→Hp→Prop,I 0 m1 H1 ∧
   (∀ i k m2 H2,σ[i]? = some k→I i m2 H2→Sees c H2 a (.set z ks)∧Asg c (.Name y py) k.v m2 H2 fun m3 H3=>WPs c b m3 H3 fun f m4 H4=>
    match f with | .next | .cont=>I (i + 1) m4 H4 | .brk=>Q .next m4 H4 | .ret v=>Q (.ret v) m4 H4)∧∀ m2 H2,I σ.length m2 H2→Sees c H2 a (.set z ks)∧Q .next m2 H2)
  (hs:autoParam (∀ x,foldedSetIterable iter c.env x = pure x) auFun):WP1 c (.For (.Name y py) iter b [] pos) m H Q:=fun s R P k=>by
 refine wpAny_For (h s R _ fun u va m1 H1 h1 tk1 R1 F1 r1 q1=>?_) hs
 refine cutm fun G hG=>?_
 obtain ⟨a,z,ks,rfl,hx,q⟩:=q1
 cases (r1:va = _)
 obtain ⟨r,Iv⟩:=set_get (hx m1 _ R1)
 refine hG (set_pyIter (Cl:=fun T=>T∉dom H1∧T≠c.env.locals∧s.heap.get? T = .none) r Iv (fun b hb=>⟨(R1.fresh hb).1,(R1.fresh hb).2.1,fresh_back F1 hb⟩) fun h2 d W it hp j hg hf=>?_)
 refine cutm fun G hG=>?_
 have hl:W.length = z.1.size:=hp.length_eq.trans Array.length_toList
 have hσ:List.Perm (W.map keyOf) ks:=(hp.map keyOf).trans Iv.keys
 have hWk:∀ i (e:Int × Value),W[i]? = some e→isIS (keyOf e) e.2 = true:=fun i e he=>by
  obtain ⟨⟨k,hk,_⟩,_⟩:=Iv.el e (hp.mem_iff.mp (List.mem_of_getElem? he))
  have:=keyOf_is (k:=k) hk
  rw [this]; exact hk
 obtain ⟨I,i0,step,fin⟩:=q (W.map keyOf) hσ
 have fr:=R1.fresh hf
 have fr0:∀ b∈[it],s.heap.get? b = .none:=fun b hb=>by rw [List.mem_singleton.mp hb]; exact fresh_back F1 hf
 have hitn:∀ (i:Nat) (h:Heap) (Cl:Addr→Prop),SetJ c.w z a it W Cl i h→∃ o,h.get? it = some o∧NotTup o:=fun i h Cl j=>by
  obtain ⟨first,hi,_⟩:=j
  exact ⟨_,hi,fun _ _ _ q=>by cases q.2⟩
 refine hG (codeAny_forLoop_any (SetLJ c s H z a it W I) ?_ (W.length + 1)
  ⟨0,m1,H1,h2,⟨tk1.toks,d,tk1.gens⟩,rfl,R1.grow ⟨tk1.toks,d,tk1.gens⟩ hg,F1.trans R1.hasL (.grow hg),fun b hb=>by rw [List.mem_singleton.mp hb]; exact ⟨fr.1,fr.2.1,fr.2.2,hitn _ _ _ j⟩,j,i0,Nat.zero_le _,rfl⟩)
 intro k' s' hJ
 refine SetLJ.use (G:=fun s'=>wpAny _ _ (pyNext (.ref it)) _ _ s') hJ fun i m2 H2 h2 tk2 R2 F2 A2 j2 hI hle hkk=>?_
 by_cases hlt:i < W.length
 ·have hW:=List.getElem?_eq_getElem hlt
  obtain ⟨ok,body⟩:=step i (keyOf W[i]) m2 H2 (by rw [List.getElem?_map,hW]; rfl) hI
  obtain ⟨r2,Iv2⟩:=set_get (ok m2 _ R2)
  obtain ⟨oi,hoi,nti⟩:=hitn _ _ _ j2
  have ai:=A2 it (.head _)
  refine (wpAny_mono (SetJ.item (A:=c.A) (E:=fun _ _=>False) j2 r2 Iv2 hW hl fun h3 j3 hs3=>?_) (fun _ _ q=>q) fun _ _ q=>q.elim)
  have R3:=R2.off (h':=h3) tk2 hoi nti ai.1 ai.2.1 ai.2.2.1 (Heap.SameBut.kp hs3)
  have F3:=F2.off fr0 (one_off (Heap.SameBut.kp hs3))
  have A3:=A2.one (hitn _ _ _ j3)
  show wpAny _ _ (letOwnedTupleGo (.Name y py) (.ref it) W[i].2) _ _ _
  refine wpAny_pure ?_
  refine wpAny_mono (body _ _ R3 (rep_isIS (hWk i _ hW)) _ fun _ _ m5 H5 h5 tk5 R5 F5 _ q5=>?_) (fun _ _ q=>q) fun _ _ q=>q.elim
  refine wpAny_mono (q5 _ R5 _ fun f vf m6 H6 h6 tk6 R6 F6 r6 q6=>?_) (fun _ _ q=>q) fun _ _ q=>q.elim
  refine cutm fun G hG=>?_
  have F:=(F3.trans R3.hasL F5).trans R5.hasL F6
  have A5:=A3.step F5
  have A6:=A5.step F6
  have kp:∀ o,h3.get? it = some o→h6.get? it = some o:=fun o e=>by
   have e5:=F5.keep it o (A3 it (.head _)).1 (A3 it (.head _)).2.1 e
   exact F6.keep it o (A5 it (.head _)).1 (A5 it (.head _)).2.1 e5
  have cl:∀ {H1 H2:Hp} {h1 h2:Heap} (F:Fp c.env.locals H1 H2 h1 h2),∀ b o,(b∉dom H1∧b≠c.env.locals∧s.heap.get? b = .none)→h1.get? b = some o→h2.get? b = some o∧(b∉dom H2∧b≠c.env.locals∧s.heap.get? b = .none):=fun F b o q e=>
   ⟨F.keep b o q.1 q.2.1 e,fun hm=>(F.dom b hm).elim q.1 fun n=>(by rw [n] at e; cases e),q.2.1,q.2.2⟩
  have j6:=(j3.keep (fun o e=>F5.keep it o (A3 it (.head _)).1 (A3 it (.head _)).2.1 e) (cl F5)).keep (fun o e=>F6.keep it o (A5 it (.head _)).1 (A5 it (.head _)).2.1 e) (cl F6)
  cases f with
  | next=>cases (r6:vf = .next); exact hG ⟨W.length + 1 - (i + 1),by rw [hkk]; exact as1 2 (.t Z0 Z1) (.t (.s (.a Z1 N1) (.a Z0 N1)) (.s (.a Z1 N1) Z0)) [_,_] hlt,i + 1,m6,H6,h6,tk6,rfl,R6,F,A6,j6,q6,hlt,rfl⟩
  | cont=>cases (r6:vf = .cont); exact hG ⟨W.length + 1 - (i + 1),by rw [hkk]; exact as1 2 (.t Z0 Z1) (.t (.s (.a Z1 N1) (.a Z0 N1)) (.s (.a Z1 N1) Z0)) [_,_] hlt,i + 1,m6,H6,h6,tk6,rfl,R6,F,A6,j6,q6,hlt,rfl⟩
  | brk=>cases (r6:vf = .brk); exact hG (k .next _ m6 H6 h6 tk6 R6 F rfl q6)
  | ret u=>obtain ⟨v,rfl,hv⟩:=r6; exact hG (k (.ret u) _ m6 H6 h6 tk6 R6 F ⟨v,rfl,hv⟩ q6)
 ·have hin:i = W.length:=by exact as2 2 (.l Z0 Z1) (.no (.t Z0 Z1)) (.e Z0 Z1) [_,_] hle hlt
  rw [hin,← List.length_map keyOf] at hI
  rw [hin] at j2
  obtain ⟨ok,q⟩:=fin m2 H2 hI
  obtain ⟨r2,Iv2⟩:=set_get (ok m2 _ R2)
  obtain ⟨oi,hoi,nti⟩:=hitn _ _ _ j2
  have ai:=A2 it (.head _)
  refine (wpAny_mono (SetJ.done (A:=c.A) (E:=fun _ _=>False) c.hh j2 r2 Iv2 hl fun h3 hk3=>?_) (fun _ _ q=>q) fun _ _ q=>q.elim)
  exact wpAny_execs_nil (k .next _ m2 H2 h3 tk2 (R2.off (h':=h3) tk2 hoi nti ai.1 ai.2.1 ai.2.2.1 hk3) (F2.off fr0 (one_off hk3)) rfl q)
end
end
section
open PySem.SeqAt
section
variable {prog:Program} {w:World} {A:Around} {E:Value→Shared→Prop} {s:Shared}
theorem wp_forIn_find {α β:Type} {M:Model} {p:α→Bool} {f:α→β→Sem (ForInStep β)} {b d:β} {Q:β→Shared→Prop}:∀ {l:List α},(∀ x∈l,∀ Q':ForInStep β→Shared→Prop,Q' (if p x then .yield b else .done d) s→wpAny M A (f x b) Q' E s)→Q (if l.all p then b else d) s→wpAny M A (forIn l b f) Q E s
 | [],h,q=>by rw [List.forIn_nil]; exact wpAny_pure q
 | x :: l,h,q=>by
  rw [List.forIn_cons]
  refine wpAny_bind (h x (by simp) _ ?_)
  by_cases hp:p x = true
  ·rw [if_pos hp]
   dsimp only
   refine wp_forIn_find (fun y hy=>h y (by simp [hy])) ?_
   simpa [hp] using q
  ·rw [if_neg hp]
   refine wpAny_pure ?_
   simpa [hp] using q
theorem RawAt.setOf {h:Heap} {a:Addr} {z:Raw} {ks:List IS} (r:RawAt h a z) (I:SetInv prog w z ks):h.SetOf (mixKind prog w) a (fun k=>decide (k∈ks)) ks.length:=by
 obtain ⟨o,ho,hx,hd⟩:=r
 exact ⟨o,_,_,_,ho,hx,hd,I.el,fun k=>by rw [decide_eq_true_eq]; exact I.mem k,I.lt,I.fits,I.size⟩
end
section
variable {c:Ctx} {m:Lo} {H:Hp} {pos:Pos} {Q:V→Lo→Hp→Prop}
end
end
section
open PySem.SeqAt
section
variable {c:Ctx} {m:Lo} {H:Hp} {pos:Pos} {K:Frag}
theorem s1_to {t e:Expr} {Q:Fl→Lo→Hp→Prop} (h:WPe c e m H fun v m1 H1=>Asg c t v m1 H1 (Q .next))
  (ha:autoParam (assignEach [t] c.env = [(false,assign t c.env)]) auRfl) (hs:autoParam (swapsWithSole [t] e pos.line c.env = pure false) auRfl) (hw:autoParam (swappedStores [t] e c.env = pure .none) auRfl):WP1 c (.Assign [t] e pos) m H Q:=fun s R P k=>by
 rw [exec_Assign]
 refine wpAny_bind (wpAny_standAt ?_)
 rw [hs]
 refine wpAny_bind (wpAny_pure ?_)
 rw [if_neg (by decide)]
 refine wpAny_bind (h s R _ fun a va m1 H1 h1 tk1 R1 F1 r1 q1=>?_)
 rw [hw,ha]
 refine wpAny_bind (wpAny_pure ?_)
 show wpAny _ _ (do assign t c.env va; pure Flow.next) _ _ _
 exact wpAny_bind (q1 _ va R1 r1 _ fun _ _ m3 H3 h3 tk3 R3 F3 _ q3=>wpAny_pure (k .next _ m3 H3 h3 tk3 R3 (F1.trans R1.hasL F3) rfl q3))
theorem s1_to2 {t u e:Expr} {Q:Fl→Lo→Hp→Prop} (h:WPe c e m H fun v m1 H1=>Asg c t v m1 H1 fun m2 H2=>Asg c u v m2 H2 (Q .next))
  (ha:autoParam (assignEach [t,u] c.env = [(false,assign t c.env),(false,assign u c.env)]) auRfl) (hs:autoParam (swapsWithSole [t,u] e pos.line c.env = pure false) auRfl) (hw:autoParam (swappedStores [t,u] e c.env = pure .none) auRfl):WP1 c (.Assign [t,u] e pos) m H Q:=fun s R P k=>by
 rw [exec_Assign]
 refine wpAny_bind (wpAny_standAt ?_)
 rw [hs]
 refine wpAny_bind (wpAny_pure ?_)
 rw [if_neg (by decide)]
 refine wpAny_bind (h s R _ fun a va m1 H1 h1 tk1 R1 F1 r1 q1=>?_)
 rw [hw,ha]
 refine wpAny_bind (wpAny_pure ?_)
 show wpAny _ _ ((holding [va] (assign t c.env va) >>= fun _=>assign u c.env va) >>= fun _=>pure Flow.next) _ _ _
 refine wpAny_bind (wpAny_bind (wpAny_holding (q1 _ va R1 r1 _ fun _ _ m3 H3 h3 tk3 R3 F3 _ q3=>?_)))
 exact q3 _ va R3 (R1.lift F3 r1) _ fun _ _ m4 H4 h4 tk4 R4 F4 _ q4=>wpAny_pure (k .next _ m4 H4 h4 tk4 R4 ((F1.trans R1.hasL F3).trans R3.hasL F4) rfl q4)
theorem s1_del {o i:Expr} {p:Pos} {Q:Fl→Lo→Hp→Prop} (h:WPe c o m H fun a m1 H1=>WPe c i m1 H1 fun b m2 H2=>On2 c a b UR delItem m2 H2 fun _=>Q .next):WP1 c (.Delete [.Subscript o i p] pos) m H Q:=fun s R P k=>
 wpAny_Delete (wpAny_deleteEach_cons (wpAny_delete_Subscript (h s R _ fun a va m1 H1 h1 tk1 R1 F1 r1 q1=>q1 _ R1 _ fun b vb m2 H2 h2 tk2 R2 F2 r2 q2=>q2 _ va vb R2 (R1.lift F2 r1) r2 _
  fun _ _ m3 H3 h3 tk3 R3 F3 _ q3=>wpAny_deleteEach_nil (k .next _ m3 H3 h3 tk3 R3 ((F1.trans R1.hasL F2).trans R2.hasL F3) rfl q3))))
noncomputable def IsAt (u v:At) (r:Bool):Prop:=∀ (c:Ctx) (va vb:Value) (s:Shared) (P:Bool→Shared→Prop),u.rep va→v.rep vb→P r s→c.wp (isSame va vb) P s
theorem IsAt.nn:IsAt .none .none true:=fun c va vb s P ra rb h=>by
 cases (ra:va = _); cases (rb:vb = _); exact wpAny_isSame_plain rfl h
theorem IsAt.int {i:Int}:IsAt (.int i) .none false:=fun c va vb s P ra rb h=>by
 obtain ⟨t,rfl⟩:=ra; cases (rb:vb = _); exact wpAny_isSame_plain rfl h
theorem IsAt.ref {a:Addr}:IsAt (.ref a) .none false:=fun c va vb s P ra rb h=>by
 cases (ra:va = _); cases (rb:vb = _); exact wpAny_isSame_plain rfl h
theorem IsAt.self {a:Addr}:IsAt (.ref a) (.ref a) true:=fun c va vb s P ra rb h=>by
 cases (ra:va = _); cases (rb:vb = _); exact wpAny_isSame_ref_self h
variable {Q:V→Lo→Hp→Prop}
theorem c_is {u v:At} {r:Bool} (hr:IsAt u v r) (h:Q (.bool r) m H):Cmp c .Is (.at u) (.at v) m H Q:=fun s va vb R ra rb=>
 .val R h fun P k=>by
  show c.wp (do return .bool (← isSame va vb)) P s
  exact wpAny_bind (hr _ _ _ _ _ ra rb (wpAny_pure (k _ s.toks rfl)))
theorem c_isnot {u v:At} {r:Bool} (hr:IsAt u v r) (h:Q (.bool (!r)) m H):Cmp c .IsNot (.at u) (.at v) m H Q:=fun s va vb R ra rb=>
 .val R h fun P k=>by
  show c.wp (do return .bool (!(← isSame va vb))) P s
  exact wpAny_bind (hr _ _ _ _ _ ra rb (wpAny_pure (k _ s.toks rfl)))
end
end
section
open PySem.SeqAt
noncomputable def pick {α:Type} (xs:List α) (lo hi st:Option Int):List α:=(sliceRange (sliceBounds lo hi st xs.length).1 (sliceBounds lo hi st xs.length).2.1 (sliceBounds lo hi st xs.length).2.2).filterMap (xs[·]?)
theorem pick_array (items:Array Value) (lo hi st:Option Int):slicePick items lo hi st = (pick items.toList lo hi st).toArray:=by
 unfold slicePick pick
 simp
theorem Reps.picks {h:Heap} {xs:List V} {vs:List Value} (r:Reps h xs vs):∀ idx:List Nat,Reps h (idx.filterMap (xs[·]?)) (idx.filterMap (vs[·]?))
 | []=>rfl
 | i :: idx=>by
  cases q:xs[i]? with
  | none=>
   have:vs[i]? = none:=by
    have:=r.length
    rw [List.getElem?_eq_none_iff] at q ⊢
    exact as2 3 (.l Z0 Z1) (.e Z2 Z0) (.l Z2 Z1) [_,_,_] q this
   simp only [List.filterMap_cons,q,this]
   exact Reps.picks r idx
  | some u=>
   obtain ⟨v,hv,hr⟩:=r.get q
   simp only [List.filterMap_cons,q,hv]
   exact ⟨v,_,rfl,hr,Reps.picks r idx⟩
theorem Reps.pick {h:Heap} {xs:List V} {vs:List Value} (r:Reps h xs vs) (lo hi st:Option Int):Reps h (pick xs lo hi st) (pick vs lo hi st):=by
 unfold Mine.pick
 rw [r.length]
 exact r.picks _
section
variable {c:Ctx} {m:Lo} {H:Hp} {pos:Pos} {Q:V→Lo→Hp→Prop}
noncomputable def WPpart (c:Ctx) (e:Option Expr) (m:Lo) (H:Hp) (Q:Option Int→Lo→Hp→Prop):Prop:=match e with
 | none=>Q none m H
 | some e=>WPe c e m H fun u m1 H1=>∃ i,u = .int i∧Q (some i) m1 H1
theorem WPpart.run {e:Option Expr} {Q:Option Int→Lo→Hp→Prop} (h:WPpart c e m H Q) {s:Shared} (R:Rel c ⟨m,H⟩ s) (P:Value→Shared→Prop)
  (k:∀ v lo m' H' h tk,Rel c ⟨m',H'⟩ (sw s h tk)→Fp c.env.locals H H' s.heap h→IsPart v lo→Q lo m' H'→P v (sw s h tk)):c.wp (evalPart e c.env) P s:=by
 cases e with
 | none=>rw [evalPart_none]; exact wpAny_pure (k .none none m H s.heap (tkn s s.toks) R (.refl ..) .none h)
 | some e=>
  rw [evalPart_some]
  refine h s R P fun b v m' H' h tk R' F r q=>?_
  obtain ⟨i,rfl,q⟩:=q
  obtain ⟨t,rfl⟩:=r
  exact k _ (some i) m' H' h tk R' F (.int i t) q
theorem e_slice {v:Expr} {lower upper:Option Expr} {p:Pos} (h:WPe c v m H fun a m1 H1=>WPpart c lower m1 H1 fun lo m2 H2=>WPpart c upper m2 H2 fun hi m3 H3=>∃ l xs,a = .ref l∧Sees c H3 l (.list xs)∧xs.length≤1000000∧∀ x,Q (.ref x) m3 ((x,.list (pick xs lo hi none)) :: H3))
  (ht:autoParam (∀ o r,letTemporaryGo v o r = pure ()) auFun2):WPe c (.Subscript v (.Slice lower upper none p) pos) m H Q:=fun s R P k=>by
 refine wpAny_Subscript_list_slice (h s R _ fun a va m1 H1 h1 tk1 R1 F1 r1 q1=>q1.run R1 _ fun vl lo m2 H2 h2 tk2 R2 F2 pl q2=>q2.run R2 _ fun vu hi m3 H3 h3 tk3 R3 F3 pu q3=>?_) ht
 obtain ⟨l,xs,rfl,hx,hz,q⟩:=q3
 cases (r1:va = _)
 obtain ⟨items,n,hl,hr⟩:=O.list_get (hx m3 _ R3)
 have hlen:=hr.length
 refine ⟨l,items,lo,hi,rfl,IsL.isList hl,?_,pl,pu,?_⟩
 ·rw [← Array.length_toList,hlen]; have:sizeLine = 16777216:=rfl; exact as2 2 (.l Z0 (.n 1000000)) (.e Z1 (.n 16777216)) (.l Z0 Z1) [_,_] hz this
 have g:∀ b o,h3.get? b = some o→((h3.push { cls:=.type "slice",data:=.fields #[vl,vu,.none] }).push { cls:=.type "list",data:=.seq (slicePick items lo hi none) }).get? b = some o:=fun b o e=>push_grow _ _ (push_grow _ _ e)
 have e1:(h3.push { cls:=.type "slice",data:=.fields #[vl,vu,.none] }).objs.size = h3.objs.size + 1:=by simp
 have hn:h3.get? (h3.objs.size + 1) = none:=get_ge (Nat.le_succ _)
 have hN:((h3.push { cls:=.type "slice",data:=.fields #[vl,vu,.none] }).push { cls:=.type "list",data:=.seq (slicePick items lo hi none) }).get? (h3.objs.size + 1) = some { cls:=.type "list",data:=.seq (slicePick items lo hi none) }:=by
  rw [← e1]; exact Heap.get?_push_size _ rfl
 have F:=(F1.trans R1.hasL F2).trans R2.hasL F3
 refine k (.ref (h3.objs.size + 1)) _ m3 _ _ tk3 (R3.new tk3 g hn (o:=.list (pick xs lo hi none)) (O.list_mk (n:=0) hN ?_)) (F.trans R3.hasL (.new g hn)) rfl (q _)
 have e2:(slicePick items lo hi none).toList = pick items.toList lo hi none:=by rw [pick_array]
 rw [e2]
 exact (R3.liftL (.grow (H:=H3) g) hr).pick lo hi none
end
theorem picks_run {α:Type} (xs:List α) (a:Nat):∀ n,((List.range n).map (a + ·)).filterMap (xs[·]?) = (xs.drop a).take n
 | 0=>by simp
 | n + 1=>by
  rw [List.range_succ,List.map_append,List.filterMap_append,picks_run xs a n,List.take_succ,List.getElem?_drop]
  simp only [List.map_cons,List.map_nil,List.filterMap_cons,List.filterMap_nil]
  cases xs[a + n]? <;> rfl
theorem pick_from {α:Type} (xs:List α) (a:Nat):pick xs (some a) none none = xs.drop a:=by
 have e:sliceBounds (some (a:Int)) none none xs.length = (((min a xs.length:Nat):Int),(xs.length:Int),1):=by
  simp only [sliceBounds,Option.getD_none]
  have h1:¬ ((a:Int) < 0):=Int.not_lt.mpr (Int.natCast_nonneg a)
  simp only [h1,if_false,show (1:Int) > 0 by decide,if_true]
  congr 1
  exact in_clip
 unfold pick
 rw [e]
 simp only [sliceRange_one,picks_run]
 rw [List.take_of_length_le (by simp)]
 rcases Nat.le_total a xs.length with q | q
 ·rw [Nat.min_eq_left q]
 ·rw [Nat.min_eq_right q,List.drop_length,List.drop_eq_nil_of_le q]
theorem pick_upto {α:Type} (xs:List α) (b:Nat):pick xs none (some b) none = xs.take b:=by
 have e:sliceBounds none (some (b:Int)) none xs.length = (((0:Nat):Int),((min b xs.length:Nat):Int),1):=by
  simp only [sliceBounds,Option.getD_none]
  have h2:¬ ((b:Int) < 0):=Int.not_lt.mpr (Int.natCast_nonneg b)
  simp only [h2,if_false,show (1:Int) > 0 by decide,if_true]
  congr 1
  congr 1; exact in_clip
 unfold pick
 rw [e]
 simp only [sliceRange_one,picks_run]
 simp only [List.drop_zero,Nat.sub_zero]
 rcases Nat.le_total b xs.length with q | q
 ·rw [Nat.min_eq_left q]
 ·rw [Nat.min_eq_right q,List.take_length,List.take_of_length_le q]
theorem pick_all {α:Type} (xs:List α):pick xs none none none = xs:=by
 have e:sliceBounds none none none xs.length = (((0:Nat):Int),(xs.length:Int),1):=by
  simp only [sliceBounds,Option.getD_none]
  simp
 unfold pick
 rw [e]
 simp only [sliceRange_one,picks_run]
 simp
end
section
open PySem.SeqAt
section
variable {c:Ctx} {m:Lo} {H:Hp} {pos:Pos}
noncomputable def SetI (c:Ctx) (a b v:V) (m:Lo) (H:Hp) (Q:Lo→Hp→Prop):Prop:=∀ s va vb vv,Rel c ⟨m,H⟩ s→a.rep s.heap va→b.rep s.heap vb→v.rep s.heap vv→Run c H s UR (setItem va vb vv) fun _=>Q
theorem asg_sub {o i:Expr} {v:V} {Q:Lo→Hp→Prop} (h:WPe c o m H fun a m1 H1=>WPe c i m1 H1 fun b m2 H2=>SetI c a b v m2 H2 Q):Asg c (.Subscript o i pos) v m H Q:=fun s vv R rv P k=>by
 show c.wp (assign (.Subscript o i pos) c.env vv) P s
 rw [assign_Subscript]
 refine wpAny_bind (wpAny_holding (h s R _ fun a va m1 H1 h1 tk1 R1 F1 r1 q1=>?_))
 have rv1:=R.lift F1 rv
 refine wpAny_bind (wpAny_holding (q1 _ R1 _ fun b vb m2 H2 h2 tk2 R2 F2 r2 q2=>?_))
 refine wpAny_bind (wpAny_standAt (wpAny_bind (wpAny_holding (q2 _ va vb vv R2 (R1.lift F2 r1) r2 (R1.lift F2 rv1) _ fun x y m3 H3 h3 tk3 R3 F3 r3 q3=>?_))))
 exact wpAny_release (k x _ m3 H3 h3 tk3 R3 ((F1.trans R1.hasL F2).trans R2.hasL F3) trivial q3)
end
end
section
open PySem.SeqAt
section
variable {c:Ctx} {m:Lo} {H:Hp} {pos:Pos} {Q:V→Lo→Hp→Prop} {K:Frag}
noncomputable abbrev lamEnv (fd:FuncData) (L a:Addr):Env:=newEnv fd.scope L fd.globals fd.closure (fd.qualname ++ ".<locals>.") (some a) fd.code none fd.builtins
noncomputable def Ctx.lam (c:Ctx) (fd:FuncData) (a L:Addr) (k:Nat) (hf:c.fuel = k + 1) (hk:fd.scope.kind = .function):Ctx:=
 ⟨c.prog,c.w,c.A.deeper (lamEnv fd L a),lamEnv fd L a,c.G,k,c.hh,(by have:=c.hd; rw [hf] at this; show c.A.depth + 1 + k < recursionLimit; exact as1 3 (.t (.a Z0 (.a Z1 N1)) Z2) (.t (.a (.a Z0 N1) Z1) Z2) [_,_,_] this),
  (by have:=c.hu; rw [hf] at this; show c.A.units + 3 + 40 * k + 400 < cLine; exact as1 3 (.t (.a (.a Z0 (.m 40 (.a Z1 N1))) (.n 400)) Z2) (.t (.a (.a (.a Z0 (.n 3)) (.m 40 Z1)) (.n 400)) Z2) [_,_,_] this),hk⟩
theorem brep_look {h:Heap}:∀ {bs:List (Str × V)} {binds:List (Str × Value)},BRep h bs binds→∀ x u,bs.lookup x = some u→∃ v,binds.lookup x = some v∧u.rep h v
 | [],_,b,x,u,e=>by cases e
 | (y,w) :: bs,_,b,x,u,e=>by
  obtain ⟨v,r,rfl,hv,hr⟩:=b.cons
  rw [List.lookup_cons] at e ⊢
  cases q:x == y with
  | true=>rw [q] at e; cases e; exact ⟨v,rfl,hv⟩
  | false=>rw [q] at e; exact brep_look hr x u e
theorem reps_rev {h:Heap} {xs:List V} {vs:List Value} (r:Reps h xs vs):Reps h xs.reverse vs.reverse:=by
 induction xs generalizing vs with
 | nil=>cases (r:vs = []); rfl
 | cons x xs ih=>
  obtain ⟨v,r',rfl,hv,hr⟩:=r
  rw [List.reverse_cons,List.reverse_cons]
  exact (ih hr).append (.one hv)
theorem brep_rev {h:Heap} {bs:List (Str × V)} {binds:List (Str × Value)} (b:BRep h bs binds):BRep h bs.reverse binds.reverse:=
 ⟨by rw [List.map_reverse,List.map_reverse,b.1],by rw [List.map_reverse,List.map_reverse]; exact reps_rev b.2⟩
theorem cal_lam {fa:Addr} {ob:Obj} {fd:FuncData} {body:Expr} {vs:List V} {bs:List (Str × V)} {k:Nat} (hfu:c.fuel = k + 1) (hf:Sees c H fa (.obj ob)) (hd:ob.data = .func fd)
  (hcd:∀ m s,Rel c ⟨m,H⟩ s→s.heap.CodeRec fd.code fd.qualname)
  (hlim:c.Knows Heap.NoLimit) (hbody:fd.body = .expr body) (hk:fd.scope.kind = .function) (hco:fd.scope.isCoroutine = false) (hgen:fd.scope.isGenerator = false) (hcell:∀ x∈fd.scope.names,x.2≠.cell)
  (hbind:∀ m H s vvs,Rel c ⟨m,H⟩ s→Reps s.heap vs vvs→∃ binds,BindsTo s fd ⟨vvs,[]⟩ binds∧BRep s.heap bs binds)
  (hkind:∀ x∈bs,fd.scope.names.lookup x.1 = some .local)
  (h:∀ L,WPe (c.lam fd fa L k hfu hk) body bs.reverse H fun u _ H'=>Q u m H'):CalC c (.ref fa) vs m H Q:=fun s vf vvs R rf rv P kont=>by
 cases (rf:vf = _)
 obtain ⟨ho,_⟩:=hf m s R
 obtain ⟨binds,hb,br⟩:=hbind m H s vvs R rv
 have hkd:∀ x∈binds,fd.scope.names.lookup x.1 = some .local:=fun x hx=>by
  have:x.1∈bs.map (·.1):=br.1 ▸ List.mem_map.mpr ⟨x,hx,rfl⟩
  obtain ⟨y,hy,e⟩:=List.mem_map.mp this
  have:=hkind y hy
  rw [e] at this
  exact this
 refine kla_callFunE (Nat.lt_of_le_of_lt (Nat.le_add_right _ _) c.hd) ho hd hco hgen hbody (hcd m s R) ?_
 refine hb _ _ _ _ ?_
 refine wpAny_newFunctionEnv hcell hkd (fun h₁ hns hsb=>?_) hk
 have hg:∀ b o,s.heap.get? b = some o→h₁.get? b = some o:=fun b o e=>(hsb.2 b (Nat.ne_of_lt (Heap.lt_size e))).trans (push_grow b o e)
 refine ⟨(hlim s.heap R.keep).keeps hg,kla_codeExpr ?_⟩
 generalize hL:s.heap.objs.size = L at *
 have fresh:s.heap.get? L = .none:=hL ▸ get_size _
 have fr:=R.fresh fresh
 have br₁:BRep h₁ bs binds:=⟨br.1,R.liftL (Fp.grow hg) br.2⟩
 have R₁:Rel (c.lam fd fa L k hfu hk) ⟨bs.reverse,H⟩ (sw s h₁ (tkn s (s.toks + binds.length))):=by
  refine ⟨⟨_,hns,fun y u e=>brep_look (brep_rev br₁) y u e⟩,fun a o hm=>O.rep_keep (R.obj a o hm) R (Fp.grow hg) fun ob e=>hg _ _ e,R.nd,fun a ha=>⟨fun e=>?_,(R.apart a ha).2⟩,fun b o e=>hg b o (R.keep b o e),fr.2.2,R.bare⟩
  have e':a = L:=e
  exact fr.1 (e' ▸ ha)
 have hLL:c.env.locals≠L:=fr.2.1.symm
 refine wpAny_mono (h L _ R₁ _ fun u v m' H' h₂ tk₂ R₂ F₂ r₂ q₂=>?_) (fun _ _ q=>q) fun _ _ q=>q.elim
 have F₂':Fp L H H' h₁ h₂:=F₂
 have out:∀ b o,b∉dom H→s.heap.get? b = some o→h₂.get? b = some o:=fun b o hb e=>
  F₂'.keep b o hb (fun q=>by subst q; rw [fresh] at e; cases e) (hg b o e)
 have F:Fp c.env.locals H H' s.heap h₂:=by
  refine ⟨fun b o hb _ e=>out b o hb e,fun b hb=>?_,fun b o e=>F₂'.alive b o (hg b o e)⟩
  rcases F₂'.dom b hb with q | q
  ·exact .inl q
  ·cases e:s.heap.get? b with
   | none=>exact .inr rfl
   | some o=>rw [hg b o e] at q; cases q
 have RR:Rel c ⟨m,H'⟩ (sw s h₂ tk₂):=by
  refine R.change tk₂ F ?_ R₂.obj R₂.nd R₂.bare
  obtain ⟨m',hn,q⟩:=R.loc
  obtain ⟨oL,es,ep,hoL,rL⟩:=hn
  exact ⟨m',⟨oL,es,ep,out _ _ (fun q=>(R.apart _ q).1 rfl) hoL,rL⟩,fun x u e=>let ⟨v,h1,h2⟩:=q x u e; ⟨v,h1,V.rep_fp h2 R F⟩⟩
 exact kont u v m H' h₂ tk₂ RR F r₂ q₂
end
end
section
open PySem.SeqAt
section
variable {c:Ctx} {m:Lo} {H:Hp} {pos:Pos} {Q:V→Lo→Hp→Prop} {K:Frag}
structure LamBase (c:Ctx) (mg:Str→Option Value) (cc P:Addr):Prop where
 glo:c.Knows fun h=>h.Ns mainGlobals mg
 bm:c.Knows fun h=>∃ bm ob,mg "__builtins__" = some (.ref bm)∧bm≠builtinsNs∧h.get? bm = some ob∧ob.cls = .type "module"∧ob.dict = some builtinsNs∧ob.data = .plain
 code:c.Knows fun h=>CodeHd h cc P
 hc:c.env.code = .ref cc
 hg:c.env.globals = mainGlobals
theorem Rel.adopt {st:St} {s:Shared} {a:Addr} {o:O} (R:Rel c st s) (h1:a∉dom st.H) (h2:a≠c.env.locals) (h3:c.G a = .none) (ho:o.rep c.prog c.w s.heap a):Rel c ⟨st.m,(a,o) :: st.H⟩ s:=
 ⟨R.loc,fun b ob hb=>by
  rcases List.mem_cons.mp hb with e | e
  ·cases e; exact ho
  ·exact R.obj b ob e,List.nodup_cons.mpr ⟨h1,R.nd⟩,fun b hb=>by
  rcases List.mem_cons.mp hb with e | e
  ·cases (e:b = a); exact ⟨h2,h3⟩
  ·exact R.apart b e,R.keep,R.gl,R.bare⟩
theorem e_lambda {params:Arguments} {body:Expr} {scope:Scope} {clos:List (Str × Addr)} {mg:Str→Option Value} {cc P:Addr} {ps:Array Value} {F:O→Hp} (B:LamBase c mg cc P) (hdef:defaultsOf params c.env = ([],[])) (hcl:closureFor scope c.env = pure clos)
  (sp:Spot P (.obj (tabObj ps)) H F) (ht:TriplesOk ps.toList) (hnf:codeAmong pos ps.toList = none)
  (h:∀ f c' oc ctv vs t ps',oc.data = .fields vs→vs[1]? = some (.str (c.env.qual ++ "<lambda>") t)→Q (.ref f) m ((f,.obj (kla_obj "<lambda>" (c.env.qual ++ "<lambda>") params body scope clos ((mg "__name__").getD .none) c' ctv)) :: (c',.obj oc) :: F (.obj (tabObj ps')))) :
  WPe c (.Lambda params body scope pos) m H Q:=fun s R Pk k=>by
 have hP:=(R.obj _ _ (sp.upd (.obj (tabObj ps))).mem).1
 obtain ⟨bm,ob,b1,b2,b3,b4,b5,b6⟩:=B.bm s.heap R.keep
 have hgs:=B.glo s.heap R.keep
 have hgP:mainGlobals≠P:=fun q=>by
  obtain ⟨o,es,ep,e,hd,_⟩:=hgs
  rw [q,hP] at e; cases e; cases hd
 have hbP:bm≠P:=fun q=>by rw [q,hP] at b3; cases b3; cases b4
 have hbG:bm≠mainGlobals:=fun q=>by
  obtain ⟨o,es,ep,e,hd,_⟩:=hgs
  rw [q,e] at b3; cases b3; rw [hd] at b6; cases b6
 refine kla_eval hdef (kla_makeFunction (mg:=mg) hcl B.hg hgs B.hc (B.code s.heap R.keep) hP ht hnf hgP ⟨bm,ob,b1,b2,hbG,hbP,b3,b4,b5,b6⟩ fun c' ctv h' tk hx hge hlt hrec htb=>?_)
 obtain ⟨c₂,oc,vs,t,e2,hoc,hd,hv⟩:=hrec
 cases e2
 have al:∃ o,h'.get? P = some o:=⟨_,htb⟩
 have hkp:∀ b o,b≠P→s.heap.get? b = some o→h'.get? b = some o:=fun b o hb e=>hx b o hb e
 have R1:=R.upd (h':=h') (tkn s tk) (sp.upd (.obj (tabObj (ps ++ #[rawInt pos.line,rawInt pos.col,.ref c'])))) hkp al fun _=>⟨htb,by unfold Mine.Obj.fixed; trivial⟩
 have hc0:s.heap.get? c' = .none:=get_ge hge
 have frc:=R.fresh hc0
 have hdom:=(sp.upd (.obj (tabObj (ps ++ #[rawInt pos.line,rawInt pos.col,.ref c'])))).dom
 have R2:=R1.adopt (a:=c') (o:=.obj oc) (fun q=>frc.1 (hdom ▸ q)) frc.2.1 frc.2.2 ⟨hoc,by unfold Mine.Obj.fixed; rw [hd]; trivial⟩
 have R3:=R2.new (h':=h'.push (kla_obj "<lambda>" (c.env.qual ++ "<lambda>") params body scope clos ((mg "__name__").getD .none) c' ctv)) (tkn s tk) (a:=h'.objs.size) (o:=.obj (kla_obj "<lambda>" (c.env.qual ++ "<lambda>") params body scope clos ((mg "__name__").getD .none) c' ctv)) push_grow (get_size h') ⟨Heap.get?_push_size _ rfl,by unfold Mine.Obj.fixed; trivial⟩
 have hPd:P∈dom H:=List.mem_map.mpr ⟨_,(sp.upd (.obj (tabObj ps))).mem,rfl⟩
 have hf0:s.heap.get? h'.objs.size = .none:=get_ge (Nat.le_of_lt (Nat.lt_of_le_of_lt hge hlt))
 refine k (.ref h'.objs.size) _ m _ _ (tkn s tk) R3 ⟨fun b o hb _ e=>push_grow _ _ (hkp b o (fun q=>hb (q ▸ hPd)) e),fun b hb=>?_,fun b o e=>?_⟩ rfl (h _ c' oc ctv vs t _ hd hv)
 ·rcases List.mem_cons.mp hb with q | hb
  ·cases (q:b = h'.objs.size); exact .inr hf0
  ·rcases List.mem_cons.mp hb with q | hb
   ·cases (q:b = c'); exact .inr hc0
   ·exact .inl (hdom ▸ hb)
 ·by_cases q:b = P
  ·subst q; exact ⟨_,push_grow _ _ htb⟩
  ·exact ⟨o,push_grow _ _ (hkp b o q e)⟩
end
end
section
open PySem.SeqAt
theorem noBool_fn:typeLookup (.type "function") "__bool__" = pure none:=by rw [typeLookup_type,builtinLookup_eq_fast]; kernel_rfl
theorem noLen_fn:typeLookup (.type "function") "__len__" = pure none:=by rw [typeLookup_type,builtinLookup_eq_fast]; kernel_rfl
section
variable {c:Ctx} {m:Lo} {H:Hp} {pos:Pos}
theorem keep_fn {f:Addr} {ob:Obj} {fd:FuncData} (hx:Sees c H f (.obj ob)) (hd:ob.data = .func fd):KeepOk c (.ref f) H:=fun m s vf R r=>by
 cases (r:vf = _)
 obtain ⟨ho,_⟩:=hx m s R
 obtain ⟨a,b,d,e⟩:=ob
 dsimp only at hd
 subst hd
 exact keeps_F _ ⟨_,_,_,_,ho⟩
theorem tru_fn {f:Addr} {ob:Obj} {Q:Bool→Lo→Hp→Prop} (hx:Sees c H f (.obj ob)) (hc:ob.cls = .type "function") (h:Q true m H):Tru c (.ref f) m H Q:=fun s va R r=>by
 cases (r:va = _)
 obtain ⟨ho,_⟩:=hx m s R
 have hT:s.TypeIs (.ref f) "function":=⟨ob,ho,hc⟩
 refine .val R h fun P k=>?_
 unfold truthy
 first
  | refine wpAny_bind (wpAny_callSpecial?_none (name:=Str.ofString "__bool__") hT noBool_fn ?_)
  | refine wpAny_bind (wpAny_pure (wpAny_bind (wpAny_callSpecial?_none (name:=Str.ofString "__bool__") hT noBool_fn ?_)))
 first
  | refine wpAny_bind (wpAny_specialOf (name:=Str.ofString "__len__") hT noLen_fn ?_)
  | refine wpAny_bind (wpAny_pure (wpAny_bind (wpAny_specialOf (name:=Str.ofString "__len__") hT noLen_fn ?_)))
 exact wpAny_pure (k true s.toks rfl)
end
end
section
open PySem.SeqAt
section
variable {c:Ctx} {m:Lo} {H:Hp} {pos:Pos} {Q:V→Lo→Hp→Prop}
end
end
noncomputable abbrev Grp:=List (IS × List Int)
noncomputable def places (bs:List IS) (k:IS):List Int:=((List.range bs.length).filter fun i=>decide (bs[i]? = some k)).map fun (i:Nat)=>(i:Int)
noncomputable def addPos (g:Grp) (k:IS) (i:Int):Grp:=if k∈g.map (·.1) then g.map fun p=>if p.1 = k then (p.1,p.2 ++ [i]) else p else g ++ [(k,[i])]
noncomputable def grpTo (bs:List IS):Nat→Grp
 | 0=>[]
 | n + 1=>match bs[n]? with
  | some k=>addPos (grpTo bs n) k n
  | none=>grpTo bs n
noncomputable def grp (bs:List IS):Grp:=grpTo bs bs.length
theorem grpTo_some {bs:List IS} {n:Nat} {k:IS} (h:bs[n]? = some k):grpTo bs (n + 1) = addPos (grpTo bs n) k n:=by
 show (match bs[n]? with | some k=>addPos (grpTo bs n) k n | none=>grpTo bs n) = _
 rw [h]
theorem grpTo_none {bs:List IS} {n:Nat} (h:bs[n]? = none):grpTo bs (n + 1) = grpTo bs n:=by
 show (match bs[n]? with | some k=>addPos (grpTo bs n) k n | none=>grpTo bs n) = _
 rw [h]
noncomputable def placesTo (bs:List IS) (n:Nat) (k:IS):List Int:=((List.range n).filter fun i=>decide (bs[i]? = some k)).map fun (i:Nat)=>(i:Int)
theorem addPos_keys (g:Grp) (k:IS) (i:Int):(addPos g k i).map (·.1) = if k∈g.map (·.1) then g.map (·.1) else g.map (·.1) ++ [k]:=by
 unfold addPos
 split
 ·rw [List.map_map]
  apply List.map_congr_left
  intro p _
  simp only [Function.comp]
  split <;> rfl
 ·simp
theorem placesTo_succ (bs:List IS) (n:Nat) (k:IS):placesTo bs (n + 1) k = placesTo bs n k ++ (if bs[n]? = some k then [(n:Int)] else []):=by
 unfold placesTo
 rw [List.range_succ,List.filter_append,List.map_append]
 congr 1
 by_cases h:bs[n]? = some k
 ·simp [h]
 ·simp [h]
structure IsGrp (bs:List IS) (n:Nat) (g:Grp):Prop where
 nd:(g.map (·.1)).Nodup
 mem:∀ k,k∈g.map (·.1) ↔ ∃ i,i < n∧bs[i]? = some k
 at_:∀ p∈g,p.2 = placesTo bs n p.1
theorem isGrp_to (bs:List IS):∀ n,n≤bs.length→IsGrp bs n (grpTo bs n)
 | 0,_=>⟨List.nodup_nil,fun k=>⟨fun h=>(nomatch (h:k∈([]:List IS))),fun ⟨i,h,_⟩=>absurd h (Nat.not_lt_zero i)⟩,fun p hp=>(nomatch (hp:p∈([]:Grp)))⟩
 | n + 1,hn=>by
  have ih:=isGrp_to bs n (by exact as1 2 (.l (.a Z0 N1) Z1) (.l Z0 Z1) [_,_] hn)
  have hlt:n < bs.length:=by exact as1 2 (.l (.a Z0 N1) Z1) (.t Z0 Z1) [_,_] hn
  have e:bs[n]? = some bs[n]:=by simp [hlt]
  have hg:grpTo bs (n + 1) = addPos (grpTo bs n) bs[n] n:=grpTo_some e
  rw [hg]
  generalize hk:bs[n] = k at *
  generalize grpTo bs n = g at *
  refine ⟨?_,fun j=>?_,fun p hp=>?_⟩
  ·rw [addPos_keys]
   split
   ·exact ih.nd
   ·rename_i hm
    rw [List.nodup_append]
    exact ⟨ih.nd,by simp,fun a ha b hb=>by simp at hb; subst hb; intro q; exact hm (q ▸ ha)⟩
  ·rw [addPos_keys]
   have key:(∃ i,i < n + 1∧bs[i]? = some j) ↔ (∃ i,i < n∧bs[i]? = some j) ∨ j = k:=by
    constructor
    ·rintro ⟨i,hi,h⟩
     by_cases q:i = n
     ·subst q; rw [e] at h; cases h; exact .inr rfl
     ·exact .inl ⟨i,by exact as2 2 (.t Z0 (.a Z1 N1)) (.no (.e Z0 Z1)) (.t Z0 Z1) [_,_] hi q,h⟩
    ·rintro (⟨i,hi,h⟩ | rfl)
     ·exact ⟨i,by exact as1 2 (.t Z0 Z1) (.t Z0 (.a Z1 N1)) [_,_] hi,h⟩
     ·exact ⟨n,by exact as0 1 (.t Z0 (.a Z0 N1)) [_],e⟩
   rw [key,← ih.mem j]
   split
   ·rename_i hm
    exact ⟨.inl,fun q=>q.elim id fun q=>q ▸ hm⟩
   ·simp
  ·rw [placesTo_succ]
   unfold addPos at hp
   split at hp
   ·obtain ⟨q,hq,rfl⟩:=List.mem_map.mp hp
    split
    ·rename_i h1
     dsimp only
     rw [ih.at_ q hq,h1,e]
     simp
    ·rename_i h1
     rw [ih.at_ q hq,e]
     have:¬ (some k = some q.1):=fun h=>h1 (by injection h with h; exact h.symm)
     simp [this]
   ·rename_i hm
    rcases List.mem_append.mp hp with hq | hq
    ·rw [ih.at_ p hq,e]
     have:¬ (some k = some p.1):=fun h=>hm (by injection h with h; rw [h]; exact List.mem_map.mpr ⟨p,hq,rfl⟩)
     simp [this]
    ·simp at hq
     subst hq
     dsimp only
     rw [e]
     have:placesTo bs n k = []:=by
      unfold placesTo
      rw [List.map_eq_nil_iff,List.filter_eq_nil_iff]
      intro i hi
      simp only [decide_eq_true_eq]
      intro h
      exact hm ((ih.mem k).mpr ⟨i,by simpa using hi,h⟩)
     simp [this]
theorem isGrp (bs:List IS):IsGrp bs bs.length (grp bs):=isGrp_to bs _ (Nat.le_refl _)
theorem Upd.mid {a:Addr} {o o':O} {r:Hp}:∀ (l:Hp),Upd a o o' (l ++ (a,o) :: r) (l ++ (a,o') :: r)
 | []=>.head r
 | p :: l=>.tail (Upd.mid l)
theorem Less.perm {m:Lo} {H H':Hp} (p:List.Perm H' H):Less m H m H':=⟨fun _ _ e=>e,fun q hq=>p.mem_iff.mp hq,fun nd=>(p.map (·.1)).nodup_iff.mpr nd⟩
noncomputable abbrev GL:=List (IS × Addr × List Int)
noncomputable def gD (G:GL):List (IS × V):=G.map fun e=>(e.1,.ref e.2.1)
noncomputable def gL (G:GL):Hp:=G.map fun e=>(e.2.1,.list (e.2.2.map .int))
noncomputable def gP (G:GL):Grp:=G.map fun e=>(e.1,e.2.2)
theorem gP_keys (G:GL):(gP G).map (·.1) = G.map (·.1):=by unfold gP; rw [List.map_map]; rfl
theorem gD_keys (G:GL):(gD G).map (·.1) = G.map (·.1):=by unfold gD; rw [List.map_map]; rfl
theorem find_none_gD {G:GL} {k:IS} (h:k∉G.map (·.1)):(gD G).find? (fun e=>decide (e.1 = k)) = .none:=by
 rw [List.find?_eq_none]
 intro e he q
 have:e.1∈(gD G).map (·.1):=List.mem_map.mpr ⟨e,he,rfl⟩
 rw [gD_keys] at this
 simp at q
 exact h (q ▸ this)
theorem dictAt_gD_none {G:GL} {k:IS} (h:k∉G.map (·.1)):dictAt (gD G) k = .none:=by
 unfold dictAt; rw [find_none_gD h]; rfl
theorem dictAt_gD_mid {G1 G2:GL} {k:IS} {a:Addr} {ps:List Int} (h:k∉G1.map (·.1)):dictAt (gD (G1 ++ (k,a,ps) :: G2)) k = some (.ref a):=by
 have e:gD (G1 ++ (k,a,ps) :: G2) = gD G1 ++ (k,.ref a) :: gD G2:=by unfold gD; simp
 unfold dictAt
 rw [e,List.find?_append,find_none_gD h]
 simp
theorem split_key {G:GL} {k:IS} (h:k∈G.map (·.1)):∃ G1 a ps G2,G = G1 ++ (k,a,ps) :: G2∧k∉G1.map (·.1):=by
 induction G with
 | nil=>simp at h
 | cons e G ih=>
  obtain ⟨k',a,ps⟩:=e
  by_cases q:k' = k
  ·subst q; exact ⟨[],a,ps,G,rfl,by simp⟩
  ·have:k∈G.map (·.1):=by
    rcases List.mem_cons.mp h with e | e
    ·exact absurd e.symm q
    ·exact e
   obtain ⟨G1,b,qs,G2,rfl,hn⟩:=ih this
   refine ⟨(k',a,ps) :: G1,b,qs,G2,rfl,?_⟩
   intro hm
   rcases List.mem_cons.mp hm with e | e
   ·exact q e.symm
   ·exact hn e
theorem addPos_mid {G1 G2:GL} {k:IS} {a:Addr} {ps:List Int} {i:Int} (h1:k∉G1.map (·.1)) (h2:k∉G2.map (·.1)):addPos (gP (G1 ++ (k,a,ps) :: G2)) k i = gP (G1 ++ (k,a,ps ++ [i]) :: G2):=by
 have hm:k∈(gP (G1 ++ (k,a,ps) :: G2)).map (·.1):=by rw [gP_keys]; simp
 unfold addPos
 rw [if_pos hm]
 have no:∀ G:GL,k∉G.map (·.1)→(gP G).map (fun p=>if p.1 = k then (p.1,p.2 ++ [i]) else p) = gP G:=fun G hG=>by
  unfold gP
  rw [List.map_map]
  apply List.map_congr_left
  intro e he
  have:e.1≠k:=fun q=>hG (q ▸ List.mem_map.mpr ⟨e,he,rfl⟩)
  simp [this]
 have e1:∀ (x:IS × Addr × List Int),gP (G1 ++ x :: G2) = gP G1 ++ (x.1,x.2.2) :: gP G2:=fun x=>by unfold gP; simp
 rw [e1,e1,List.map_append,List.map_cons,no G1 h1,no G2 h2]
 simp
theorem addPos_new {G:GL} {k:IS} {a:Addr} {i:Int} (h:k∉G.map (·.1)):addPos (gP G) k i = gP (G ++ [(k,a,[i])]):=by
 unfold addPos
 rw [if_neg (by rw [gP_keys]; exact h)]
 unfold gP
 simp
theorem addPos_len (g:Grp) (k:IS) (i:Int):(addPos g k i).length≤g.length + 1:=by unfold addPos; split <;> simp
theorem grpTo_len (bs:List IS):∀ n,(grpTo bs n).length≤n
 | 0=>Nat.le_refl 0
 | n + 1=>by
  have:=grpTo_len bs n
  cases e:bs[n]? with
  | some k=>rw [grpTo_some e]; exact Nat.le_trans (addPos_len (grpTo bs n) k n) (Nat.succ_le_succ this)
  | none=>
   rw [grpTo_none e]
   exact as1 2 (.l Z0 Z1) (.l Z0 (.a Z1 N1)) [_,_] this
theorem placesTo_len (bs:List IS) (n:Nat) (k:IS):(placesTo bs n k).length≤n:=by
 unfold placesTo
 rw [List.length_map]
 exact Nat.le_trans (List.length_filter_le _ _) (by simp)
theorem gP_len (G:GL):(gP G).length = G.length:=by unfold gP; simp
theorem gD_len (G:GL):(gD G).length = G.length:=by unfold gD; simp
theorem gL_mid (G1 G2:GL) (e:IS × Addr × List Int) (R:Hp):gL (G1 ++ e :: G2) ++ R = gL G1 ++ (e.2.1,.list (e.2.2.map .int)) :: (gL G2 ++ R):=by unfold gL; simp
theorem grpTo_succ {bs:List IS} {n:Nat} {k:IS} (h:bs[n]? = some k):grpTo bs (n + 1) = addPos (grpTo bs n) k n:=grpTo_some h
theorem look_skip {x y:Str} {u:V} {l:List (Str × V)} (h:(x == y) = false):((y,u) :: l).lookup x = l.lookup x:=by rw [List.lookup_cons,h]
theorem dictAt_mem {es:List (IS × V)} {k:IS} (h:k∈es.map (·.1)):∃ u,dictAt es k = some u:=by
 obtain ⟨e,he,rfl⟩:=List.mem_map.mp h
 unfold dictAt
 cases q:es.find? fun e'=>decide (e'.1 = e.1) with
 | none=>rw [List.find?_eq_none] at q; exact absurd (q e he) (by simp)
 | some x=>exact ⟨x.2,rfl⟩
theorem take_not {σ:List IS} (nd:σ.Nodup) {i:Nat} {k:IS} (h:σ[i]? = some k):k∉σ.take i:=fun hm=>by
 have hi:i < σ.length:=by
  rcases Nat.lt_or_ge i σ.length with q | q
  ·exact q
  ·rw [List.getElem?_eq_none q] at h; cases h
 rw [← List.take_append_drop i σ] at nd
 refine (List.nodup_append.mp nd).2.2 k hm k ?_ rfl
 rw [List.drop_eq_getElem_cons hi]
 simp [hi] at h
 simp [h]
theorem gL_mem {G:GL} {g:IS × Addr × List Int} (h:g∈G):(g.2.1,O.list (g.2.2.map .int))∈gL G:=List.mem_map.mpr ⟨g,h,rfl⟩
inductive CLoc (x:Str) (a:Addr):List (Str × Addr)→Prop
 | head (m:List (Str × Addr)):CLoc x a ((x,a) :: m)
 | tail {y:Str} {b:Addr} {m:List (Str × Addr)}:x≠y→CLoc x a m→CLoc x a ((y,b) :: m)
theorem CLoc.eq {x:Str} {a:Addr} {m:List (Str × Addr)} (h:CLoc x a m):m.lookup x = some a:=by
 induction h with
 | head m=>simp [List.lookup]
 | @tail y w m hne _ ih=>
  rw [List.lookup_cons]
  have:(x == y) = false:=by simpa using hne
  rw [this]; exact ih
inductive Clo (cs:List (Str × Addr)):List (Str × NameKind)→List (Str × Addr)→List (Str × Addr)→Prop
 | nil (acc:List (Str × Addr)):Clo cs [] acc acc
 | skip {x:Str} {k:NameKind} {r:List (Str × NameKind)} {acc cl:List (Str × Addr)}:k≠.free→Clo cs r acc cl→Clo cs ((x,k) :: r) acc cl
 | take {x:Str} {a:Addr} {r:List (Str × NameKind)} {acc cl:List (Str × Addr)}:CLoc x a cs→Clo cs r ((x,a) :: acc) cl→Clo cs ((x,.free) :: r) acc cl
section
variable {c:Ctx} {m:Lo} {H:Hp} {pos:Pos}
theorem clo_eq {scope:Scope} {cs cl:List (Str × Addr)} (hc:c.env.cells = cs) (h:Clo cs scope.names [] cl):closureFor scope c.env = pure cl:=by
 have key:∀ (l:List (Str × NameKind)) (acc cl:List (Str × Addr)),Clo cs l acc cl→(forIn l acc fun (x:Str × NameKind) (r:List (Str × Addr))=>if (x.2 == NameKind.free) = true then (do let a ← cellOf c.env x.1; pure (ForInStep.yield ((x.1,a) :: r)):Sem (ForInStep (List (Str × Addr)))) else pure (ForInStep.yield r)) = (pure cl:Sem (List (Str × Addr))):=by
  intro l acc cl h
  induction h with
  | nil acc=>rfl
  | @skip x k r acc cl hk _ ih=>
   rw [List.forIn_cons]
   have:(k == NameKind.free) = false:=by simpa using hk
   dsimp only
   rw [this]
   exact ih
  | @take x a r acc cl hl _ ih=>
   rw [List.forIn_cons]
   have e:cellOf c.env x = pure a:=by unfold cellOf; rw [hc,hl.eq]
   dsimp only
   rw [e]
   exact ih
 have e:=key _ _ _ h
 unfold closureFor
 rw [← bind_pure (pure cl),← e]
theorem e_free {ns:List (Str × NameKind)} {cs:List (Str × Addr)} {x:Str} {a:Addr} {u:V} {Q:V→Lo→Hp→Prop} (hn:c.env.scope.names = ns) (hc:c.env.cells = cs) (hk:ns.lookup x = some .free) (hl:CLoc x a cs)
  (hv:Sees c H a (.cell (some u))) (h:Q u m H) (hx:autoParam ((x == ("__classdict__":Str)) = false) auDec) (hd:autoParam ((x == ("__debug__":Str)) = false) auDec):WPe c (.Name x pos) m H Q:=by
 refine e_cell ?_ hv h hd
 unfold cellAt
 rw [kind_of hn hk,hc]
 simp only [hx]
 exact hl.eq
end
section
variable {c:Ctx} {m:Lo} {H:Hp} {pos:Pos} {Q:V→Lo→Hp→Prop}
end
noncomputable abbrev bndObj (id:String) (a:Addr):Obj:={ cls:=.type "builtin_function_or_method",data:=.fields #[.builtin id,.ref a] }
theorem md_set:typeLookup (.type "method_descriptor") "__set__" = pure none:=by rw [typeLookup_type,builtinLookup_eq_fast]; kernel_rfl
theorem md_del:typeLookup (.type "method_descriptor") "__delete__" = pure none:=by rw [typeLookup_type,builtinLookup_eq_fast]; kernel_rfl
theorem md_slot:Slot "method_descriptor" "__get__" "method_descriptor.__get__":=
 .of (owner:="method_descriptor") (n:="__get__") (by rw [typeLookup_type,builtinLookup_eq_fast]; kernel_rfl) (by decide +kernel) (by decide +kernel) (by decide +kernel)
  (by first | exact .inl (by decide +kernel) | exact .inr (by decide +kernel)) (by rw [isSubtype_type]; kernel_rfl)
theorem md_entry:entryFor table "method_descriptor.__get__" = some Builtin.«method_descriptor.__get__»:=entryFor_of_tree (by kernel_rfl)
theorem md_args (a b c:Value):argsOk "method_descriptor.__get__" ⟨[a,b,c],[]⟩:=by unfold argsOk; kernel_rfl
structure Bnd (T:String) (name:Str) (id:String):Prop where
 slot:Slot T name id
 ty:typeOf (.builtin id) = pure (.type "method_descriptor")
 told:Manifest.toldItsClass.contains id = false
 owner:(kfb_private% "nameAndClass") (.builtin id) = pure (name,.type T)
 sub:isSubtype (.type T) (.type T) = pure true
section
variable {prog:Program} {w:World} {A:Around} {E:Value→Shared→Prop} {s:Shared}
theorem run_mdget {T id:String} {name:Str} {a:Addr} {P:Fin→Shared→Prop} (b:Bnd T name id) (hT:s.TypeIs (.ref a) T) (h:P (.done (.ret (.ref s.heap.objs.size))) { s with heap:=s.heap.push (bndObj id a) }) :
  wpAny (model prog w) A (Builtin.«method_descriptor.__get__» ⟨[.builtin id,.ref a,.type T],[]⟩) P E s:=by
 unfold Builtin.«method_descriptor.__get__»
 refine wpAny_bind (wpAny_of_eq (a:=(.builtin id,some (.ref a),some (.type T))) (by first | rfl | kernel_rfl) ?_)
 simp only [b.told]
 refine KFB.if_not rfl ?_
 show wpAny _ _ ((kfb_private% "checkInstance") (.builtin id) (.ref a) >>= fun _=>newFields "builtin_function_or_method" [.builtin id,.ref a] >>= fun v=>ret v) _ _ _
 refine wpAny_bind ?_
 show wpAny _ _ ((kfb_private% "nameAndClass") (.builtin id) >>= _) _ _ _
 refine wpAny_bind (wpAny_of_eq b.owner ?_)
 refine wpAny_bind (wpAny_isInstance hT b.sub ?_)
 refine KFB.if_not rfl (wpAny_pure ?_)
 exact wpAny_bind (wpAny_newObj_type (wpAny_pure h))
theorem meets_bound_dict {id:String} {name:Str} {a:Addr} {es:Array DictEntry} {k:Nat} {sl:Array (Option Value)} {u:Tok} (b:Bnd "dict" name id)
  (hname:(["__module__","__name__","__qualname__","__doc__","__annotations__"]:List Str).contains name = false) :
  Meets (Builtin.«object.__getattribute__» ⟨[.ref a,.str name u],[]⟩) (fun A R s=>s.heap.get? a = some { cls:=.type "dict",dict:=none,data:=.dict es k,slots:=sl }∧R (.ok (.ret (.ref s.heap.objs.size))) { s with heap:=s.heap.push (bndObj id a) }):=
 Meets.of_wp fun prog w A R s hs=>by
  obtain ⟨hp,g,d,tk,os⟩:=s
  obtain ⟨hx,hs⟩:=hs
  have hT:(⟨hp,g,d,tk,os⟩:Shared).TypeIs (.ref a) "dict":=⟨_,hx,rfl⟩
  have f1:=b.slot.lookup
  have f2:=b.ty
  have f3:=md_slot.lookup
  have f4:=md_set
  have f5:=md_del
  unfold Builtin.«object.__getattribute__»
  repeat (any_goals (first | assumption | wp_step))
  rw [hname,if_neg Bool.false_ne_true]
  repeat (any_goals (first | assumption | wp_step))
  exact codeAny_call_builtin md_slot.plain md_entry (md_slot.check _ _ _ _ _ _ _ _ b.ty (md_args _ _ _) (run_mdget b hT (wpAny_pure ⟨_,rfl,hs⟩)))
theorem meets_bound_set {id:String} {name:Str} {a:Addr} {es:Array (Int × Value)} {k:Nat} {t:SetTable} {sl:Array (Option Value)} {u:Tok} (b:Bnd "set" name id)
  (hname:(["__module__","__name__","__qualname__","__doc__","__annotations__"]:List Str).contains name = false) :
  Meets (Builtin.«object.__getattribute__» ⟨[.ref a,.str name u],[]⟩) (fun A R s=>s.heap.get? a = some { cls:=.type "set",dict:=none,data:=.set es k t,slots:=sl }∧R (.ok (.ret (.ref s.heap.objs.size))) { s with heap:=s.heap.push (bndObj id a) }):=
 Meets.of_wp fun prog w A R s hs=>by
  obtain ⟨hp,g,d,tk,os⟩:=s
  obtain ⟨hx,hs⟩:=hs
  have hT:(⟨hp,g,d,tk,os⟩:Shared).TypeIs (.ref a) "set":=⟨_,hx,rfl⟩
  have f1:=b.slot.lookup
  have f2:=b.ty
  have f3:=md_slot.lookup
  have f4:=md_set
  have f5:=md_del
  unfold Builtin.«object.__getattribute__»
  repeat (any_goals (first | assumption | wp_step))
  rw [hname,if_neg Bool.false_ne_true]
  repeat (any_goals (first | assumption | wp_step))
  exact codeAny_call_builtin md_slot.plain md_entry (md_slot.check _ _ _ _ _ _ _ _ b.ty (md_args _ _ _) (run_mdget b hT (wpAny_pure ⟨_,rfl,hs⟩)))
theorem bnd_dict_get:Bnd "dict" "get" "dict.get":=⟨F.slot_dict_get,F.type_dict_get,by decide +kernel,by first | rfl | kernel_rfl,by rw [isSubtype_type]; kernel_rfl⟩
theorem bnd_dict_has:Bnd "dict" "__contains__" "dict.__contains__":=⟨F.slot_dict_contains,F.type_dict_contains,by decide +kernel,by first | rfl | kernel_rfl,by rw [isSubtype_type]; kernel_rfl⟩
theorem bnd_set_has:Bnd "set" "__contains__" "set.__contains__":=⟨F.slot_set_contains,F.type_set_contains,by decide +kernel,by first | rfl | kernel_rfl,by rw [isSubtype_type]; kernel_rfl⟩
end
theorem entry_dict_ga:entryFor table "dict.__getattribute__" = some Builtin.«object.__getattribute__»:=
 entryFor_alias (id':="object.__getattribute__") (by kernel_rfl) (by decide +kernel) (by decide +kernel) (by kernel_rfl)
theorem entry_set_ga:entryFor table "set.__getattribute__" = some Builtin.«object.__getattribute__»:=
 entryFor_alias (id':="object.__getattribute__") (by kernel_rfl) (by decide +kernel) (by decide +kernel) (by kernel_rfl)
section
variable {prog:Program} {w:World} {A:Around} {E:Value→Shared→Prop} {s:Shared}
theorem getAttr_bound_dict {a:Addr} {o:Obj} {es:Array DictEntry} {k:Nat} {name:Str} {id:String} {Q:Value→Shared→Prop} (b:Bnd "dict" name id)
  (hx:s.heap.get? a = some o) (hc:o.cls = .type "dict") (hdat:o.data = .dict es k) (hd:o.dict = none) (hname:(["__module__","__name__","__qualname__","__doc__","__annotations__"]:List Str).contains name = false)
  (h:∀ tk,Q (.ref s.heap.objs.size) { s with heap:=s.heap.push (bndObj id a),toks:=tk }) :
  wpAny (model prog w) A (getAttr (.ref a) name true) Q E s:=by
 obtain ⟨c,dct,dat,sl⟩:=o
 simp only at hc hdat hd
 subst hc hdat hd
 obtain ⟨hp,g,d,tk,os⟩:=s
 have hT:∀ tk',(⟨hp,g,d,tk',os⟩:Shared).TypeIs (.ref a) "dict":=fun _=>⟨_,hx,rfl⟩
 have f3:=F.slot_dict_getattribute.lookup
 have f4:=F.slot_dict_getattribute.bind (.ref a)
 unfold getAttr getAttrBy
 repeat (any_goals (first | assumption | exact hT _ | ((with_reducible show wpAny _ _ (call (Value.builtin "dict.__getattribute__") _ _) _ _ _); refine call_meets F.slot_dict_getattribute (hT _) entry_dict_ga (F.args_dict_getattribute_2 _ _) (meets_bound_dict b hname) ⟨hx,?_⟩) | wp_step))
 exact wpAny_pure (h _)
theorem getAttr_bound_set {a:Addr} {o:Obj} {es:Array (Int × Value)} {k:Nat} {t:SetTable} {name:Str} {id:String} {Q:Value→Shared→Prop} (b:Bnd "set" name id)
  (hx:s.heap.get? a = some o) (hc:o.cls = .type "set") (hdat:o.data = .set es k t) (hd:o.dict = none) (hname:(["__module__","__name__","__qualname__","__doc__","__annotations__"]:List Str).contains name = false)
  (h:∀ tk,Q (.ref s.heap.objs.size) { s with heap:=s.heap.push (bndObj id a),toks:=tk }) :
  wpAny (model prog w) A (getAttr (.ref a) name true) Q E s:=by
 obtain ⟨c,dct,dat,sl⟩:=o
 simp only at hc hdat hd
 subst hc hdat hd
 obtain ⟨hp,g,d,tk,os⟩:=s
 have hT:∀ tk',(⟨hp,g,d,tk',os⟩:Shared).TypeIs (.ref a) "set":=fun _=>⟨_,hx,rfl⟩
 have f3:=F.slot_set_getattribute.lookup
 have f4:=F.slot_set_getattribute.bind (.ref a)
 unfold getAttr getAttrBy
 repeat (any_goals (first | assumption | exact hT _ | ((with_reducible show wpAny _ _ (call (Value.builtin "set.__getattribute__") _ _) _ _ _); refine call_meets F.slot_set_getattribute (hT _) entry_set_ga (F.args_set_getattribute_2 _ _) (meets_bound_set b hname) ⟨hx,?_⟩) | wp_step))
 exact wpAny_pure (h _)
end
structure BndC (T id:String):Prop where
 sig:∃ sg,Manifest.signature? id = some sg∧{ sg with full:=s!"{Bind.lastOf T}.{Bind.lastOf id}" } = sg
 kind:builtinKind id = some .method
 va:Manifest.varargsMethods.contains id = false
 md:isSubtype (.type T) (.type "module") = pure false
 plain:plainId id = true
section
variable {M:Model} {prog:Program} {w:World} {A:Around} {E:Value→Shared→Prop} {s:Shared}
theorem check_bound {T id:String} {a:Addr} {o:Obj} {rest:List Value} {Q:Unit→Shared→Prop} (b:BndC T id) (ho:s.heap.get? a = some o) (hc:o.cls = .type T) (hd:∀ k,o.data≠.cls k)
  (ha:argsOk id ⟨.ref a :: rest,[]⟩) (q:Q () s):wpAny M A (checkBoundCall id ⟨.ref a :: rest,[]⟩) Q E s:=by
 obtain ⟨sg,h1,h2⟩:=b.sig
 have hT:s.TypeIs (.ref a) T:=⟨o,ho,hc⟩
 have hca:Bind.checkArgs id sg ⟨.ref a :: rest,[]⟩ = pure ():=by
  have:=ha
  unfold argsOk at this
  rw [h1] at this
  exact this
 unfold checkBoundCall
 rw [h1,b.kind]
 dsimp only
 rw [if_neg (by decide)]
 refine wpAny_bind (wpAny_isInstance hT b.md ?_)
 rw [if_neg (by rw [b.va]; decide)]
 have e:wpAny M A (isType (.ref a)) (fun r s'=>r = false∧s' = s) E s:=by
  unfold isType
  refine wpAny_bind (wpAny_loadPart ho ?_)
  obtain ⟨oc,od,oda,osl⟩:=o
  cases oda <;> first | exact wpAny_pure ⟨rfl,rfl⟩ | exact absurd rfl (hd _)
 refine wpAny_bind (wpAny_mono e (fun r s' h=>?_) fun _ _ h=>h)
 obtain ⟨rfl,rfl⟩:=h
 rw [if_neg (by decide)]
 refine wpAny_bind (wpAny_typeOf hT ?_)
 dsimp only
 rw [h2,hca]
 exact wpAny_pure q
theorem codeAny_call_bound {T id:String} {f a:Addr} {o:Obj} {rest:List Value} {B:Builtin} {R:Result→Shared→Prop} (b:BndC T id) (hf:s.heap.get? f = some (bndObj id a)) (ho:s.heap.get? a = some o) (hc:o.cls = .type T) (hd:∀ k,o.data≠.cls k)
  (ha:argsOk id ⟨.ref a :: rest,[]⟩) (he:entryFor table id = some B)
  (h:wpAny (model prog w) A.in1 (B ⟨.ref a :: rest,[]⟩) (fun fin s'=>match fin with | .done f=>R (.ok f) s' | .again c'=>c'.quiet = true∧codeAny (model prog w) A c' R s') (fun e s'=>R (.error e) s') s) :
  codeAny (model prog w) A (.call (.ref f) ⟨rest,[]⟩) R s:=by
 refine codeAny_of_tree ?_
 show wpAny _ A.in1 (callAny (.ref f) ⟨rest,[]⟩) _ _ s
 unfold callAny
 refine wpAny_bind (wpAny_load hf ?_)
 dsimp only
 rw [if_pos (by decide)]
 refine wpAny_bind (check_bound b ho hc hd ha ?_)
 have fin:(Code.builtin id ⟨.ref a :: rest,[]⟩).quiet = true∧codeAny (model prog w) A (.builtin id ⟨.ref a :: rest,[]⟩) R s:=
  ⟨plainId_quiet b.plain _,codeAny_builtin he (by rw [Around.under_plainId b.plain]; exact h)⟩
 first
  | exact wpAny_pure fin
  | exact wpAny_bind (wpAny_pure (wpAny_pure fin))
  | exact wpAny_bind (wpAny_pure fin)
theorem sig_of {T id:String} (h:(match Manifest.signature? id with | some sg=>s!"{Bind.lastOf T}.{Bind.lastOf id}" == sg.full | none=>false) = true):∃ sg,Manifest.signature? id = some sg∧{ sg with full:=s!"{Bind.lastOf T}.{Bind.lastOf id}" } = sg:=by
 cases q:Manifest.signature? id with
 | none=>rw [q] at h; cases h
 | some sg=>rw [q] at h; have e:=beq_iff_eq.mp h; exact ⟨sg,rfl,by rw [e]⟩
theorem bndC_dict_get:BndC "dict" "dict.get":=⟨sig_of (by kernel_rfl),by kernel_rfl,by decide +kernel,by rw [isSubtype_type]; kernel_rfl,by decide +kernel⟩
theorem bndC_dict_has:BndC "dict" "dict.__contains__":=⟨sig_of (by kernel_rfl),by kernel_rfl,by decide +kernel,by rw [isSubtype_type]; kernel_rfl,by decide +kernel⟩
theorem bndC_set_has:BndC "set" "set.__contains__":=⟨sig_of (by kernel_rfl),by kernel_rfl,by decide +kernel,by rw [isSubtype_type]; kernel_rfl,by decide +kernel⟩
end
section
variable {prog:Program} {w:World} {A:Around} {E:Value→Shared→Prop} {s:Shared}
theorem wp_set_contains {K:Type} [DecidableEq K] {knd:KeyKind prog w K} {a:Addr} {k:K} {key:Value} {S:K→Bool} {n:Nat} {P:Fin→Shared→Prop} (hkey:knd.is k key = true) (hsc:key.scannable = true) (hS:s.heap.SetOf knd a S n)
  (h:P (.done (.ret (.bool (S k)))) { s with toks:=s.toks + 1 }):wpAny (model prog w) A (Builtin.«frozenset.__contains__» ⟨[.ref a,key],[]⟩) P E s:=by
 unfold Builtin.«frozenset.__contains__» Builtin.Frozenset.oneOther
 simp only [List.isEmpty_nil,bind_assoc]
 unfold Builtin.Frozenset.addrOf Builtin.Frozenset.withSetAsKey setContains
 refine wpAny_bind (wpAny_pure ?_)
 try dsimp only
 refine wpAny_bind (wpAny_pure ?_)
 try dsimp only
 refine wpAny_bind (wpAny_tryCatch ?_)
 refine wpAny_holding ?_
 refine wpAny_bind (knd.pyHash hkey ?_)
 refine wpAny_bind (wpAny_setFind_of (s:={ s with toks:=s.toks + 1 }) hkey hsc hS fun r hr=>?_)
 refine wpAny_pure ?_
 show wpAny _ _ (ret (Value.bool r.isSome)) _ _ _
 rw [hr]
 exact wpAny_pure h
end
section
variable {prog:Program} {w:World} {A:Around} {E:Value→Shared→Prop} {s:Shared}
theorem call_bound_meetsIn {T id:String} {f a:Addr} {o:Obj} {rest:List Value} {B:Builtin} {S:PySem.Spec} {Q:Value→Shared→Prop} (b:BndC T id) (hf:s.heap.get? f = some (bndObj id a)) (ho:s.heap.get? a = some o) (hc:o.cls = .type T) (hd:∀ k,o.data≠.cls k)
  (ha:argsOk id ⟨.ref a :: rest,[]⟩) (he:entryFor table id = some B) (g:MeetsIn prog w (B ⟨.ref a :: rest,[]⟩) S) (h:S A (wants Q E) s):wpAny (model prog w) A (call (.ref f) rest) Q E s:=
 wpAny_call (codeAny_call_bound b hf ho hc hd ha he (g A (wants Q E) s h))
theorem call_bound_entry {T id:String} {f a:Addr} {o:Obj} {rest:List Value} {B:Builtin} {Q:Value→Shared→Prop} (b:BndC T id) (hf:s.heap.get? f = some (bndObj id a)) (ho:s.heap.get? a = some o) (hc:o.cls = .type T) (hd:∀ k,o.data≠.cls k)
  (ha:argsOk id ⟨.ref a :: rest,[]⟩) (he:entryFor table id = some B) (h:wpAny (model prog w) A.in1 (B ⟨.ref a :: rest,[]⟩) (fun fin s'=>∃ v,fin = .done (.ret v)∧Q v s') E s):wpAny (model prog w) A (call (.ref f) rest) Q E s:=
 wpAny_call (codeAny_call_bound b hf ho hc hd ha he (wpAny_mono h (fun fin s' q=>by obtain ⟨v,rfl,q⟩:=q; exact q) fun _ _ q=>q))
end
section
variable {c:Ctx} {m:Lo} {H:Hp} {pos:Pos} {Q:V→Lo→Hp→Prop}
theorem a_bnd_dict {d:Addr} {ep:Nat} {es:List (IS × V)} {name:Str} {id:String} (b:Bnd "dict" name id) (hx:Sees c H d (.dict ep es)) (hname:autoParam ((["__module__","__name__","__qualname__","__doc__","__annotations__"]:List Str).contains name = false) auDec)
  (h:∀ f,Q (.ref f) m ((f,.obj (bndObj id d)) :: H)):Attr c (.ref d) name m H Q:=fun s va R r=>by
 cases (r:va = _)
 obtain ⟨_,kvs,ha,hd,_⟩:=dict_get (hx m s R)
 obtain ⟨o,des,ho,hex,hdat,_⟩:=ha
 refine .new R h fun P k=>getAttr_bound_dict b ho hex.1 hdat hex.2.1 hname fun tk=>?_
 exact k s.heap.objs.size _ (s.heap.push (bndObj id d)) tk push_grow (get_size _) ⟨Heap.get?_push_size _ rfl,trivial⟩ rfl
theorem a_bnd_set {d:Addr} {z:Raw} {ks:List IS} {name:Str} {id:String} (b:Bnd "set" name id) (hx:Sees c H d (.set z ks)) (hname:autoParam ((["__module__","__name__","__qualname__","__doc__","__annotations__"]:List Str).contains name = false) auDec)
  (h:∀ f,Q (.ref f) m ((f,.obj (bndObj id d)) :: H)):Attr c (.ref d) name m H Q:=fun s va R r=>by
 cases (r:va = _)
 obtain ⟨⟨o,ho,hex,hdat⟩,I⟩:=set_get (hx m s R)
 refine .new R h fun P k=>getAttr_bound_set b ho hex.1 hdat hex.2.1 hname fun tk=>?_
 exact k s.heap.objs.size _ (s.heap.push (bndObj id d)) tk push_grow (get_size _) ⟨Heap.get?_push_size _ rfl,trivial⟩ rfl
theorem keep_bnd {f d:Addr} {id:String} (hf:Sees c H f (.obj (bndObj id d))):KeepOk c (.ref f) H:=fun m s vf R r=>by
 cases (r:vf = _)
 obtain ⟨ho,_⟩:=hf m s R
 exact ⟨.machine,.inr (.inl rfl),(Looks.ld (part:=none) ho).andThen .now⟩
theorem cal_bnd_get {f d:Addr} {ep:Nat} {es:List (IS × V)} {k:IS} {u:V} (hf:Sees c H f (.obj (bndObj "dict.get" d))) (hx:Sees c H d (.dict ep es)) (h:Q ((dictAt es k).getD u) m H):Cal c (.ref f) [k.v,u] m H Q:=fun s vf vvs R rf rv=>by
 cases (rf:vf = _)
 obtain ⟨vk,vu,rfl,rk,ru⟩:=Reps.two rv
 obtain ⟨h0,kvs,ha,hd,hp⟩:=dict_get (hx m s R)
 obtain ⟨hfo,_⟩:=hf m s R
 obtain ⟨o,des,ho,hex,hdat,_⟩:=ha
 refine .val R h fun P kk=>call_bound_meetsIn bndC_dict_get hfo ho hex.1 (fun k e=>by rw [hdat] at e; cases e) (PySem.F.args_dict_get_3 _ _ _) PySem.F.entry_dict_get (meets_dict_get_default (mixKind c.prog c.w) d (isIS_rep rk) h0 vu) ⟨_,hd.mapOf,kk _ _ ?_⟩
 cases q:dictAt es k with
 | none=>rw [hp.at.1.mp q]; exact ru
 | some w=>obtain ⟨v,hv,hr⟩:=hp.at.2 w q; rw [hv]; exact hr
theorem cal_bnd_has {f d:Addr} {z:Raw} {ks:List IS} {k:IS} (hf:Sees c H f (.obj (bndObj "set.__contains__" d))) (hx:Sees c H d (.set z ks)) (h:Q (.bool (decide (k∈ks))) m H):Cal c (.ref f) [k.v] m H Q:=fun s vf vvs R rf rv=>by
 cases (rf:vf = _)
 obtain ⟨vk,rfl,rk⟩:=Reps.sole rv
 obtain ⟨hr,I⟩:=set_get (hx m s R)
 have hS:=RawAt.setOf hr I
 obtain ⟨o,ho,hex,hdat⟩:=hr
 obtain ⟨hfo,_⟩:=hf m s R
 have hk:=isIS_rep rk
 refine .val R h fun P kk=>call_bound_entry bndC_set_has hfo ho hex.1 (fun k e=>by rw [hdat] at e; cases e) (PySem.F.args_set_contains_2 _ _) entry_set_contains ?_
 exact wp_set_contains hk (isIS_scan hk) hS ⟨_,rfl,kk _ (s.toks + 1) rfl⟩
end
section
variable {c:Ctx} {m:Lo} {H:Hp} {pos:Pos}
theorem seti_dict {d:Addr} {ep:Nat} {es:List (IS × V)} {k:IS} {u:V} {F:O→Hp} {Q:Lo→Hp→Prop} (sp:Spot d (.dict ep es) H F) (h:∀ ep',Q m (F (.dict ep' (dictPut es k u)))) (hz:es.length≤1000000):SetI c (.ref d) k.v u m H Q:=fun s va vb vv R ra rb rv=>by
 cases (ra:va = _)
 obtain ⟨h0,kvs,ha,hd,hp⟩:=dict_get (R.obj _ _ (sp.upd (.dict 0 [])).mem)
 intro P kk
 refine wpAny_setItem_pairs (knd:=mixKind c.prog c.w) (isIS_rep rb) hd (fun h' hd' hs'=>?_) (by rw [hp.length]; have:sizeLine = 16777216:=rfl; exact as2 2 (.l Z0 (.n 1000000)) (.e Z1 (.n 16777216)) (.l Z0 Z1) [_,_] hz this)
 obtain ⟨ep',ha'⟩:=hd'.dictAt
 have al:∃ o,h'.get? d = some o:=let ⟨o,_,ho,_⟩:=ha'; ⟨o,ho⟩
 have Fp':Fp c.env.locals H (F (.dict ep' (dictPut es k u))) s.heap h':=.upd (sp.upd _) (Heap.SameBut.kp hs') al
 have hp':=(hp.lift fun _ _ r=>R.lift Fp' r).put (k:=k) (R.lift Fp' rv)
 exact kk () () m _ h' (tkn s (s.toks + 1)) (R.upd (tkn s (s.toks + 1)) (sp.upd (.dict ep' (dictPut es k u))) (Heap.SameBut.kp hs') al fun _=>⟨h0,_,ha',hp'⟩) Fp' trivial (h ep')
end
section
set_option maxHeartbeats 4000000
theorem oi_kind:builtinKind "object.__init__" = some .slot:=by decide +kernel
theorem oi_split:splitId "object.__init__" = some ("object","__init__"):=by decide +kernel
noncomputable def NewB (K:Frag) (C:Addr) (cd:ClassData) (sl:Array (Option Value)):Bool:=(match ((sl.toList[4]?).join:Option Value) with | some (.builtin _)=>false | some _=>true | none=>false) && !cd.mro.isEmpty && cd.mro.contains (.ref C) && cd.mro.contains (.type "object") &&
   specialIn K (.ref C) "__call__" == some (some (.builtin "type.__call__")) && instIn K (.ref C) (.type "type") == some true &&
   findIn K (.ref C) "__init__" == some (some (.builtin "object.__init__"))
noncomputable def newIn (K:Frag) (C:Addr):Bool:=match K.lookup C with
 | some ⟨_,_,.cls cd,sl⟩=>NewB K C cd sl
 | _=>false
theorem newIn_of {K:Frag} {C:Addr} (e:newIn K C = true):∃ oc od cd sl,K.lookup C = some ⟨oc,od,.cls cd,sl⟩∧NewB K C cd sl = true:=by
 delta newIn at e
 cases q:K.lookup C with
 | none=>rw [q] at e; cases e
 | some o=>
  rw [q] at e
  obtain ⟨oc,od,dat,sl⟩:=o
  cases dat with
  | cls cd=>exact ⟨oc,od,cd,sl,rfl,e⟩
  | _=>cases e
structure NewC (M:Model) (h:Heap) (C:Addr):Prop where
 obj:∃ oc od cd sl,h.get? C = some ⟨oc,od,.cls cd,sl⟩∧cd.mro.isEmpty = false
 made:Looks M h (Bind.madeBy (.ref C)) none
 self:Looks M h (isSubtype (.ref C) (.ref C)) true
 top:Looks M h (isSubtype (.ref C) (.type "object")) true
 call:Looks M h (specialOf (.ref C) "__call__") (some (.builtin "type.__call__"))
 typ:Looks M h (isInstance (.ref C) (.type "type")) true
 init:Looks M h (typeLookup (.ref C) "__init__") (some (.builtin "object.__init__"))
theorem newC_of {K:Frag} {M:Model} {h:Heap} (X:K.In h) {C:Addr} (e:newIn K C = true):NewC M h C:=by
 obtain ⟨oc,od,cd,sl,ho,e⟩:=newIn_of e
 ·unfold NewB at e
  rw [Bool.and_eq_true,Bool.and_eq_true,Bool.and_eq_true,Bool.and_eq_true,Bool.and_eq_true,Bool.and_eq_true,Bool.not_eq_true',beq_iff_eq,beq_iff_eq,beq_iff_eq] at e
  obtain ⟨⟨⟨⟨⟨⟨e3,e4⟩,e5⟩,e6⟩,e7⟩,e8⟩,e9⟩:=e
  have hc:clsIn K C = some cd:=by unfold clsIn; rw [ho]
  have hm:Looks M h (mroOf (.ref C)) cd.mro:=(looks_clsIn X hc).andThen .now
  obtain ⟨c,l,hl⟩:∃ c l,cd.mro = c :: l:=by cases q:cd.mro with | nil=>rw [q] at e4; cases e4 | cons c l=>exact ⟨c,l,rfl⟩
  refine ⟨⟨oc,od,cd,sl,X _ _ ho,e4⟩,?_,looks_mroIn X ?_,looks_mroIn X ?_,looks_specialIn X e7,looks_instIn X e8,looks_findIn X e9⟩
  ·intro A Q E s k q
   unfold Bind.madeBy
   refine wpAny_bind (hm A _ E s k ?_)
   rw [hl,List.forIn_cons]
   refine wpAny_bind (wpAny_bind (wpAny_bind (wpAny_bind (wpAny_loadPart (k _ _ (X _ _ ho)) (wpAny_pure ?_)))))
   dsimp only
   rw [← Array.getElem?_toList]
   cases z:(sl.toList[4]?).join with
   | none=>rw [z] at e3; cases e3
   | some v=>
    rw [z] at e3
    cases v with
    | builtin i=>cases e3
    | _=>exact wpAny_pure (wpAny_pure (wpAny_pure q))
  ·unfold mroIn; rw [hc,Option.bind_some,if_neg (by rw [e4]; decide),e5]
  ·unfold mroIn; rw [hc,Option.bind_some,if_neg (by rw [e4]; decide),e6]
section
variable {prog:Program} {w:World} {A:Around} {K:Frag} {C:Addr} {R:Result→Shared→Prop} {s:Shared}
noncomputable def NewBack (K:Frag) (C:Addr) (R:Result→Shared→Prop) (r:Result) (s':Shared):Prop:=match r with
 | .ok (.ret v)=>∃ x o,v = .ref x∧s'.heap.get? x = some o∧o.cls = .ref C∧K.In s'.heap∧R (.ok (.ret (.ref x))) s'
 | .ok _=>False
 | .error e=>R (.error e) s'
theorem call_new {mc:Value} {f p:Addr} {rest rp:List Value} (X:K.In s.heap) (hn:newIn K C = true) (hr:readsIn K C mc = true) (hf:findCls K (.ref C) mc "__new__" = some (.get (.builtin "staticmethod.__get__") (.ref p) .none (.ref C))) (hp:recIn K p "staticmethod" = some (.ref f :: rp))
  (hne:rest.isEmpty = false) (hargs:∀ self,argsOk "object.__init__" ⟨self :: rest,[]⟩)
  (h:codeAny (model prog w) (A.under (.builtin "type.__call__" ⟨.ref C :: rest,[]⟩)) (.call (.ref f) ⟨.ref C :: rest,[]⟩) (NewBack K C R) { s with toks:=s.toks + 1 }) :
  codeAny (model prog w) A (.call (.ref C) ⟨rest,[]⟩) R s:=by
 obtain ⟨⟨oc,od,cd,sl,hC,e4⟩,made,self,top,call,typ,init⟩:=newC_of (M:=model prog w) X hn
 refine codeAny_of_tree ?_
 show wpAny _ _ (callAny (.ref C) _) _ _ _
 refine nd_load hC ?_
 show wpAny _ _ (callAny.viaDunder (.ref C) _) _ _ _
 unfold callAny.viaDunder
 refine wpAny_bind (call.here ?_)
 dsimp only
 rw [tc_bind]
 refine wpAny_bind (wpAny_pure (wpAny_bind (wpAny_pure ?_)))
 refine wpAny_pure (a:=Fin.again (.call (.builtin "type.__call__") ⟨.ref C :: rest,[]⟩)) (And.intro rfl ?_)
 refine codeAny_call_builtin_at (Code.quiet_builtin _ (by decide +kernel)) entry_typeCall (check_slot tc_kind tc_split typ (tc_args _ _ _) ?_)
 unfold Builtin.«type.__call__»
 have hm:Looks (model prog w) s.heap (mroOf (.ref C)) cd.mro:=((Looks.ld (part:=none) hC).andThen .now).andThen .now
 obtain ⟨hp',g,d,t,os⟩:=s
 repeat (first | rw [e4] | rw [if_neg Bool.false_ne_true] | ((fail_if_success (with_reducible show wpAny _ _ (getAttr (.ref C) _ _) _ _ _)); lk))
 refine cls_bind (s:=⟨hp',g,d,t,os⟩) X hr hf (wpAny_call (sm_get (s:=⟨hp',g,d,t + 1,os⟩) X hp (handed_on rfl ?_)))
 refine wpAny_bind (wpAny_holding (wpAny_call (codeAny_mono h fun r s' z=>?_)))
 rcases r with e | (v | _ | _ | _) <;> first | exact z | exact z.elim | skip
 obtain ⟨x,o,rfl,hx,hcl,hk,hR⟩:=z
 obtain ⟨hq',g',d',t',os'⟩:=s'
 have ty:Looks (model prog w) hq' (typeOf (.ref x)) (.ref C):=hcl ▸ (Looks.ld hx).andThen .now
 obtain ⟨_,m1,s1,t1,_,_,i1⟩:=newC_of (M:=model prog w) hk hn
 unfold isInstance callSpecial? specialOf
 refine wpAny_bind (wpAny_bind (ty.at (s1.at ?_)))
 rw [if_neg (by decide)]
 refine wpAny_bind (wpAny_holding (wpAny_bind (wpAny_bind (ty.at (i1.at ?_)))))
 refine wpAny_holding ?_
 rw [oi_bind]
 refine wpAny_bind (wpAny_pure (wpAny_bind ?_))
 have hi:Looks (model prog w) hq' (isInstance (.ref x) (.type "object")) true:=ty.andThen t1
 refine wpAny_call (codeAny_call_builtin PySem.F.slot_object_init.plain PySem.F.entry_object_init (check_slot oi_kind oi_split hi (hargs _) ?_))
 unfold Builtin.«object.__init__»
 show wpAny _ _ (if (!rest.isEmpty || !([]:List (Str × Value)).isEmpty) = true then _ else _) _ _ _
 rw [if_pos (by rw [hne]; rfl)]
 refine wpAny_bind (ty.at (wpAny_bind (i1.at (wpAny_bind (m1.at ?_)))))
 rw [if_neg (by decide)]
 show wpAny _ _ (if (!(false || ((none:Option String) != some "object.__new__"))) = true then _ else _) _ _ _
 rw [if_neg (by decide)]
 refine wpAny_pure ?_
 show wpAny _ _ (pure (some Value.none)) _ _ _
 refine wpAny_pure ?_
 show wpAny _ _ (if (Value.none != Value.none) = true then _ else _) _ _ _
 rw [if_neg (by decide)]
 exact wpAny_pure hR
end
section
variable {c:Ctx} {m:Lo} {H:Hp} {pos:Pos} {Q:V→Lo→Hp→Prop} {K:Frag}
theorem cal_new {C f p:Addr} {mc:Value} {rp:List Value} {vs:List V} {k:Nat} (B:Base c K) (hfu:c.fuel = k + 1) (hn:newIn K C = true) (hr:readsIn K C mc = true) (hf:findCls K (.ref C) mc "__new__" = some (.get (.builtin "staticmethod.__get__") (.ref p) .none (.ref C))) (hp:recIn K p "staticmethod" = some (.ref f :: rp)) (hne:vs≠[])
  (hargs:∀ self rest,rest.length = vs.length→argsOk "object.__init__" ⟨self :: rest,[]⟩)
  (h:∀ c2,Made c c2→c2.fuel = k→Base c2 K→CalC c2 (.ref f) (.ref C :: vs) m H fun v m' H'=>∃ xs,v = .tup (some C) xs∧Q v m' H'):CalC c (.ref C) vs m H Q:=fun s vf vvs R rf rv P kont=>by
 cases (rf:vf = _)
 have X:=B.kin _ R.keep
 have dep:(c.A.under (.builtin "type.__call__" ⟨.ref C :: vvs,[]⟩)).depth = c.A.depth + 1:=rfl
 have uni:(c.A.under (.builtin "type.__call__" ⟨.ref C :: vvs,[]⟩)).units = c.A.units + 1:=rfl
 let c2:Ctx:=⟨c.prog,c.w,c.A.under (.builtin "type.__call__" ⟨.ref C :: vvs,[]⟩),c.env,c.G,k,c.hh,(by have:=c.hd; rw [hfu] at this; rw [dep]; exact as1 3 (.t (.a Z0 (.a Z1 N1)) Z2) (.t (.a (.a Z0 N1) Z1) Z2) [_,_,_] this),(by have:=c.hu; rw [hfu] at this; rw [uni]; exact as1 3 (.t (.a (.a Z0 (.m 40 (.a Z1 N1))) (.n 400)) Z2) (.t (.a (.a (.a Z0 N1) (.m 40 Z1)) (.n 400)) Z2) [_,_,_] this),c.hk⟩
 have M:Made c c2:=⟨rfl,rfl,hfu,rfl,rfl⟩
 have hv:vvs.isEmpty = false:=by
  have:=rv.length
  cases vvs with
  | nil=>cases vs with | nil=>exact absurd rfl hne | cons a l=>simp at this
  | cons a l=>rfl
 refine call_new X hn hr hf hp hv (fun self=>hargs self vvs rv.length) ?_
 have R0:Rel c ⟨m,H⟩ (sw s s.heap (tkn s (s.toks + 1))):=R.toks _
 refine codeAny_mono (h c2 M rfl (M.base B) (sw s s.heap (tkn s (s.toks + 1))) (.ref f) (.ref C :: vvs) (M.rel.mp R0) rfl (.cons rfl rv) (fun v s'=>NewBack K C (fun r s'=>match r with | .ok (.ret v)=>P v s' | .ok _=>False | .error _=>False) (.ok (.ret v)) s') fun b v m' H' h' tk' R' F' r' q'=>?_) fun r s' q=>?_
 ·obtain ⟨xs,rfl,q⟩:=q'
  obtain ⟨x,items,rfl,⟨o,n,ho,hc,hd⟩,hx⟩:=id r'
  exact ⟨x,o,rfl,ho,hc,B.kin _ (M.rel.mpr R').keep,kont _ _ m' H' h' tk' (M.rel.mpr R') F' r' q⟩
 ·cases r with
  | ok f=>cases f <;> first | exact q | exact q.elim
  | error e=>exact q.elim
end
end
section
set_option maxHeartbeats 4000000
theorem ty_tuple:typeOf (.type "tuple") = pure (.type "type"):=by kernel_rfl
theorem opq_tuple:opaqueClassAbove (.type "tuple") = pure none:=by first | rfl | kernel_rfl
section
variable {c:Ctx} {m:Lo} {H:Hp} {pos:Pos} {Q:V→Lo→Hp→Prop} {K:Frag}
theorem gm_type {T:String} {name:Str} {id:String} (B:Base c K) (ht:typeOf (.type T) = pure (.type "type")) (ho:opaqueClassAbove (.type T) = pure none)
  (hga:findIn K (.type "type") "__getattribute__" = some (some (.builtin "type.__getattribute__"))) (hi:subIn K (.type "type") (.type "type") = some true) (e:findCls K (.type T) (.type "type") name = some (.val (.builtin id))) (hh:handedIn (.builtin id) = true) :
  GM c (.ty T) name (.bi id) [] H:=fun m s vu pl P R r k=>by
 cases (r:vu = _)
 have X:=B.kin _ R.keep
 unfold getMethod specialOf
 refine wpAny_bind (wpAny_bind (wpAny_of_eq ht ((looks_findIn X hga).here ?_)))
 dsimp only
 rw [if_pos canon_tga]
 refine wpAny_bind (cls_open (hook:=none) X (.of_pure ho) (.of_pure ht) hga ?_ hi e (wpAny_pure (handed_on hh ?_)))
 ·unfold hookBefore
  rw [if_neg (by decide)]
  exact .now
 ·exact wpAny_pure (k _ _ (s.toks + 1) rfl rfl)
end
end
section
set_option maxHeartbeats 4000000
structure TupC (M:Model) (h:Heap) (C:Addr):Prop where
 obj:∃ oc od cd sl,h.get? C = some ⟨oc,od,.cls cd,sl⟩∧cd.hasDel = false
 sub:Looks M h (isSubtype (.ref C) (.type "tuple")) true
 base:Looks M h (Bind.staticBase (.ref C)) (.type "tuple")
 init:Looks M h (typeLookup (.ref C) "__init__") (some (.builtin "object.__init__"))
theorem tn_kind:builtinKind "tuple.__new__" = some .builtinFn:=by kernel_rfl
theorem tn_split:splitId "tuple.__new__" = some ("tuple","__new__"):=by kernel_rfl
theorem tn_plain:plainId "tuple.__new__" = true:=by decide +kernel
theorem tn_made:Bind.madeBy (.type "tuple") = pure (some "tuple.__new__"):=PySem.F.called_tuple.made
section
variable {prog:Program} {w:World} {A:Around} {E:Value→Shared→Prop} {s:Shared}
theorem tn_check {C it:Addr} {Q:Unit→Shared→Prop} (T:TupC (model prog w) s.heap C) (q:Q () s):wpAny (model prog w) A (checkBuiltinCall "tuple.__new__" ⟨[.ref C,.ref it],[]⟩) Q E s:=by
 obtain ⟨⟨oc,od,cd,sl,hC,hd⟩,sub,base,init⟩:=T
 obtain ⟨hp,g,d,t,os⟩:=s
 have ity:Looks (model prog w) hp (isType (.ref C)) true:=(Looks.ld hC).andThen .now
 have tm:Looks (model prog w) hp (Bind.madeBy (.type "tuple")) (some "tuple.__new__"):=.of_pure tn_made
 unfold checkBuiltinCall
 rw [tn_kind]
 dsimp only
 rw [tn_split]
 dsimp only
 repeat (first | rw [if_neg Bool.false_ne_true] | rw [bne_self_eq_false] | rw [Bool.not_true] | lk)
 exact q
theorem tn_run {C it:Addr} {o:Obj} {items:Array Value} {n:Nat} {P:Fin→Shared→Prop} (T:TupC (model prog w) s.heap C) (ho:s.heap.get? it = some o) (hc:o.cls = .type "tuple") (hd:o.data = .seq items n) (hz:items.size≤1000)
  (q:∀ h':Heap,(∀ b o',s.heap.get? b = some o'→h'.get? b = some o')→P (.done (.ret (.ref (h'.objs.size + 1)))) { s with heap:=(h'.push emptyDict).push { cls:=.ref C,dict:=some h'.objs.size,data:=.seq items } }) :
  wpAny (model prog w) A (Builtin.«tuple.__new__» ⟨[.ref C,.ref it],[]⟩) P E s:=by
 obtain ⟨⟨oc,od,cd,sl,hC,hdel⟩,sub,base,init⟩:=T
 obtain ⟨hp,g,d,t,os⟩:=s
 have ity:Looks (model prog w) hp (isType (.ref C)) true:=(Looks.ld hC).andThen .now
 have tm:Looks (model prog w) hp (Bind.madeBy (.type "tuple")) (some "tuple.__new__"):=.of_pure tn_made
 have hsl:items.size≤sizeLine:=by have:sizeLine = 16777216:=rfl; exact as2 2 (.l Z0 (.n 1000)) (.e Z1 (.n 16777216)) (.l Z0 Z1) [_,_] hz this
 unfold Builtin.«tuple.__new__» Bind.madeHere
 repeat (first | rw [if_neg Bool.false_ne_true] | rw [bne_self_eq_false] | rw [Bool.not_true] | rw [Option.map_some] | ((fail_if_success (with_reducible show wpAny _ _ (collect _) _ _ _)); lk))
 refine wpAny_collect_seq (s:=⟨hp,g,d,t,os⟩) it (.inr rfl) ho hc hd (fun h' hk=>?_) hsl
 have hC':((h'.push emptyDict).push { cls:=.ref C,dict:=some h'.objs.size,data:=.seq items }).get? C = some ⟨oc,od,.cls cd,sl⟩:=Heap.get?_push_of_some _ (Heap.get?_push_of_some _ (hk _ _ hC))
 refine wpAny_bind (wpAny_pure (wpAny_bind (wpAny_alloc (wpAny_bind ?_))))
 show wpAny _ _ (newObj (.ref C) (.seq items.toList.toArray) (some h'.objs.size)) _ _ _
 rw [show items.toList.toArray = items from by simp]
 unfold newObj
 dsimp only
 rw [if_neg (by exact as1 2 (.l Z0 Z1) (.no (.t Z1 Z0)) [_,_] hsl)]
 unfold newObjAsIs classHasDel
 refine wpAny_bind (wpAny_alloc ?_)
 refine wpAny_bind (wpAny_bind (wpAny_load hC' (wpAny_pure ?_)))
 rw [hdel]
 refine wpAny_pure (wpAny_pure ?_)
 have e:(h'.push emptyDict).objs.size = h'.objs.size + 1:=by simp
 have z:=q h' hk
 rw [← e] at z
 exact z
end
section
variable {c:Ctx} {m:Lo} {H:Hp} {pos:Pos} {Q:V→Lo→Hp→Prop} {K:Frag}
theorem k_tuple_new {C:Addr} {xs:List At} (hT:∀ h,K.In h→TupC (model c.prog c.w) h C) (B:Base c K) (hz:xs.length≤1000) (h:Q (.tup (some C) xs) m H):Cal c (.bi "tuple.__new__") [.ref C,.tup .none xs] m H Q:=fun s vf vvs R rf rv P k=>by
 cases (rf:vf = _)
 obtain ⟨va,vt,rfl,ra,rt⟩:=Reps.two rv
 cases (ra:va = _)
 obtain ⟨it,items,rfl,⟨o,n,ho,hc,hd⟩,hx⟩:=rt
 have T:=hT s.heap (B.kin _ R.keep)
 have hi:items.size≤1000:=by have:=hx.length; simp at this; exact as2 2 (.l Z0 (.n 1000)) (.e Z1 Z0) (.l Z1 (.n 1000)) [_,_] hz this
 refine wpAny_call (codeAny_call_builtin tn_plain PySem.F.entry_tuple_new (tn_check T (tn_run T ho hc hd hi fun h' hk=>?_)))
 have g1:∀ b o,s.heap.get? b = some o→((h'.push emptyDict).push { cls:=.ref C,dict:=some h'.objs.size,data:=.seq items }).get? b = some o:=fun b o e=>Heap.get?_push_of_some _ (Heap.get?_push_of_some _ (hk _ _ e))
 refine k (.tup (some C) xs) _ m H _ (tkn s s.toks) (R.grow (tkn s s.toks) g1) (.grow g1) ⟨_,items,rfl,⟨{ cls:=.ref C,dict:=some h'.objs.size,data:=.seq items },0,?_,rfl,rfl⟩,hx⟩ h
 have e:(h'.push emptyDict).objs.size = h'.objs.size + 1:=by simp
 have z:((h'.push emptyDict).push { cls:=.ref C,dict:=some h'.objs.size,data:=.seq items }).get? (h'.push emptyDict).objs.size = some { cls:=.ref C,dict:=some h'.objs.size,data:=.seq items }:=Heap.get?_push_size _ rfl
 rw [e] at z
 exact z
end
end
section
set_option maxHeartbeats 4000000
theorem best_tuple:Builtin.Slots.bestBase [.type "tuple"] = pure (.type "tuple"):=by first | rfl | kernel_rfl
noncomputable def TupB (cd:ClassData):Bool:=(match cd.bases with | [.type b]=>b == "tuple" | _=>false) && (match cd.mro with | _ :: _ :: _=>true | _=>false) && !cd.hasDel && cd.mro.contains (.type "tuple")
noncomputable def tupIn (K:Frag) (C:Addr):Bool:=match K.lookup C with
 | some ⟨_,_,.cls cd,_⟩=>TupB cd
 | _=>false
theorem tupC_of {K:Frag} {M:Model} {h:Heap} (X:K.In h) {C:Addr} (e:newIn K C = true) (e2:tupIn K C = true):TupC M h C:=by
 obtain ⟨⟨oc',od',cd',sl',hC',hm'⟩,made,self,top,call,typ,init⟩:=newC_of (M:=M) X e
 obtain ⟨oc,od,cd,sl,ho,_⟩:=newIn_of e
 ·delta tupIn at e2
  rw [ho] at e2
  refine (fun (e2:TupB cd = true)=>?_) e2
  unfold TupB at e2
  rw [Bool.and_eq_true,Bool.and_eq_true,Bool.and_eq_true,Bool.not_eq_true'] at e2
  obtain ⟨⟨⟨b1,b2⟩,b3⟩,b4⟩:=e2
  have hc:clsIn K C = some cd:=by unfold clsIn; rw [ho]
  have hm:Looks M h (mroOf (.ref C)) cd.mro:=(looks_clsIn X hc).andThen .now
  have hb:cd.bases = [.type "tuple"]:=by
   cases q:cd.bases with
   | nil=>rw [q] at b1; cases b1
   | cons v l=>
    rw [q] at b1
    cases l with
    | nil=>
     cases v with
     | type b=>rw [eq_of_beq (show (b == "tuple") = true from b1)]
     | _=>cases b1
    | cons w l=>cases v <;> cases b1
  obtain ⟨x,y,l,hl⟩:∃ x y l,cd.mro = x :: y :: l:=by
   cases q:cd.mro with
   | nil=>rw [q] at b2; cases b2
   | cons x l=>
    cases l with
    | nil=>rw [q] at b2; cases b2
    | cons y l=>exact ⟨x,y,l,rfl⟩
  have hem:cd.mro.isEmpty = false:=by rw [hl]; rfl
  refine ⟨⟨oc,od,cd,sl,X _ _ ho,b3⟩,looks_mroIn X (by unfold mroIn; rw [hc,Option.bind_some,if_neg (by rw [hem]; decide),b4]),?_,init⟩
  intro A Q E s k q
  unfold Bind.staticBase
  refine wpAny_bind (hm A _ E s k ?_)
  rw [hl,List.forIn_cons]
  refine wpAny_bind (wpAny_bind (wpAny_bind (made A _ E s k ?_)))
  rw [if_neg (by decide)]
  refine wpAny_bind ((looks_clsIn X hc) A _ E s k ?_)
  rw [hb,best_tuple]
  refine wpAny_bind (wpAny_pure (wpAny_pure ?_))
  show wpAny M A (forIn (y :: l) (none,Value.type "tuple") _) _ E s
  rw [List.forIn_cons]
  refine wpAny_bind (wpAny_bind ?_)
  rw [show Bind.madeBy ((none:Option Value),Value.type "tuple").snd = pure (some "tuple.__new__") from tn_made]
  refine wpAny_pure ?_
  rw [if_pos (show (some "tuple.__new__").isSome = true from rfl)]
  exact wpAny_pure (wpAny_pure (wpAny_pure q))
end
section
variable {c:Ctx} {m:Lo} {H:Hp} {pos:Pos}
noncomputable def nsEnv (ns:List (Str × NameKind)):Env:=lamEnv { (default:FuncData) with scope:=⟨.function,ns,false,false,[]⟩ } 0 0
theorem swap_env {env env':Env} {ts:List Expr} {v:Expr} (h1:env.blockKind = env'.blockKind) (h2:env.kindOf = env'.kindOf):swappedStores ts v env = swappedStores ts v env':=by
 unfold swappedStores
 rw [h1,h2]
theorem swap_of {ns:List (Str × NameKind)} (hn:c.env.scope.names = ns) {ts:List Expr} {v:Expr} {r:Option (List Str)} (h:swappedStores ts v (nsEnv ns) = pure r):swappedStores ts v c.env = pure r:=by
 rw [← h]
 refine swap_env ?_ ?_
 ·unfold Env.blockKind; rw [c.hk]; rfl
 ·funext x; unfold Env.kindOf; rw [hn]; rfl
noncomputable def StoL (c:Ctx):List Str→List V→Lo→Hp→(Lo→Hp→Prop)→Prop
 | [],[],m,H,Q=>Q m H
 | x :: xs,v :: vs,m,H,Q=>Sto c x v m H fun m1 H1=>StoL c xs vs m1 H1 Q
 | _,_,_,_,_=>False
theorem StoL.run:∀ {xs:List Str} {us:List V} {m:Lo} {H:Hp} {Q:Lo→Hp→Prop},StoL c xs us m H Q→∀ s vs,Rel c ⟨m,H⟩ s→Reps s.heap us vs →
  Run c H s UR (assignInOrder (xs.map fun n=>bindName c.env n) vs) fun _=>Q
 | [],[],m,H,Q,h,s,vs,R,r=>by cases r; exact .done R (b:=()) (fun P p=>wpAny_assignInOrder_none p) trivial h
 | t :: ts,u :: us,m,H,Q,h,s,_,R,⟨v,vs,rfl,hv,hr⟩=>fun P k=>
  wpAny_assignInOrder_more (wpAny_bindName (h s v R hv _ fun _ _ m1 H1 h1 tk1 R1 F1 _ q1=>StoL.run q1 _ vs R1 (R.liftL F1 hr) P fun b v m2 H2 h2 tk2 R2 F2 r2 q2=>k b v m2 H2 h2 tk2 R2 (F1.trans R1.hasL F2) r2 q2))
 | [],_ :: _,_,_,_,h,_,_,_,_=>h.elim
 | _ :: _,[],_,_,_,h,_,_,_,_=>h.elim
theorem s1_swap {ns:List (Str × NameKind)} {ts vs:List Expr} {k1 k2:Nat} {p p2:Pos} {names:List Str} {Q:Fl→Lo→Hp→Prop} (hn:c.env.scope.names = ns) (hb:swappedStores [.Tuple ts k1 p] (.Tuple vs k2 p2) (nsEnv ns) = pure (some names))
  (h:WPe c (.Tuple vs k2 p2) m H fun v m1 H1=>∃ xs:List At,v = .tup .none xs∧names.length = xs.length∧StoL c names.reverse (xs.map .at).reverse m1 H1 (Q .next))
  (hs:autoParam (swapsWithSole [.Tuple ts k1 p] (.Tuple vs k2 p2) pos.line c.env = pure false) auRfl):WP1 c (.Assign [.Tuple ts k1 p] (.Tuple vs k2 p2) pos) m H Q:=fun s R P k=>by
 refine Assign_Tuple_swapped (h s R _ fun a va m1 H1 h1 tk1 R1 F1 r1 q1=>?_) hs (swap_of hn hb)
 obtain ⟨xs,rfl,hl,q⟩:=q1
 obtain ⟨t,items,rfl,ht,hr⟩:=r1
 have hlen:names.length = items.size:=by rw [hl,← hr.length,Array.length_toList]
 rw [hlen]
 refine unpackItems_tuple c.hh ht.plain fun h' hext=>?_
 have hg:∀ b o,h1.get? b = some o→h'.get? b = some o:=fun b o e=>hext b o (Nat.ne_of_lt (Heap.lt_size e)) e
 exact StoL.run q _ _ (R1.grow tk1 hg) (Reps.reverse hr.reps) _ fun b v m2 H2 h2 tk2 R2 F2 r2 q2=>k .next _ m2 H2 h2 tk2 R2 ((F1.trans R1.hasL (Fp.grow hg)).trans (R1.grow tk1 hg).hasL F2) rfl q2
theorem s1_swap3 {ns:List (Str × NameKind)} {ts vs:List Expr} {k1 k2:Nat} {p p2:Pos} {x y z:Str} {Q:Fl→Lo→Hp→Prop} (hn:c.env.scope.names = ns) (hb:swappedStores [.Tuple ts k1 p] (.Tuple vs k2 p2) (nsEnv ns) = pure (some [x,y,z]))
  (h:WPe c (.Tuple vs k2 p2) m H fun v m1 H1=>∃ a b d:At,v = .tup .none [a,b,d]∧Sto c z (.at d) m1 H1 fun m2 H2=>Sto c y (.at b) m2 H2 fun m3 H3=>Sto c x (.at a) m3 H3 (Q .next))
  (hs:autoParam (swapsWithSole [.Tuple ts k1 p] (.Tuple vs k2 p2) pos.line c.env = pure false) auRfl):WP1 c (.Assign [.Tuple ts k1 p] (.Tuple vs k2 p2) pos) m H Q:=
 s1_swap hn hb (h.mono fun v m1 H1 q=>by obtain ⟨a,b,d,rfl,q⟩:=q; exact ⟨[a,b,d],rfl,rfl,q⟩) hs
theorem s1_swap2 {ns:List (Str × NameKind)} {ts vs:List Expr} {k1 k2:Nat} {p p2:Pos} {x y:Str} {Q:Fl→Lo→Hp→Prop} (hn:c.env.scope.names = ns) (hb:swappedStores [.Tuple ts k1 p] (.Tuple vs k2 p2) (nsEnv ns) = pure (some [x,y]))
  (h:WPe c (.Tuple vs k2 p2) m H fun v m1 H1=>∃ a b:At,v = .tup .none [a,b]∧Sto c y (.at b) m1 H1 fun m2 H2=>Sto c x (.at a) m2 H2 (Q .next))
  (hs:autoParam (swapsWithSole [.Tuple ts k1 p] (.Tuple vs k2 p2) pos.line c.env = pure false) auRfl):WP1 c (.Assign [.Tuple ts k1 p] (.Tuple vs k2 p2) pos) m H Q:=
 s1_swap hn hb (h.mono fun v m1 H1 q=>by obtain ⟨a,b,rfl,q⟩:=q; exact ⟨[a,b],rfl,rfl,q⟩) hs
end
section
variable {c:Ctx} {K:Frag} {ns:List (Str × NameKind)} {x:Str}
noncomputable def biB (K:Frag) (ns:List (Str × NameKind)) (x:Str):Bool:=(ns.lookup x == some .globalImplicit) && (nsIn K mainGlobals x).any Option.isNone && !(x == ("__name__":Str))
theorem any_none {α:Type} {o:Option (Option α)} (h:o.any Option.isNone = true):o = some .none:=by
 cases o with
 | none=>cases h
 | some p=>cases p with
  | none=>rfl
  | some v=>cases h
theorem Base.blt (B:Base c K) (hn:c.env.scope.names = ns) {u:At} {v:Value} (h:biB K ns x = true) (hb:bootBuiltins x = some v) (hr:u.rep v):Glob c x u:=by
 unfold biB at h
 rw [Bool.and_eq_true,Bool.and_eq_true] at h
 exact B.bi (kind_of hn (beq_iff_eq.mp h.1.1)) (any_none h.1.2) hb (fun e=>by rw [e] at h; exact absurd h.2 (by decide)) hr
theorem Base.len (B:Base c K) (hn:c.env.scope.names = ns) (h:biB K ns "len" = true):Glob c "len" (.bi "len"):=B.blt hn h (by kernel_rfl) rfl
theorem Base.min (B:Base c K) (hn:c.env.scope.names = ns) (h:biB K ns "min" = true):Glob c "min" (.bi "min"):=B.blt hn h (by kernel_rfl) rfl
theorem Base.sorted (B:Base c K) (hn:c.env.scope.names = ns) (h:biB K ns "sorted" = true):Glob c "sorted" (.bi "sorted"):=B.blt hn h (by kernel_rfl) rfl
theorem Base.range (B:Base c K) (hn:c.env.scope.names = ns) (h:biB K ns "range" = true):Glob c "range" (.ty "range"):=B.blt hn h (by kernel_rfl) rfl
theorem Base.list (B:Base c K) (hn:c.env.scope.names = ns) (h:biB K ns "list" = true):Glob c "list" (.ty "list"):=B.blt hn h (by kernel_rfl) rfl
theorem Base.tuple (B:Base c K) (hn:c.env.scope.names = ns) (h:biB K ns "tuple" = true):Glob c "tuple" (.ty "tuple"):=B.blt hn h (by kernel_rfl) rfl
theorem Base.set (B:Base c K) (hn:c.env.scope.names = ns) (h:biB K ns "set" = true):Glob c "set" (.ty "set"):=B.blt hn h (by kernel_rfl) rfl
theorem Base.map (B:Base c K) (hn:c.env.scope.names = ns) (h:biB K ns "map" = true):Glob c "map" (.ty "map"):=B.blt hn h (by kernel_rfl) rfl
theorem Base.enumerate (B:Base c K) (hn:c.env.scope.names = ns) (h:biB K ns "enumerate" = true):Glob c "enumerate" (.ty "enumerate"):=B.blt hn h (by kernel_rfl) rfl
end
theorem Less.trans {m m1 m2:Lo} {H H1 H2:Hp} (a:Less m H m1 H1) (b:Less m1 H1 m2 H2):Less m H m2 H2:=⟨fun x u e=>a.1 x u (b.1 x u e),fun p hp=>a.2.1 p (b.2.1 p hp),fun nd=>b.2.2 (a.2.2 nd)⟩
theorem Less.swap {m:Lo} {p q:Addr × O} {H:Hp}:Less m (p :: q :: H) m (q :: p :: H):=Less.perm (.swap p q H)
theorem Less.heap {m:Lo} {H H':Hp} (h:List.Sublist H' H):Less m H m H':=⟨fun _ _ e=>e,fun _ q=>h.subset q,fun nd=>(h.map _).nodup nd⟩
theorem less_m {m m':Lo} {H:Hp} (h:LessM m m'):Less m H m' H:=less_of h (List.Sublist.refl _)
theorem WPt.less {c:Ctx} {m:Lo} {H:Hp} {e:Expr} {Q:Bool→Lo→Hp→Prop} {m':Lo} {H':Hp} (l:Less m H m' H') (h:WPt c e m' H' Q):WPt c e m H Q:=
 fun s R P k=>h s (R.weaken l.1 l.2.1 (l.2.2 R.nd)) P fun b v m' H2 h tk R' F r q=>k b v m' H2 h tk R' (F.less l.2.1) r q
noncomputable def Pu (c:Ctx) (e:Expr) (m:Lo) (H:Hp) (v:V):Prop:=∀ Q:V→Lo→Hp→Prop,Q v m H→WPe c e m H Q
noncomputable def PuT (c:Ctx) (e:Expr) (m:Lo) (H:Hp) (b:Bool):Prop:=∀ Q:Bool→Lo→Hp→Prop,Q b m H→WPt c e m H Q
noncomputable def Lc (c:Ctx) (x:Str):Prop:=c.env.kindOf x = some .local∧(x == ("__debug__":Str)) = false
section
variable {c:Ctx} {m:Lo} {H:Hp} {pos p1 p2:Pos} {k1:Nat}
noncomputable def lcB (ns:List (Str × NameKind)) (x:Str):Bool:=ns.lookup x == some .local && !(x == ("__debug__":Str))
theorem lc_of {ns:List (Str × NameKind)} (hn:c.env.scope.names = ns) {x:Str} (h:lcB ns x = true):Lc c x:=by
 unfold lcB at h
 rw [Bool.and_eq_true] at h
 exact ⟨kind_of hn (beq_iff_eq.mp h.1),by simpa using h.2⟩
theorem Pu.nm {x:Str} {u:V} (l:Lc c x) (hv:m.lookup x = some u):Pu c (.Name x pos) m H u:=fun _ h=>e_local l.1 hv h l.2
theorem Pu.n {x:Str} {u:V} (l:Lc c x) (hv:autoParam (m.lookup x = some u) auAll):Pu c (.Name x pos) m H u:=Pu.nm l hv
theorem Pu.one {i:Int}:Pu c (.Constant (.int i) k1 pos) m H (.int i):=fun _ h=>e_int h
theorem Pu.add {l r:Expr} {a b:Int} (h1:Pu c l m H (.int a)) (h2:Pu c r m H (.int b)):Pu c (.BinOp l .Add r pos) m H (.int (a + b)):=fun _ h=>e_binop (h1 _ (h2 _ (o_add h)))
theorem Pu.sub {l r:Expr} {a b:Int} (h1:Pu c l m H (.int a)) (h2:Pu c r m H (.int b)):Pu c (.BinOp l .Sub r pos) m H (.int (a - b)):=fun _ h=>e_binop (h1 _ (h2 _ (o_sub h)))
theorem Pu.addN {l r:Expr} {a b:Nat} (h1:Pu c l m H (.int a)) (h2:Pu c r m H (.int b)):Pu c (.BinOp l .Add r pos) m H (.int ((a + b:Nat):Int)):=h1.add h2
theorem Pu.pred {l:Expr} {a:Nat} (h1:Pu c l m H (.int a)) (ha:0 < a):Pu c (.BinOp l .Sub (.Constant (.int 1) k1 p1) pos) m H (.int ((a - 1:Nat):Int)):=by
 have:(a:Int) - 1 = ((a - 1:Nat):Int):=in_pred ha
 rw [← this]
 exact h1.sub .one
theorem Pu.succ {l:Expr} {a:Nat} (h1:Pu c l m H (.int a)):Pu c (.BinOp l .Add (.Constant (.int 1) k1 p1) pos) m H (.int ((a + 1:Nat):Int)):=h1.add .one
theorem Pu.at {v i:Expr} {l:Addr} {xs:List Int} {k:Nat} (h1:Pu c v m H (.ref l)) (h2:Pu c i m H (.int k)) (hx:Sees c H l (.list (xs.map .int))) (hk:k < xs.length) (hz:xs.length≤1000)
  (hs:autoParam (∀ o t,subscripted i false (.ref o) (.int (k:Nat) t) = operate [.ref o,.int (k:Nat) t] (getItem (.ref o) (.int (k:Nat) t))) auFunU2):Pu c (.Subscript v i pos) m H (.int (xs.getD k 0)):=fun _ h=>
 e_sub (h1 _ (h2 _ (sub_list (xs:=xs.map .int) hx (Int.natCast_nonneg k) (by simp [hk]) h hs (by have:sizeLine = 16777216:=rfl; rw [List.length_map]; exact as2 2 (.l Z0 (.n 1000)) (.e Z1 (.n 16777216)) (.l Z0 Z1) [_,_] hz this))))
theorem PuT.gtN {l r:Expr} {a b:Nat} (h1:Pu c l m H (.int a)) (h2:Pu c r m H (.int b)) (hm:autoParam (behindInMarks .Gt r = false) auAll):PuT c (.Compare l [.Gt] [r] pos) m H (decide (b < a)):=fun _ h=>
 t_cmp (h1 _ (h2 _ (c_gt (tru_bool (by rw [show decide ((b:Int) < a) = decide (b < a) by simp]; exact h))))) hm
theorem PuT.ltN {l r:Expr} {a b:Nat} (h1:Pu c l m H (.int a)) (h2:Pu c r m H (.int b)) (hm:autoParam (behindInMarks .Lt r = false) auAll):PuT c (.Compare l [.Lt] [r] pos) m H (decide (a < b)):=fun _ h=>
 t_cmp (h1 _ (h2 _ (c_lt (tru_bool (by rw [show decide ((a:Int) < b) = decide (a < b) by simp]; exact h))))) hm
theorem PuT.geN {l r:Expr} {a b:Nat} (h1:Pu c l m H (.int a)) (h2:Pu c r m H (.int b)) (hm:autoParam (behindInMarks .GtE r = false) auAll):PuT c (.Compare l [.GtE] [r] pos) m H (decide (b≤a)):=fun _ h=>
 t_cmp (h1 _ (h2 _ (c_ge (tru_bool (by rw [show decide ((b:Int)≤a) = decide (b≤a) by simp]; exact h))))) hm
theorem PuT.eqI {l r:Expr} {a b:Int} (h1:Pu c l m H (.int a)) (h2:Pu c r m H (.int b)) (hm:autoParam (behindInMarks .Eq r = false) auAll):PuT c (.Compare l [.Eq] [r] pos) m H (a == b):=fun _ h=>
 t_cmp (h1 _ (h2 _ (c_eq (tru_bool h)))) hm
theorem PuT.val {e:Expr} {b:Bool} (h1:Pu c e m H (.bool b)) (he:autoParam (∀ whole,isTrue e c.env whole = (do let v ← whole; standAt e.pos; holding [v] (truthy v))) auFun):PuT c e m H b:=fun _ h=>t_value (h1 _ (tru_bool h)) he
theorem PuT.not {e:Expr} {b:Bool} (h1:PuT c e m H b):PuT c (.UnaryOp .Not e pos) m H (!b):=fun _ h=>t_not (h1 _ h)
theorem PuT.and4 {t1 t2 t3 t4:Expr} {b1 b2 b3 b4:Bool} (h1:PuT c t1 m H b1) (h2:b1 = true→PuT c t2 m H b2) (h3:b1 = true→b2 = true→PuT c t3 m H b3) (h4:b1 = true→b2 = true→b3 = true→PuT c t4 m H b4) :
  PuT c (.BoolOp .And [t1,t2,t3,t4] pos) m H (b1 && b2 && b3 && b4):=fun Q h=>t_bool (all_and (h1 _ (by
 cases b1
 ·exact h
 refine all_and (h2 rfl _ ?_)
 cases b2
 ·exact h
 refine all_and (h3 rfl rfl _ ?_)
 cases b3
 ·exact h
 refine all_and (h4 rfl rfl rfl _ ?_)
 cases b4
 ·exact h
 exact all_and_nil h)))
theorem Pu.has {fn e:Expr} {f d:Addr} {z:Raw} {ks:List IS} {k:IS} (h1:Pu c fn m H (.ref f)) (h2:Pu c e m H k.v) (hf:Sees c H f (.obj (bndObj "set.__contains__" d))) (hx:Sees c H d (.set z ks))
  (he:autoParam (starEach [e] c.env = (false,eval e c.env) :: starEach [] c.env) auRfl)
  (hE:∀ Q,(WPe c fn m H fun f m0 H0=>WPitems c pos [e] m0 H0 fun vs m1 H1=>KeepOk c f H1∧Cal c f vs m1 H1 Q)→WPe c (.Call fn [e] [] pos) m H Q):Pu c (.Call fn [e] [] pos) m H (.bool (decide (k∈ks))):=fun _ h=>
 hE _ (h1 _ (items_cons (h2 _ (items_nil ⟨keep_bnd hf,cal_bnd_has hf hx h⟩)) he))
theorem s1_swapP {ns:List (Str × NameKind)} {ts:List Expr} {e1 e2 e3:Expr} {k1 k2:Nat} {p p2:Pos} {x y z:Str} {a b d:At} {Q:Fl→Lo→Hp→Prop} (hn:c.env.scope.names = ns) (hb:swappedStores [.Tuple ts k1 p] (.Tuple [e1,e2,e3] k2 p2) (nsEnv ns) = pure (some [x,y,z]))
  (h1:Pu c e1 m H (.at a)) (h2:Pu c e2 m H (.at b)) (h3:Pu c e3 m H (.at d)) (lx:Lc c x) (ly:Lc c y) (lz:Lc c z) (h:Q .next ((x,.at a) :: (y,.at b) :: (z,.at d) :: m) H)
  (hs:autoParam (swapsWithSole [.Tuple ts k1 p] (.Tuple [e1,e2,e3] k2 p2) pos.line c.env = pure false) auRfl)
  (s1:autoParam (starEach [e1,e2,e3] c.env = (false,eval e1 c.env) :: starEach [e2,e3] c.env) auRfl) (s2:autoParam (starEach [e2,e3] c.env = (false,eval e2 c.env) :: starEach [e3] c.env) auRfl) (s3:autoParam (starEach [e3] c.env = (false,eval e3 c.env) :: starEach [] c.env) auRfl):WP1 c (.Assign [.Tuple ts k1 p] (.Tuple [e1,e2,e3] k2 p2) pos) m H Q:=
 s1_swap3 hn hb (e_tuple (items_cons (h1 _ (items_cons (h2 _ (items_cons (h3 _ (items_nil ⟨[a,b,d],rfl,Nat.le_of_ble_eq_true rfl,a,b,d,rfl,sto_local lz.1 (sto_local ly.1 (sto_local lx.1 h))⟩)) s3)) s2)) s1)) hs
theorem s1_augP {x:Str} {e:Expr} {p:Pos} {a b:Nat} {Q:Fl→Lo→Hp→Prop} (lx:Lc c x) (hv:m.lookup x = some (.int a)) (h1:Pu c e m H (.int b)) (h:Q .next ((x,.int ((a + b:Nat):Int)) :: m) H):WP1 c (.AugAssign (.Name x p) .Add e pos) m H Q:=
 s1_aug lx.1 hv (h1 _ (o_iadd (sto_local lx.1 h)))
theorem s1_assignP {x:Str} {e:Expr} {p:Pos} {v:V} {Q:Fl→Lo→Hp→Prop} (lx:Lc c x) (h1:Pu c e m H v) (h:Q .next ((x,v) :: m) H) (hs:autoParam (swapsWith e (some (.Name x p)) pos.line c.env = pure false) auRfl):WP1 c (.Assign [.Name x p] e pos) m H Q:=
 s1_assign (h1 _ (sto_local lx.1 h)) hs
end
section
variable {c:Ctx} {m:Lo} {H:Hp} {pos p1 p2:Pos} {k1:Nat} {K:Frag}
theorem Pu.attr {o:Expr} {x C d:Addr} {fs:List (Str × V)} {name:Str} {u:V} (B:Base c K) (hC:Cls K C) (hx:Sees c H x (.inst C d)) (hd:Sees c H d (.ns fs)) (hf:findIn K (.ref C) name = some .none) (h1:Pu c o m H (.ref x)) (hu:fs.lookup name = some u) (hb:autoParam (u.notBi = true) auRfl)
  (he:autoParam (eval (.Attribute o name pos) c.env = (do let v ← eval o c.env; standAt pos.atName; let r ← holding [v] (getAttr v name true); letTemporaryGo o v r; pure r)) auAll):Pu c (.Attribute o name pos) m H u:=fun _ h=>e_attr (h1 _ (a_inst B hC hf hx hd hu h hb)) he
theorem Pu.glob {x:Str} {u:At} (hg:Glob c x u) (hd:autoParam ((x == ("__debug__":Str)) = false) auDec):Pu c (.Name x pos) m H (.at u):=fun _ h=>e_glob hg h hd
theorem Pu.none:Pu c (.Constant .none k1 pos) m H .none:=fun _ h=>e_none h
theorem Pu.call1 {fn e:Expr} {f v r:V} (h1:Pu c fn m H f) (h2:Pu c e m H v) (hk:KeepOk c f H) (hc:∀ Q,Q r m H→Cal c f [v] m H Q)
  (he:autoParam (starEach [e] c.env = (false,eval e c.env) :: starEach [] c.env) auRfl)
  (hE:∀ Q,(WPe c fn m H fun f m0 H0=>WPitems c pos [e] m0 H0 fun vs m1 H1=>KeepOk c f H1∧Cal c f vs m1 H1 Q)→WPe c (.Call fn [e] [] pos) m H Q):Pu c (.Call fn [e] [] pos) m H r:=fun _ h=>
 hE _ (h1 _ (items_cons (h2 _ (items_nil ⟨hk,hc _ h⟩)) he))
theorem Pu.call2 {fn e e2:Expr} {f v w r:V} (h1:Pu c fn m H f) (h2:Pu c e m H v) (h3:Pu c e2 m H w) (hk:KeepOk c f H) (hc:∀ Q,Q r m H→Cal c f [v,w] m H Q)
  (he:autoParam (starEach [e,e2] c.env = (false,eval e c.env) :: starEach [e2] c.env) auRfl) (he2:autoParam (starEach [e2] c.env = (false,eval e2 c.env) :: starEach [] c.env) auRfl)
  (hE:∀ Q,(WPe c fn m H fun f m0 H0=>WPitems c pos [e,e2] m0 H0 fun vs m1 H1=>KeepOk c f H1∧Cal c f vs m1 H1 Q)→WPe c (.Call fn [e,e2] [] pos) m H Q):Pu c (.Call fn [e,e2] [] pos) m H r:=fun _ h=>
 hE _ (h1 _ (items_cons (h2 _ (items_cons (h3 _ (items_nil ⟨hk,hc _ h⟩)) he2)) he))
theorem Pu.len {e:Expr} {a:Addr} {xs:List V} (gl:Glob c "len" (.bi "len")) (h2:Pu c e m H (.ref a)) (ha:Sees c H a (.list xs)) (hz:xs.length≤1000000)
  (he:autoParam (starEach [e] c.env = (false,eval e c.env) :: starEach [] c.env) auRfl)
  (hE:∀ Q,(WPe c (.Name ("len":Str) p1) m H fun f m0 H0=>WPitems c pos [e] m0 H0 fun vs m1 H1=>KeepOk c f H1∧Cal c f vs m1 H1 Q)→WPe c (.Call (.Name ("len":Str) p1) [e] [] pos) m H Q):Pu c (.Call (.Name ("len":Str) p1) [e] [] pos) m H (.int xs.length):=
 .call1 (.glob gl (hd:=by decide)) h2 keep_bi (fun _ h=>k_len ha h hz) he hE
theorem PuT.isNone {l:Expr} {u:At} {r:Bool} (h1:Pu c l m H (.at u)) (hr:IsAt u .none r) (hm:autoParam (behindInMarks .Is (.Constant .none k1 p1) = false) auAll):PuT c (.Compare l [.Is] [.Constant .none k1 p1] pos) m H r:=fun _ h=>
 t_cmp (h1 _ (e_none (c_is hr (tru_bool h)))) hm
theorem PuT.isntNone {l:Expr} {u:At} {r:Bool} (h1:Pu c l m H (.at u)) (hr:IsAt u .none r) (hm:autoParam (behindInMarks .IsNot (.Constant .none k1 p1) = false) auAll):PuT c (.Compare l [.IsNot] [.Constant .none k1 p1] pos) m H (!r):=fun _ h=>
 t_cmp (h1 _ (e_none (c_isnot hr (tru_bool h)))) hm
theorem s1_ifP {t:Expr} {a b:List Stmt} {r:Bool} {Q:Fl→Lo→Hp→Prop} (h:PuT c t m H r) (h1:r = true→WPs c a m H Q) (h0:r = false→WPs c b m H Q):WP1 c (.If t a b pos) m H Q:=
 s1_if (h _ (if_b h1 h0))
end
structure TupX (M:Model) (h:Heap) (C:Addr):Prop where
 sub:Looks M h (isSubtype (.ref C) (.type "tuple")) true
 iter:Looks M h (typeLookup (.ref C) "__iter__") (some (.builtin "tuple.__iter__"))
 lt:Looks M h (typeLookup (.ref C) "__lt__") (some (.builtin "tuple.__lt__"))
 len:Looks M h (typeLookup (.ref C) "__len__") (some (.builtin "tuple.__len__"))
noncomputable def tupXIn (K:Frag) (C:Addr):Bool:=subIn K (.ref C) (.type "tuple") == some true && findIn K (.ref C) "__iter__" == some (some (.builtin "tuple.__iter__")) && findIn K (.ref C) "__lt__" == some (some (.builtin "tuple.__lt__")) && findIn K (.ref C) "__len__" == some (some (.builtin "tuple.__len__"))
theorem tupX_of {K:Frag} {M:Model} {h:Heap} (X:K.In h) {C:Addr} (e:tupXIn K C = true):TupX M h C:=by
 unfold tupXIn at e
 simp only [Bool.and_eq_true,beq_iff_eq] at e
 obtain ⟨⟨⟨e1,e2⟩,e3⟩,e4⟩:=e
 exact ⟨looks_subIn X e1,looks_findIn X e2,looks_findIn X e3,looks_findIn X e4⟩
theorem ti_kind:builtinKind "tuple.__iter__" = some .slot:=by decide +kernel
theorem ti_split:splitId "tuple.__iter__" = some ("tuple","__iter__"):=by decide +kernel
theorem tl_kind:builtinKind "tuple.__lt__" = some .slot:=by decide +kernel
theorem tl_split:splitId "tuple.__lt__" = some ("tuple","__lt__"):=by decide +kernel
theorem tn2_kind:builtinKind "tuple.__len__" = some .slot:=by decide +kernel
theorem tn2_split:splitId "tuple.__len__" = some ("tuple","__len__"):=by decide +kernel
section
variable {prog:Program} {w:World} {A:Around} {E:Value→Shared→Prop} {s:Shared} {C t:Addr} {items:Array Value}
theorem tup_typ {M:Model} {h:Heap} (ht:IsTupOf h (some C) t items):Looks M h (typeOf (.ref t)) (.ref C):=by
 obtain ⟨o,n,ho,hc,_⟩:=ht
 have:=(Looks.ld (M:=M) (part:=none) ho).andThen (f:=fun o=>(pure o.cls:Sem Value)) Looks.now
 rw [show o.cls = .ref C from hc] at this
 exact this
theorem tup_inst {M:Model} {h:Heap} (ht:IsTupOf h (some C) t items) (T:TupX M h C):Looks M h (isInstance (.ref t) (.type "tuple")) true:=(tup_typ ht).andThen T.sub
theorem tup_special {M:Model} {h:Heap} {name:Str} {r:Option Value} (ht:IsTupOf h (some C) t items) (l:Looks M h (typeLookup (.ref C) name) r):Looks M h (specialOf (.ref t) name) r:=(tup_typ ht).andThen l
theorem tup_call {id n:String} {b:Builtin} {rest:List Value} {Q:Value→Shared→Prop} (ht:IsTupOf s.heap (some C) t items) (T:TupX (model prog w) s.heap C) (hk:builtinKind id = some .slot) (hs:splitId id = some ("tuple",n)) (hp:plainId id = true) (ha:argsOk id ⟨.ref t :: rest,[]⟩) (hb:entryFor table id = some b)
  (h:wpAny (model prog w) A.in1 (b ⟨.ref t :: rest,[]⟩) (fun fin s'=>∃ v,fin = .done (.ret v)∧Q v s') E s):wpAny (model prog w) A (call (.builtin id) (.ref t :: rest)) Q E s:=
 wpAny_call (codeAny_call_builtin hp hb (check_slot hk hs (tup_inst ht T) ha (wpAny_mono h (fun fin s' q=>by obtain ⟨v,rfl,q⟩:=q; exact q) fun _ _ q=>q)))
theorem tup_unless {T:String} {name:Str} {id:String} {refuse:Sem Value} {Q:Option Value→Shared→Prop} {v:Value} (hl:Looks (model prog w) s.heap (specialOf v name) (some (.builtin id))) (hb:Slot T name id)
  (hc:wpAny (model prog w) A (call (.builtin id) [v]) (fun v=>Q (some v)) E s):wpAny (model prog w) A (callSpecialIfBoundUnlessNone? v name refuse) Q E s:=by
 unfold callSpecialIfBoundUnlessNone? bindSpecialIfBound?
 refine wpAny_holding (wpAny_bind (wpAny_bind (hl.here ?_)))
 dsimp only
 rw [hb.bind]
 refine wpAny_bind (wpAny_askSetting ?_)
 have fin:wpAny (model prog w) A (if (Value.builtin id == Value.none) = true then (refuse >>= fun v=>pure (some v)) else (call (.builtin id) [v] >>= fun v=>pure (some v))) Q E s:=by
  rw [builtin_beq_none,if_neg (by decide)]
  exact wpAny_bind (wpAny_mono hc (fun v s' h'=>wpAny_pure h') fun _ _ h'=>h')
 split
 ·exact wpAny_bind (wpAny_pure (wpAny_pure fin))
 ·exact wpAny_tryCatch (wpAny_bind (wpAny_pure (wpAny_pure fin)))
theorem tup_bound {T:String} {name:Str} {id:String} {args:List Value} {Q:Option Value→Shared→Prop} {v:Value} (hl:Looks (model prog w) s.heap (specialOf v name) (some (.builtin id))) (hb:Slot T name id)
  (hc:wpAny (model prog w) A (call (.builtin id) (v :: args)) (fun v=>Q (some v)) E s):wpAny (model prog w) A (callSpecialIfBound? v name args) Q E s:=by
 unfold callSpecialIfBound? bindSpecialIfBound?
 refine wpAny_holding (wpAny_bind (wpAny_bind (hl.here ?_)))
 dsimp only
 rw [hb.bind]
 refine wpAny_bind (wpAny_askSetting ?_)
 have fin:wpAny (model prog w) A (call (.builtin id) ([v] ++ args) >>= fun v=>pure (some v)) Q E s:=
  wpAny_bind (wpAny_mono hc (fun v s' h'=>wpAny_pure h') fun _ _ h'=>h')
 split
 ·exact wpAny_bind (wpAny_pure (wpAny_pure fin))
 ·exact wpAny_tryCatch (wpAny_bind (wpAny_pure (wpAny_pure fin)))
theorem iter_tupC {Q:Value→Shared→Prop} (ht:IsTupOf s.heap (some C) t items) (T:TupX (model prog w) s.heap C)
  (hQ:Q (.ref s.heap.objs.size) { s with heap:=s.heap.push { cls:=.type "tuple_iterator",data:=.fields #[.ref t,.int 0 0] } }):wpAny (model prog w) A (pyIter (.ref t)) Q E s:=by
 unfold pyIter
 refine wpAny_bind ((tup_special ht T.iter).here ?_)
 show wpAny _ A (callSpecialIfBoundUnlessNone? (.ref t) "__iter__" _ >>= _) Q E s
 refine wpAny_bind (tup_unless (tup_special ht T.iter) slot_tuple_iter (tup_call ht T ti_kind ti_split slot_tuple_iter.plain (args_tuple_iter _) entry_tuple_iter ?_))
 show wpAny _ _ (do ret (← newFields "tuple_iterator" [.ref t,rawInt 0])) _ _ s
 refine wpAny_bind (wpAny_newObj_type (wpAny_pure ⟨_,rfl,?_⟩))
 exact wpAny_bind (wpAny_specialOf ⟨_,Heap.get?_push_size _ rfl,rfl⟩ slot_tupleiter_next.lookup (wpAny_pure hQ))
theorem stop_run {α:Type} {Q:α→Shared→Prop} (hh:A.handled = .none) (h:∀ e h',(Shared.TypeIs { s with heap:=h' } e "StopIteration")→(∀ b o,s.heap.get? b = some o→h'.get? b = some o)→E e { s with heap:=h' }):wpAny (model prog w) A (Builtin.SmallTypes.stopIteration:Sem α) Q E s:=by
 unfold Builtin.SmallTypes.stopIteration newExc newTuple
 refine wpAny_bind (wpAny_bind (wpAny_newObj_type ?_ (by size_fits)))
 refine wpAny_bind (m:=firstArgMember _ _) (wpAny_of_eq (a:=Value.none) (by first | rfl | (simp only [firstArgMember]; rfl)) ?_)
 refine wpAny_newObj_type ?_ (by size_fits)
 unfold raiseNew
 refine wpAny_bind (wpAny_handled ?_)
 rw [hh]
 exact wpAny_bind (wpAny_pure (wpAny_throw (h (.ref _) _ ⟨_,Heap.get?_push_size _ rfl,rfl⟩ fun b o e=>Heap.get?_push_of_some _ (Heap.get?_push_of_some _ e))))
theorem next_seq {it:Addr} {i:Nat} {o:Obj} {n:Nat} {Q:Option Value→Shared→Prop} (hh:A.handled = .none) (hit:IsTupIter s.heap it t i) (ho:s.heap.get? t = some o) (hd:o.data = .seq items n)
  (h1:∀ x h',items[i]? = some x→IsTupIter h' it t (i + 1)→Heap.SameBut it s.heap h'→Q (some x) { s with heap:=h' })
  (h0:∀ h',items[i]? = .none→Heap.ExtBut it s.heap h'→Q .none { s with heap:=h' }):wpAny (model prog w) A (pyNext (.ref it)) Q E s:=by
 obtain ⟨oi,hoi,hci,hdi⟩:=id hit
 unfold pyNext
 refine wpAny_bind (wpAny_attempt (wpAny_callSpecial?_slot (name:=Str.ofString "__next__") hit.typeIs slot_tupleiter_next (wpAny_call_entry slot_tupleiter_next hit.typeIs entry_tupleiter_next ?_ (args_tupleiter_next _))))
 show wpAny _ _ (field (.ref it) 0 >>= _) _ _ s
 refine wpAny_bind (wpAny_field hoi hdi (x:=.ref t) rfl ?_)
 show wpAny _ _ (if (Value.ref t == Value.none) = true then _ else _) _ _ s
 rw [if_neg (show ¬ ((Value.ref t == Value.none) = true) from Bool.false_ne_true)]
 show wpAny _ _ (field (.ref it) 1 >>= _) _ _ s
 refine wpAny_bind (wpAny_field hoi hdi (x:=.int i 0) rfl ?_)
 show wpAny _ _ (seqItems? (.ref t) >>= _) _ _ s
 refine wpAny_bind (wpAny_seqItems ho hd ?_)
 cases hx:items[i]? with
 | some x=>
  simp only [Int.toNat_natCast,hx]
  refine wpAny_bind (wpAny_setField hoi hdi (by simp) (wpAny_pure ⟨x,rfl,wpAny_pure (h1 x _ hx ?_ (Heap.SameBut.update ..))⟩))
  exact ⟨_,Heap.get?_update_self _ hoi (Obj.isFreed_of_fields (Obj.data_mapFields hdi _)),(Obj.cls_mapFields ..).trans hci,by rw [Obj.data_mapFields hdi]; simp [rawInt]⟩
 | none=>
  simp only [Int.toNat_natCast,hx]
  refine wpAny_bind (wpAny_rule (wpAny_bind (wpAny_setField hoi hdi (by simp) ?_)))
  refine stop_run hh fun e h' he hk=>?_
  refine wpAny_bind (wpAny_isInstance (b:=true) he isSubtype_stop ?_)
  exact wpAny_pure (h0 _ hx fun b o hb q=>hk b o ((Heap.SameBut.update ..).extBut b o hb q))
theorem draw_seq {it:Addr} (hh:A.handled = .none) (hne:t≠it):∀ (n i:Nat) (s:Shared) (Q:List Value→Shared→Prop) (o:Obj) (k:Nat),IsTupIter s.heap it t i→s.heap.get? t = some o→o.data = .seq items k→i + n≤items.size →
  (∀ h',IsTupIter h' it t (i + n)→Heap.SameBut it s.heap h'→Q ((items.toList.drop i).take n) { s with heap:=h' })→wpAny (model prog w) A (draw (.ref it) n) Q E s
 | 0,i,s,Q,o,k,hit,_,_,_,hQ=>wpAny_pure (by simpa using hQ s.heap hit (Heap.SameBut.refl ..))
 | n + 1,i,s,Q,o,k,hit,ho,hd,hle,hQ=>by
  have hlt:i < items.size:=Nat.lt_of_lt_of_le (Nat.lt_add_of_pos_right (Nat.succ_pos n)) hle
  have hx:items[i]? = some items[i]:=by simp [hlt]
  refine wpAny_bind (next_seq hh hit ho hd (fun x h1 hx' hit1 hs1=>?_) fun h' e=>by rw [hx] at e; cases e)
  rw [hx] at hx'; cases hx'
  have ho1:h1.get? t = some o:=(hs1.2 t hne).trans ho
  refine wpAny_bind (wpAny_holding (draw_seq hh hne n (i + 1) { s with heap:=h1 } _ o k hit1 ho1 hd (by exact as1 3 (.l (.a Z0 (.a Z1 N1)) Z2) (.l (.a (.a Z0 N1) Z1) Z2) [_,_,_] hle) fun h2 hit2 hs2=>wpAny_pure ?_))
  have hdr:items.toList.drop i = items[i] :: items.toList.drop (i + 1):=by simp [List.drop_eq_getElem_cons,hlt]
  have q:=hQ h2 (by rw [show i + (n + 1) = i + 1 + n by exact as0 2 (.e (.a Z0 (.a Z1 N1)) (.a (.a Z0 N1) Z1)) [_,_]]; exact hit2) (hs1.trans hs2)
  rw [hdr,List.take_succ_cons] at q
  exact q
theorem unpack_tupC {Q:List Value→Shared→Prop} (hh:A.handled = .none) (ht:IsTupOf s.heap (some C) t items) (T:TupX (model prog w) s.heap C)
  (hQ:∀ h',(∀ b o,s.heap.get? b = some o→h'.get? b = some o)→Q items.toList { s with heap:=h' }):wpAny (model prog w) A (unpackItems (.ref t) items.size none) Q E s:=by
 obtain ⟨o,n,ho,hc,hd⟩:=id ht
 have hne:t≠s.heap.objs.size:=Nat.ne_of_lt (Heap.lt_size ho)
 unfold unpackItems notIterableAtAll
 refine wpAny_bind (wpAny_bind ((tup_special ht T.iter).here ?_))
 refine wpAny_pure ?_
 rw [if_neg (by decide)]
 refine wpAny_bind (wpAny_holding (iter_tupC ht T ?_))
 dsimp only
 refine wpAny_bind (wpAny_holding (draw_seq hh hne items.size 0 _ _ o n ⟨_,Heap.get?_push_size _ rfl,rfl,rfl⟩ (Heap.get?_push_of_some _ ho) hd (by exact as0 1 (.l (.a (.n 0) Z0) Z0) [_]) fun h1 hit1 hs1=>?_))
 have hall:List.take items.size (List.drop 0 items.toList) = items.toList:=by rw [List.drop_zero]; exact List.take_of_length_le (by simp)
 rw [hall,if_neg (by simp)]
 have ho1:h1.get? t = some o:=(hs1.2 t hne).trans (Heap.get?_push_of_some _ ho)
 have hno:items[0 + items.size]? = .none:=by simp
 refine wpAny_bind (wpAny_holding (next_seq hh hit1 ho1 hd (fun x h' e=>by rw [hno] at e; cases e) fun h2 _ he2=>?_))
 rw [if_neg (by decide)]
 exact wpAny_pure (hQ h2 fun b ob e=>he2 b ob (Nat.ne_of_lt (Heap.lt_size e)) ((hs1.2 b (Nat.ne_of_lt (Heap.lt_size e))).trans (Heap.get?_push_of_some _ e)))
end
section
variable {c:Ctx} {m:Lo} {H:Hp} {pos:Pos} {K:Frag}
theorem asg_tupC {C:Addr} (hT:∀ h,K.In h→TupX (model c.prog c.w) h C) (B:Base c K) {ts:List Expr} {k1:Nat} {p:Pos} {xs:List At} {Q:Lo→Hp→Prop} (h:AsgL c ts (xs.map .at) m H Q)
  (he:autoParam ((assignEach ts c.env).map (·.2) = ts.map (fun t=>assign t c.env)) auRfl) (hs:autoParam ((assignEach ts c.env).findIdx? (·.1) = .none) auRfl) (hn:autoParam (ts.length = xs.length) auRfl):Asg c (.Tuple ts k1 p) (.tup (some C) xs) m H Q:=fun s va R r P k=>by
 obtain ⟨a,items,rfl,ht,hr⟩:=r
 have hl:(assignEach ts c.env).length = items.size:=by
  rw [← List.length_map (f:=(·.2)),he,List.length_map,hn,← Array.length_toList,hr.length]
 show wpAny _ _ (assign _ _ _) _ _ _
 rw [assign_Tuple]
 refine wpAny_bind (wpAny_standAt ?_)
 unfold unpack
 rw [hl,hs]
 refine wpAny_bind (wpAny_holding (unpack_tupC c.hh ht (hT _ (B.kin _ R.keep)) fun h' hg=>?_))
 rw [he]
 refine AsgL.run h _ _ (R.grow (tkn s s.toks) hg) hr.reps P fun b v m2 H2 h2 tk2 R2 F2 r2 q2=>k b v m2 H2 h2 tk2 R2 ((Fp.grow hg).trans (R.grow (tkn s s.toks) hg).hasL F2) r2 q2
end
noncomputable def RunAt (E:Nat→Nat→Bool) (p q k:Nat):Prop:=∀ t,t < k→E (p + t) (q + t) = true
noncomputable def bk (E:Nat→Nat→Bool):Nat→Nat→Nat
 | 0,j=>if E 0 j = true then 1 else 0
 | i + 1,0=>if E (i + 1) 0 = true then 1 else 0
 | i + 1,j + 1=>if E (i + 1) (j + 1) = true then bk E i j + 1 else 0
theorem bk_zero {E:Nat→Nat→Bool} {i j:Nat} (h:E i j = false):bk E i j = 0:=by
 cases i with
 | zero=>exact if_neg (by rw [h]; decide)
 | succ i=>
  cases j with
  | zero=>exact if_neg (by rw [h]; decide)
  | succ j=>exact if_neg (by rw [h]; decide)
theorem bk_run (E:Nat→Nat→Bool):∀ i j,bk E i j≤i + 1∧bk E i j≤j + 1∧RunAt E (i + 1 - bk E i j) (j + 1 - bk E i j) (bk E i j)
 | 0,j=>by
  by_cases h:E 0 j = true
  ·have e:bk E 0 j = 1:=if_pos h
   rw [e]
   refine ⟨Nat.le_refl _,Nat.succ_le_succ (Nat.zero_le _),fun t ht=>?_⟩
   have:t = 0:=Nat.lt_one_iff.mp ht
   subst this
   exact h
  ·have e:bk E 0 j = 0:=if_neg h
   rw [e]
   exact ⟨Nat.zero_le _,Nat.zero_le _,fun t ht=>nomatch ht⟩
 | i + 1,0=>by
  by_cases h:E (i + 1) 0 = true
  ·have e:bk E (i + 1) 0 = 1:=if_pos h
   rw [e]
   refine ⟨Nat.succ_le_succ (Nat.zero_le _),Nat.le_refl _,fun t ht=>?_⟩
   have:t = 0:=Nat.lt_one_iff.mp ht
   subst this
   exact h
  ·have e:bk E (i + 1) 0 = 0:=if_neg h
   rw [e]
   exact ⟨Nat.zero_le _,Nat.zero_le _,fun t ht=>nomatch ht⟩
 | i + 1,j + 1=>by
  obtain ⟨h1,h2,h3⟩:=bk_run E i j
  by_cases h:E (i + 1) (j + 1) = true
  ·have e:bk E (i + 1) (j + 1) = bk E i j + 1:=if_pos h
   rw [e]
   refine ⟨Nat.succ_le_succ h1,Nat.succ_le_succ h2,fun t ht=>?_⟩
   rw [Nat.add_sub_add_right,Nat.add_sub_add_right]
   rcases Nat.lt_or_ge t (bk E i j) with q | q
   ·exact h3 t q
   ·have:t = bk E i j:=by exact as2 2 (.t Z0 (.a Z1 N1)) (.l Z1 Z0) (.e Z0 Z1) [_,_] ht q
    subst this
    rw [Nat.sub_add_cancel h1,Nat.sub_add_cancel h2]
    exact h
  ·have e:bk E (i + 1) (j + 1) = 0:=if_neg h
   rw [e]
   exact ⟨Nat.zero_le _,Nat.zero_le _,fun t ht=>nomatch ht⟩
theorem bk_most (E:Nat→Nat→Bool):∀ (k i j:Nat),k≤i + 1→k≤j + 1→RunAt E (i + 1 - k) (j + 1 - k) k→k≤bk E i j
 | 0,_,_,_,_,_=>Nat.zero_le _
 | k + 1,i,j,hi,hj,h=>by
  have he:E i j = true:=by
   have:=h k (Nat.lt_succ_self k)
   rwa [show i + 1 - (k + 1) + k = i by exact as1 2 (.l (.a Z0 N1) (.a Z1 N1)) (.e (.a (.s (.a Z1 N1) (.a Z0 N1)) Z0) Z1) [_,_] hi,show j + 1 - (k + 1) + k = j by exact as1 2 (.l (.a Z0 N1) (.a Z1 N1)) (.e (.a (.s (.a Z1 N1) (.a Z0 N1)) Z0) Z1) [_,_] hj] at this
  cases i with
  | zero=>rw [show bk E 0 j = 1 from if_pos he]; exact as1 1 (.l (.a Z0 N1) (.a (.n 0) N1)) (.l (.a Z0 N1) N1) [_] hi
  | succ i=>
   cases j with
   | zero=>rw [show bk E (i + 1) 0 = 1 from if_pos he]; exact as1 1 (.l (.a Z0 N1) (.a (.n 0) N1)) (.l (.a Z0 N1) N1) [_] hj
   | succ j=>
    rw [show bk E (i + 1) (j + 1) = bk E i j + 1 from if_pos he]
    refine Nat.succ_le_succ (bk_most E k i j (by exact as1 2 (.l (.a Z0 N1) (.a (.a Z1 N1) N1)) (.l Z0 (.a Z1 N1)) [_,_] hi) (by exact as1 2 (.l (.a Z0 N1) (.a (.a Z1 N1) N1)) (.l Z0 (.a Z1 N1)) [_,_] hj) fun t ht=>?_)
    have:=h t (Nat.lt_succ_of_lt ht)
    rwa [show i + 1 + 1 - (k + 1) + t = i + 1 - k + t by exact as0 3 (.e (.a (.s (.a (.a Z0 N1) N1) (.a Z1 N1)) Z2) (.a (.s (.a Z0 N1) Z1) Z2)) [_,_,_],show j + 1 + 1 - (k + 1) + t = j + 1 - k + t by exact as0 3 (.e (.a (.s (.a (.a Z0 N1) N1) (.a Z1 N1)) Z2) (.a (.s (.a Z0 N1) Z1) Z2)) [_,_,_]] at this
noncomputable def LexLe (i j p q:Nat):Prop:=i < p ∨ (i = p∧j≤q)
structure BestTo (E:Nat→Nat→Bool) (lo1 lo2:Nat) (P:Nat→Nat→Prop) (bi bj bs:Nat):Prop where
 zero:bs = 0→bi = lo1∧bj = lo2
 run:RunAt E bi bj bs
 seen:0 < bs→P (bi + bs - 1) (bj + bs - 1)
 most:∀ i j k,P i j→k≤i + 1→k≤j + 1→RunAt E (i + 1 - k) (j + 1 - k) k→k≤bs
 first:∀ i j,P i j→0 < bs→bs≤i + 1→bs≤j + 1→RunAt E (i + 1 - bs) (j + 1 - bs) bs→LexLe (bi + bs - 1) (bj + bs - 1) i j
theorem BestTo.start (E:Nat→Nat→Bool) (lo1 lo2:Nat):BestTo E lo1 lo2 (fun _ _=>False) lo1 lo2 0:=
 ⟨fun _=>⟨rfl,rfl⟩,fun t ht=>(nomatch ht),fun h=>(nomatch h),fun _ _ _ h=>h.elim,fun _ _ h=>h.elim⟩
theorem BestTo.same {E:Nat→Nat→Bool} {lo1 lo2:Nat} {P P':Nat→Nat→Prop} {bi bj bs:Nat} (h:BestTo E lo1 lo2 P bi bj bs) (e:∀ i j,P' i j ↔ P i j):BestTo E lo1 lo2 P' bi bj bs:=
 ⟨h.zero,h.run,fun q=>(e _ _).mpr (h.seen q),fun i j k q=>h.most i j k ((e i j).mp q),fun i j q=>h.first i j ((e i j).mp q)⟩
theorem BestTo.keep {E:Nat→Nat→Bool} {lo1 lo2 i j:Nat} {P:Nat→Nat→Prop} {bi bj bs:Nat} (h:BestTo E lo1 lo2 P bi bj bs) (hb:bk E i j≤bs) (hl:∀ p q,P p q→LexLe p q i j) :
  BestTo E lo1 lo2 (fun p q=>P p q ∨ (p = i∧q = j)) bi bj bs where
 zero:=h.zero
 run:=h.run
 seen:=fun q=>.inl (h.seen q)
 most:=fun p q k hp h1 h2 hr=>by
  rcases hp with hp | ⟨rfl,rfl⟩
  ·exact h.most p q k hp h1 h2 hr
  ·exact Nat.le_trans (bk_most E k p q h1 h2 hr) hb
 first:=fun p q hp h0 h1 h2 hr=>by
  rcases hp with hp | ⟨rfl,rfl⟩
  ·exact h.first p q hp h0 h1 h2 hr
  ·exact hl _ _ (h.seen h0)
theorem BestTo.grow {E:Nat→Nat→Bool} {lo1 lo2 i j:Nat} {P:Nat→Nat→Prop} {bi bj bs:Nat} (h:BestTo E lo1 lo2 P bi bj bs) (hb:bs < bk E i j) :
  BestTo E lo1 lo2 (fun p q=>P p q ∨ (p = i∧q = j)) (i + 1 - bk E i j) (j + 1 - bk E i j) (bk E i j):=by
 obtain ⟨h1,h2,h3⟩:=bk_run E i j
 refine ⟨fun q=>?_,h3,fun _=>.inr ⟨by exact as1 2 (.l Z0 (.a Z1 N1)) (.e (.s (.a (.s (.a Z1 N1) Z0) Z0) N1) Z1) [_,_] h1,by exact as1 2 (.l Z0 (.a Z1 N1)) (.e (.s (.a (.s (.a Z1 N1) Z0) Z0) N1) Z1) [_,_] h2⟩,fun p q k hp k1 k2 hr=>?_,fun p q hp h0 k1 k2 hr=>?_⟩
 ·exact as2 6 (.t Z0 Z1) (.e Z1 (.n 0)) (.an (.e (.s (.a Z2 N1) Z1) Z3) (.e (.s (.a Z4 N1) Z1) Z5)) [_,_,_,_,_,_] hb q
 ·rcases hp with hp | ⟨rfl,rfl⟩
  ·exact Nat.le_trans (h.most p q k hp k1 k2 hr) (Nat.le_of_lt hb)
  ·exact bk_most E k p q k1 k2 hr
 ·rcases hp with hp | ⟨rfl,rfl⟩
  ·exact absurd (h.most p q _ hp k1 k2 hr) (Nat.not_le_of_lt hb)
  ·exact .inr ⟨by exact as1 2 (.l Z0 (.a Z1 N1)) (.e (.s (.a (.s (.a Z1 N1) Z0) Z0) N1) Z1) [_,_] h1,by exact as1 2 (.l Z0 (.a Z1 N1)) (.l (.s (.a (.s (.a Z1 N1) Z0) Z0) N1) Z1) [_,_] h2⟩
structure BestFr (E:Nat→Nat→Bool) (P:Nat→Nat→Prop) (bi bj bs:Nat):Prop where
 zero:bs = 0→bi = 0∧bj = 0
 run:RunAt E bi bj bs
 seen:0 < bs→P bi bj
 most:∀ p q k,P p q→RunAt E p q k→k≤bs
 first:∀ p q,P p q→0 < bs→RunAt E p q bs→LexLe bi bj p q
noncomputable def OkTo (e d:Nat→Bool) (n:Nat):Prop:=(∀ t,t < n→e t = true)∧∃ k,k≤n∧(∀ t,t < k→d t = false)∧∀ t,k≤t→t < n→d t = true
noncomputable def GrownTo (e d:Nat→Bool) (n:Nat):Prop:=OkTo e d n∧¬ OkTo e d (n + 1)
theorem OkTo.less {e d:Nat→Bool} {n k:Nat} (h:OkTo e d n) (hk:k≤n):OkTo e d k:=by
 obtain ⟨h1,m,hm,h2,h3⟩:=h
 refine ⟨fun t ht=>h1 t (Nat.lt_of_lt_of_le ht hk),?_⟩
 rcases Nat.le_total m k with q | q
 ·exact ⟨m,q,h2,fun t a b=>h3 t a (Nat.lt_of_lt_of_le b hk)⟩
 ·exact ⟨k,Nat.le_refl _,fun t ht=>h2 t (Nat.lt_of_lt_of_le ht q),fun t a b=>absurd b (Nat.not_lt.mpr a)⟩
theorem GrownTo.le {e d:Nat→Bool} {n k:Nat} (h:GrownTo e d n) (hk:OkTo e d k):k≤n:=by
 rcases Nat.lt_or_ge n k with q | q
 ·exact absurd (hk.less q) h.2
 ·exact q
theorem grown_of {e d:Nat→Bool} {l n:Nat} (hl:l≤n) (h1:∀ t,t < l→e t = true∧d t = false) (s1:¬ (e l = true∧d l = false)) (h2:∀ t,l≤t→t < n→e t = true∧d t = true) (s2:¬ (e n = true∧d n = true)):GrownTo e d n:=by
 refine ⟨⟨fun t ht=>?_,l,hl,fun t ht=>(h1 t ht).2,fun t a b=>(h2 t a b).2⟩,?_⟩
 ·rcases Nat.lt_or_ge t l with q | q
  ·exact (h1 t q).1
  ·exact (h2 t q ht).1
 ·rintro ⟨g1,k,hk,g2,g3⟩
  have en:=g1 n (Nat.lt_succ_self n)
  cases hd:d n with
  | true=>exact s2 ⟨en,hd⟩
  | false=>
   have hkn:n < k:=by
    rcases Nat.lt_or_ge n k with q | q
    ·exact q
    ·have:=g3 n q (Nat.lt_succ_self n); rw [hd] at this; cases this
   rcases Nat.lt_or_ge l n with q | q
   ·have a:=(h2 l (Nat.le_refl _) q).2
    have b:=g2 l (Nat.lt_trans q hkn)
    rw [a] at b; cases b
   ·have:l = n:=Nat.le_antisymm hl q
    subst this
    exact s1 ⟨en,hd⟩
noncomputable def eqL (q:Nat→Nat→Bool) (alo blo bi bj t:Nat):Bool:=decide (alo + t < bi) && decide (blo + t < bj) && q (bi - 1 - t) (bj - 1 - t)
noncomputable def eqR (q:Nat→Nat→Bool) (ahi bhi ei ej t:Nat):Bool:=decide (ei + t < ahi) && decide (ej + t < bhi) && q (ei + t) (ej + t)
noncomputable def FlmR (q E:Nat→Nat→Bool) (d:Nat→Bool) (alo ahi blo bhi i j k:Nat):Prop:=
 ∃ bi bj bz l r,BestTo E alo blo (fun p q=>E p q = true) bi bj bz∧GrownTo (eqL q alo blo bi bj) (fun t=>d (bj - 1 - t)) l∧GrownTo (eqR q ahi bhi (bi + bz) (bj + bz)) (fun t=>d (bj + bz + t)) r∧i = bi - l∧j = bj - l∧k = l + bz + r
abbrev Tri:=Nat × Nat × Nat
noncomputable def winE (E:Nat→Nat→Bool) (alo ahi blo bhi i j:Nat):Bool:=decide (alo≤i) && decide (i < ahi) && decide (blo≤j) && decide (j < bhi) && E i j
theorem winE_iff {E:Nat→Nat→Bool} {alo ahi blo bhi i j:Nat}:winE E alo ahi blo bhi i j = true ↔ alo≤i∧i < ahi∧blo≤j∧j < bhi∧E i j = true:=by
 unfold winE; simp only [Bool.and_eq_true,decide_eq_true_eq,and_assoc]
theorem eqL_iff {q:Nat→Nat→Bool} {alo blo bi bj t:Nat}:eqL q alo blo bi bj t = true ↔ alo + t < bi∧blo + t < bj∧q (bi - 1 - t) (bj - 1 - t) = true:=by
 unfold eqL; simp only [Bool.and_eq_true,decide_eq_true_eq,and_assoc]
theorem eqR_iff {q:Nat→Nat→Bool} {ahi bhi ei ej t:Nat}:eqR q ahi bhi ei ej t = true ↔ ei + t < ahi∧ej + t < bhi∧q (ei + t) (ej + t) = true:=by
 unfold eqR; simp only [Bool.and_eq_true,decide_eq_true_eq,and_assoc]
theorem okL_le {q:Nat→Nat→Bool} {d:Nat→Bool} {alo blo bi bj l:Nat} (h:OkTo (eqL q alo blo bi bj) d l) (h1:alo≤bi) (h2:blo≤bj):alo + l≤bi∧blo + l≤bj:=by
 cases l with
 | zero=>exact ⟨h1,h2⟩
 | succ l=>have:=eqL_iff.mp (h.1 l (Nat.lt_succ_self l)); exact as2 5 (.t (.a Z0 Z1) Z2) (.t (.a Z3 Z1) Z4) (.an (.l (.a Z0 (.a Z1 N1)) Z2) (.l (.a Z3 (.a Z1 N1)) Z4)) [_,_,_,_,_] this.1 this.2.1
theorem okR_le {q:Nat→Nat→Bool} {d:Nat→Bool} {ahi bhi ei ej l:Nat} (h:OkTo (eqR q ahi bhi ei ej) d l) (h1:ei≤ahi) (h2:ej≤bhi):ei + l≤ahi∧ej + l≤bhi:=by
 cases l with
 | zero=>exact ⟨h1,h2⟩
 | succ l=>have:=eqR_iff.mp (h.1 l (Nat.lt_succ_self l)); exact as2 5 (.t (.a Z0 Z1) Z2) (.t (.a Z3 Z1) Z4) (.an (.l (.a Z0 (.a Z1 N1)) Z2) (.l (.a Z3 (.a Z1 N1)) Z4)) [_,_,_,_,_] this.1 this.2.1
section
variable {q E:Nat→Nat→Bool} {d:Nat→Bool} {alo ahi blo bhi i j k:Nat}
theorem best_in {bi bj bz:Nat} (h1:alo≤ahi) (h2:blo≤bhi) (h:BestTo (winE E alo ahi blo bhi) alo blo (fun p q=>winE E alo ahi blo bhi p q = true) bi bj bz):alo≤bi∧bi + bz≤ahi∧blo≤bj∧bj + bz≤bhi:=by
 rcases Nat.eq_zero_or_pos bz with z | z
 ·obtain ⟨rfl,rfl⟩:=h.zero z; exact as3 5 (.e Z0 (.n 0)) (.l Z1 Z2) (.l Z3 Z4) (.an (.l Z1 Z1) (.an (.l (.a Z1 Z0) Z2) (.an (.l Z3 Z3) (.l (.a Z3 Z0) Z4)))) [_,_,_,_,_] z h1 h2
 ·have a1:=winE_iff.mp (h.run 0 z)
  have a2:=winE_iff.mp (h.seen z)
  exact as4 7 (.l Z0 (.a Z1 (.n 0))) (.l Z2 (.a Z3 (.n 0))) (.t (.s (.a Z1 Z4) N1) Z5) (.t (.s (.a Z3 Z4) N1) Z6) (.an (.l Z0 Z1) (.an (.l (.a Z1 Z4) Z5) (.an (.l Z2 Z3) (.l (.a Z3 Z4) Z6)))) [_,_,_,_,_,_,_] a1.1 a1.2.2.1 a2.2.1 a2.2.2.2.1
theorem flmR_in (h1:alo≤ahi) (h2:blo≤bhi) (h:FlmR q (winE E alo ahi blo bhi) d alo ahi blo bhi i j k):alo≤i∧i + k≤ahi∧blo≤j∧j + k≤bhi:=by
 obtain ⟨bi,bj,bz,l,r,hb,hl,hr,rfl,rfl,rfl⟩:=h
 obtain ⟨a1,a2,a3,a4⟩:=best_in h1 h2 hb
 obtain ⟨b1,b2⟩:=okL_le hl.1 a1 a3
 obtain ⟨c1,c2⟩:=okR_le hr.1 a2 a4
 exact as4 9 (.l (.a Z0 Z1) Z2) (.l (.a Z3 Z1) Z4) (.l (.a (.a Z2 Z5) Z6) Z7) (.l (.a (.a Z4 Z5) Z6) Z8) (.an (.l Z0 (.s Z2 Z1)) (.an (.l (.a (.s Z2 Z1) (.a (.a Z1 Z5) Z6)) Z7) (.an (.l Z3 (.s Z4 Z1)) (.l (.a (.s Z4 Z1) (.a (.a Z1 Z5) Z6)) Z8)))) [_,_,_,_,_,_,_,_,_] b1 b2 c1 c2
theorem flmR_empty (h:¬ (alo < ahi∧blo < bhi)):FlmR q (winE E alo ahi blo bhi) d alo ahi blo bhi alo blo 0:=by
 refine ⟨alo,blo,0,0,0,(BestTo.start _ alo blo).same fun p r=>⟨fun x=>?_,fun x=>x.elim⟩,⟨⟨fun t ht=>(nomatch ht),0,Nat.le_refl 0,fun t ht=>(nomatch ht),fun t _ ht=>(nomatch ht)⟩,fun x=>?_⟩,⟨⟨fun t ht=>(nomatch ht),0,Nat.le_refl 0,fun t ht=>(nomatch ht),fun t _ ht=>(nomatch ht)⟩,fun x=>?_⟩,rfl,rfl,rfl⟩
 ·have:=winE_iff.mp x; exact as5 6 (.no (.an (.t Z0 Z1) (.t Z2 Z3))) (.l Z0 Z4) (.t Z4 Z1) (.l Z2 Z5) (.t Z5 Z3) .f [_,_,_,_,_,_] h this.1 this.2.1 this.2.2.1 this.2.2.2.1
 ·have:=eqL_iff.mp (x.1 0 Nat.one_pos); exact as1 1 (.t (.a Z0 (.n 0)) Z0) .f [_] this.2.1
 ·have:=eqR_iff.mp (x.1 0 Nat.one_pos); exact as3 4 (.no (.an (.t Z0 Z1) (.t Z2 Z3))) (.t (.a (.a Z0 (.n 0)) (.n 0)) Z1) (.t (.a (.a Z2 (.n 0)) (.n 0)) Z3) .f [_,_,_,_] h this.1 this.2.1
end
inductive Blk (q E:Nat→Nat→Bool) (d:Nat→Bool):Nat→Nat→Nat→Nat→List Tri→Prop
 | none {alo ahi blo bhi i j:Nat}:FlmR q (winE E alo ahi blo bhi) d alo ahi blo bhi i j 0→Blk q E d alo ahi blo bhi []
 | some {alo ahi blo bhi i j k:Nat} {L1 L2:List Tri}:FlmR q (winE E alo ahi blo bhi) d alo ahi blo bhi i j k→0 < k→Blk q E d alo i blo j L1→Blk q E d (i + k) ahi (j + k) bhi L2→Blk q E d alo ahi blo bhi (L1 ++ (i,j,k) :: L2)
noncomputable def Ahead (x y:Tri):Prop:=x.1 + x.2.2≤y.1∧x.2.1 + x.2.2≤y.2.1
noncomputable def Inside (alo ahi blo bhi:Nat) (x:Tri):Prop:=alo≤x.1∧x.1 + x.2.2≤ahi∧blo≤x.2.1∧x.2.1 + x.2.2≤bhi∧0 < x.2.2
theorem Blk.props {q E:Nat→Nat→Bool} {d:Nat→Bool} {alo ahi blo bhi:Nat} {L:List Tri} (h:Blk q E d alo ahi blo bhi L):alo≤ahi→blo≤bhi→(∀ x∈L,Inside alo ahi blo bhi x)∧L.Pairwise Ahead∧L.length≤ahi - alo∧L.length≤bhi - blo:=by
 induction h with
 | none _=>intro _ _; exact ⟨fun x hx=>(nomatch hx),.nil,Nat.zero_le _,Nat.zero_le _⟩
 | @some alo ahi blo bhi i j k L1 L2 hf hk _ _ ih1 ih2=>
  intro h1 h2
  obtain ⟨a1,a2,a3,a4⟩:=flmR_in h1 h2 hf
  obtain ⟨b1,b2,b3,b4⟩:=ih1 a1 a3
  obtain ⟨c1,c2,c3,c4⟩:=ih2 a2 a4
  have in1:∀ x∈L1,Inside alo ahi blo bhi x∧x.1 + x.2.2≤i∧x.2.1 + x.2.2≤j:=fun x hx=>by
   have:=b1 x hx
   unfold Inside at this ⊢
   exact as3 10 (.l (.a Z0 Z1) Z2) (.l (.a Z3 Z1) Z4) (.an (.l Z5 Z6) (.an (.l (.a Z6 Z7) Z0) (.an (.l Z8 Z9) (.an (.l (.a Z9 Z7) Z3) (.t (.n 0) Z7))))) (.an (.an (.l Z5 Z6) (.an (.l (.a Z6 Z7) Z2) (.an (.l Z8 Z9) (.an (.l (.a Z9 Z7) Z4) (.t (.n 0) Z7))))) (.an (.l (.a Z6 Z7) Z0) (.l (.a Z9 Z7) Z3))) [_,_,_,_,_,_,_,_,_,_] a2 a4 this
  have in2:∀ x∈L2,Inside alo ahi blo bhi x∧i + k≤x.1∧j + k≤x.2.1:=fun x hx=>by
   have:=c1 x hx
   unfold Inside at this ⊢
   exact as3 10 (.l Z0 Z1) (.l Z2 Z3) (.an (.l (.a Z1 Z4) Z5) (.an (.l (.a Z5 Z6) Z7) (.an (.l (.a Z3 Z4) Z8) (.an (.l (.a Z8 Z6) Z9) (.t (.n 0) Z6))))) (.an (.an (.l Z0 Z5) (.an (.l (.a Z5 Z6) Z7) (.an (.l Z2 Z8) (.an (.l (.a Z8 Z6) Z9) (.t (.n 0) Z6))))) (.an (.l (.a Z1 Z4) Z5) (.l (.a Z3 Z4) Z8))) [_,_,_,_,_,_,_,_,_,_] a1 a3 this
  refine ⟨fun x hx=>?_,?_,?_,?_⟩
  ·rcases List.mem_append.mp hx with hx | hx
   ·exact (in1 x hx).1
   rcases List.mem_cons.mp hx with rfl | hx
   ·exact ⟨a1,a2,a3,a4,hk⟩
   ·exact (in2 x hx).1
  ·rw [List.pairwise_append,List.pairwise_cons]
   refine ⟨b2,⟨fun y hy=>(in2 y hy).2,c2⟩,fun x hx y hy=>?_⟩
   have hx1:=(in1 x hx).2
   rcases List.mem_cons.mp hy with rfl | hy
   ·exact hx1
   ·have hy1:=(in2 y hy).2
    exact ⟨by exact as2 8 (.an (.l (.a Z0 Z1) Z2) (.l (.a Z3 Z1) Z4)) (.an (.l (.a Z2 Z5) Z6) (.l (.a Z4 Z5) Z7)) (.l (.a Z0 Z1) Z6) [_,_,_,_,_,_,_,_] hx1 hy1,by exact as2 8 (.an (.l (.a Z0 Z1) Z2) (.l (.a Z3 Z1) Z4)) (.an (.l (.a Z2 Z5) Z6) (.l (.a Z4 Z5) Z7)) (.l (.a Z3 Z1) Z7) [_,_,_,_,_,_,_,_] hx1 hy1⟩
  ·rw [List.length_append,List.length_cons]; exact as5 6 (.t (.n 0) Z0) (.l Z1 Z2) (.l (.a Z2 Z0) Z3) (.l Z4 (.s Z2 Z1)) (.l Z5 (.s Z3 (.a Z2 Z0))) (.l (.a Z4 (.a Z5 N1)) (.s Z3 Z1)) [_,_,_,_,_,_] hk a1 a2 b3 c3
  ·rw [List.length_append,List.length_cons]; exact as5 6 (.t (.n 0) Z0) (.l Z1 Z2) (.l (.a Z2 Z0) Z3) (.l Z4 (.s Z2 Z1)) (.l Z5 (.s Z3 (.a Z2 Z0))) (.l (.a Z4 (.a Z5 N1)) (.s Z3 Z1)) [_,_,_,_,_,_] hk a3 a4 b4 c4
abbrev Win:=Nat × Nat × Nat × Nat
noncomputable def Win.Blk (q E:Nat→Nat→Bool) (d:Nat→Bool) (w:Win) (L:List Tri):Prop:=Mine.Blk q E d w.1 w.2.1 w.2.2.1 w.2.2.2 L
inductive Blks (q E:Nat→Nat→Bool) (d:Nat→Bool):List Win→List (List Tri)→Prop
 | nil:Blks q E d [] []
 | cons {w:Win} {ws:List Win} {L:List Tri} {Ls:List (List Tri)}:w.Blk q E d L→Blks q E d ws Ls→Blks q E d (w :: ws) (L :: Ls)
theorem Blks.append {q E:Nat→Nat→Bool} {d:Nat→Bool} {ws ws':List Win} {Ls Ls':List (List Tri)} (h:Blks q E d ws Ls) (h':Blks q E d ws' Ls'):Blks q E d (ws ++ ws') (Ls ++ Ls'):=by
 induction h with
 | nil=>exact h'
 | cons a _ ih=>exact .cons a ih
theorem Blks.split {q E:Nat→Nat→Bool} {d:Nat→Bool}:∀ {ws ws':List Win} {Ls:List (List Tri)},Blks q E d (ws ++ ws') Ls→∃ L1 L2,Ls = L1 ++ L2∧Blks q E d ws L1∧Blks q E d ws' L2
 | [],_,Ls,h=>⟨[],Ls,rfl,.nil,h⟩
 | w :: ws,ws',_,h=>by
  cases h with
  | cons a b=>obtain ⟨L1,L2,rfl,h1,h2⟩:=Blks.split b; exact ⟨_ :: L1,L2,rfl,.cons a h1,h2⟩
noncomputable def Todo (q E:Nat→Nat→Bool) (d:Nat→Bool) (la lb:Nat) (ws:List Win) (ms:List Tri):Prop:=∀ Ls,Blks q E d ws Ls→∃ L,Blk q E d 0 la 0 lb L∧List.Perm (ms ++ Ls.flatten) L
theorem Todo.start {q E:Nat→Nat→Bool} {d:Nat→Bool} {la lb:Nat}:Todo q E d la lb [(0,la,0,lb)] []:=fun Ls h=>by
 cases h with
 | cons a b=>
  cases b
  exact ⟨_,a,by simp⟩
theorem Todo.done {q E:Nat→Nat→Bool} {d:Nat→Bool} {la lb:Nat} {ms:List Tri} (h:Todo q E d la lb [] ms):∃ L,Blk q E d 0 la 0 lb L∧List.Perm ms L:=by
 obtain ⟨L,h1,h2⟩:=h [] .nil
 exact ⟨L,h1,by simpa using h2⟩
section
variable {q E:Nat→Nat→Bool} {d:Nat→Bool} {la lb alo ahi blo bhi i j k:Nat} {ws:List Win} {ms:List Tri}
theorem Todo.skip (h:Todo q E d la lb (ws ++ [(alo,ahi,blo,bhi)]) ms) (hf:FlmR q (winE E alo ahi blo bhi) d alo ahi blo bhi i j 0):Todo q E d la lb ws ms:=fun Ls hL=>by
 obtain ⟨L,h1,h2⟩:=h (Ls ++ [[]]) (hL.append (.cons (.none hf) .nil))
 exact ⟨L,h1,by simpa using h2⟩
noncomputable def sideW (b:Bool) (w:Win):List Win:=if b then [w] else []
theorem Blks.side {b:Bool} {w:Win} {Ls:List (List Tri)} (hb:b = true ∨ w.Blk q E d []) (h:Blks q E d (sideW b w) Ls):∃ L,w.Blk q E d L∧Ls.flatten = L:=by
 cases b with
 | true=>
  cases h with
  | cons a b=>cases b; exact ⟨_,a,by simp⟩
 | false=>
  cases h
  exact ⟨[],hb.resolve_left nofun,rfl⟩
theorem Todo.turn (h:Todo q E d la lb (ws ++ [(alo,ahi,blo,bhi)]) ms) (hf:FlmR q (winE E alo ahi blo bhi) d alo ahi blo bhi i j k) (hk:0 < k) :
  Todo q E d la lb (ws ++ sideW (decide (alo < i) && decide (blo < j)) (alo,i,blo,j) ++ sideW (decide (i + k < ahi) && decide (j + k < bhi)) (i + k,ahi,j + k,bhi)) (ms ++ [(i,j,k)]):=fun Ls hL=>by
 obtain ⟨Lx,L3,rfl,hx,h3⟩:=hL.split
 obtain ⟨L1,L2,rfl,h1,h2⟩:=hx.split
 obtain ⟨A,hA,eA⟩:=h2.side (by
  cases e:(decide (alo < i) && decide (blo < j)) with
  | true=>exact .inl rfl
  | false=>refine .inr (.none (flmR_empty fun x=>?_)); rw [decide_eq_true x.1,decide_eq_true x.2] at e; cases e)
 obtain ⟨B,hB,eB⟩:=h3.side (by
  cases e:(decide (i + k < ahi) && decide (j + k < bhi)) with
  | true=>exact .inl rfl
  | false=>refine .inr (.none (flmR_empty fun x=>?_)); rw [decide_eq_true x.1,decide_eq_true x.2] at e; cases e)
 obtain ⟨L,g1,g2⟩:=h (L1 ++ [A ++ (i,j,k) :: B]) (h1.append (.cons (.some hf hk hA hB) .nil))
 refine ⟨L,g1,List.Perm.trans ?_ g2⟩
 rw [List.flatten_append,List.flatten_append,List.flatten_append,eA,eB,List.append_assoc,List.append_assoc]
 refine List.Perm.append_left ms ?_
 rw [List.flatten_cons,List.flatten_nil,List.append_nil,← List.append_assoc L1.flatten,List.singleton_append,← List.append_assoc L1.flatten]
 exact List.perm_middle.symm
end
noncomputable def todoN (ws:List Win):Nat:=(ws.map fun w=>2 * (w.2.1 - w.1) + 1).sum
theorem todoN_append (ws ws':List Win):todoN (ws ++ ws') = todoN ws + todoN ws':=by unfold todoN; rw [List.map_append,List.sum_append]
theorem todoN_len:∀ ws:List Win,ws.length≤todoN ws
 | []=>Nat.zero_le _
 | w :: ws=>by have:=todoN_len ws; unfold todoN at this ⊢; rw [List.map_cons,List.sum_cons,List.length_cons]; exact as1 4 (.l Z0 Z1) (.l (.a Z0 N1) (.a (.a (.m 2 (.s Z2 Z3)) N1) Z1)) [_,_,_,_] this
theorem todoN_side (b:Bool) (w:Win):todoN (sideW b w)≤2 * (w.2.1 - w.1) + 1:=by
 unfold sideW todoN
 cases b <;> simp
theorem sorted_same:∀ {L L':List Tri},L.Pairwise Ahead→(∀ x∈L,0 < x.2.2)→L'.Perm L→L'.Pairwise (fun x y=>x.1≤y.1)→L' = L
 | [],L',_,_,p,_=>p.eq_nil
 | x :: L,L',h,hk,p,s=>by
  cases L' with
  | nil=>exact absurd p.length_eq (by simp)
  | cons y L'=>
   have hy:y∈x :: L:=p.subset mS
   have hx:x∈y :: L':=p.symm.subset mS
   have e:y = x:=by
    rcases List.mem_cons.mp hy with e | hy
    ·exact e
    ·rcases List.mem_cons.mp hx with e | hx
     ·exact e.symm
     ·have a:=(List.pairwise_cons.mp h).1 y hy
      have b:=(List.pairwise_cons.mp s).1 x hx
      have:=hk x mS
      unfold Ahead at a
      exfalso; exact as3 5 (.an (.l (.a Z0 Z1) Z2) (.l (.a Z3 Z1) Z4)) (.l Z2 Z0) (.t (.n 0) Z1) .f [_,_,_,_,_] a b this
   subst e
   rw [sorted_same (List.pairwise_cons.mp h).2 (fun x hx=>hk x (mT hx)) (List.perm_cons _ |>.mp p) (List.pairwise_cons.mp s).2]
theorem ahead_first {L:List Tri} (h:L.Pairwise Ahead) (hk:∀ x∈L,0 < x.2.2):∀ x∈L,∀ y∈L,x.1 = y.1→x = y:=fun x hx y hy e=>by
 induction h with
 | nil=>cases hx
 | cons a _ ih=>
  rcases List.mem_cons.mp hx with rfl | hx1 <;> rcases List.mem_cons.mp hy with rfl | hy1
  ·rfl
  ·exact absurd e (Nat.ne_of_lt (Nat.lt_of_lt_of_le (Nat.lt_add_of_pos_right (hk x hx)) (a y hy1).1))
  ·exact absurd e.symm (Nat.ne_of_lt (Nat.lt_of_lt_of_le (Nat.lt_add_of_pos_right (hk y hy)) (a x hx1).1))
  ·exact ih (fun z hz=>hk z (mT hz)) hx1 hy1
noncomputable def mrg:Tri→List Tri→List Tri
 | (i1,j1,k1),[]=>if k1 = 0 then [] else [(i1,j1,k1)]
 | (i1,j1,k1),(i2,j2,k2) :: r=>if i1 + k1 = i2∧j1 + k1 = j2 then mrg (i1,j1,k1 + k2) r else (if k1 = 0 then [] else [(i1,j1,k1)]) ++ mrg (i2,j2,k2) r
theorem mrg_nil (i j k:Nat):mrg (i,j,k) [] = if k = 0 then [] else [(i,j,k)]:=rfl
theorem mrg_cons (i1 j1 k1 i2 j2 k2:Nat) (r:List Tri):mrg (i1,j1,k1) ((i2,j2,k2) :: r) = if i1 + k1 = i2∧j1 + k1 = j2 then mrg (i1,j1,k1 + k2) r else (if k1 = 0 then [] else [(i1,j1,k1)]) ++ mrg (i2,j2,k2) r:=rfl
theorem mrg_len:∀ (L:List Tri) (x:Tri),(mrg x L).length≤L.length + 1
 | [],(i,j,k)=>by rw [mrg_nil]; split <;> simp
 | (i2,j2,k2) :: r,(i,j,k)=>by
  rw [mrg_cons]
  split
  ·exact Nat.le_succ_of_le (mrg_len r _)
  ·have:=mrg_len r (i2,j2,k2)
   rw [List.length_append]
   split <;> simp <;> (first | exact as1 2 (.l Z0 (.a Z1 N1)) (.l Z0 (.a (.a Z1 N1) N1)) [_,_] this | exact as1 2 (.l Z0 (.a Z1 N1)) (.l (.a N1 Z0) (.a (.a Z1 N1) N1)) [_,_] this)
section
open PySem PyProof.Rows
noncomputable def Rk (rk:Keyed→Int) (xs:Array Keyed) (i:Nat):Int:=match xs[i]? with
 | some p=>rk p
 | none=>0
noncomputable def SoOn (rk:Keyed→Int) (xs:Array Keyed) (lo n:Nat):Prop:=∀ i j,i≤j→j < n→Rk rk xs (lo + i)≤Rk rk xs (lo + j)
noncomputable def NiOn (rk:Keyed→Int) (xs:Array Keyed) (lo n:Nat):Prop:=∀ i j,i≤j→j < n→Rk rk xs (lo + j)≤Rk rk xs (lo + i)
noncomputable def LtOk (prog:Program) (w:World) (A:Around) (E:Value→Shared→Prop) (s:Shared) (kd:SortKind) (U:Keyed→Prop) (rk:Keyed→Int):Prop:=
 ∀ p q st (Q:Option Bool→SortSt→Prop),U p→U q→PyProof.Rows.kindOf st = kd→Q (some (decide (rk p < rk q))) st→wpS (model prog w) A E s (lt' p q) Q st
structure SB (kd:SortKind) (U:Keyed→Prop) (a₀:Array Keyed) (lo:Nat) (pd:Array (Nat × Nat × Nat)) (st:SortSt):Prop where
 perm:(arrOf st).Perm a₀
 pre:∀ i,i < lo→(arrOf st)[i]? = a₀[i]?
 kind:PyProof.Rows.kindOf st = kd
 failed:failedOf st = none
 pend:pendingOf st = pd
 all:∀ p,p∈a₀.toList→U p
section
variable {σ α:Type} {M:Model} {A:Around} {E:Value→Shared→Prop} {s:Shared} {c:Prop} [Decidable c] {t e:StateT σ Sem α} {Q:α→σ→Prop} {st:σ}
theorem wif_t (h:c) (k:wpS M A E s t Q st):wpS M A E s (if c then t else e) Q st:=by rw [if_pos h]; exact k
theorem wif_f (h:¬c) (k:wpS M A E s e Q st):wpS M A E s (if c then t else e) Q st:=by rw [if_neg h]; exact k
theorem wif (k1:c→wpS M A E s t Q st) (k2:¬c→wpS M A E s e Q st):wpS M A E s (if c then t else e) Q st:=by
 by_cases h:c
 ·exact wif_t h (k1 h)
 ·exact wif_f h (k2 h)
end
section
variable {kd:SortKind} {U:Keyed→Prop} {rk:Keyed→Int} {a₀:Array Keyed} {lo:Nat} {pd:Array (Nat × Nat × Nat)} {st:SortSt}
theorem SB.size (h:SB kd U a₀ lo pd st):(arrOf st).size = a₀.size:=h.perm.size_eq
theorem SB.setArr (h:SB kd U a₀ lo pd st) {xs:Array Keyed} (hp:xs.Perm (arrOf st)) (hq:∀ i,i < lo→xs[i]? = (arrOf st)[i]?):SB kd U a₀ lo pd (setArr st xs):=
 ⟨hp.trans h.perm,fun i hi=>(hq i hi).trans (h.pre i hi),h.kind,h.failed,h.pend,h.all⟩
theorem SB.at (h:SB kd U a₀ lo pd st) {i:Nat} (hi:i < a₀.size):∃ p,(arrOf st)[i]? = some p∧U p∧Rk rk (arrOf st) i = rk p:=by
 have hi':i < (arrOf st).size:=by rw [h.size]; exact hi
 have hm:(arrOf st)[i]∈a₀.toList:=(Array.perm_iff_toList_perm.mp h.perm).mem_iff.mp (by simp)
 have e:(arrOf st)[i]? = some (arrOf st)[i]:=getElem?_pos _ i hi'
 refine ⟨_,e,h.all _ hm,?_⟩
 unfold Rk; rw [e]
theorem Rk_congr {xs ys:Array Keyed} {i j:Nat} (h:xs[i]? = ys[j]?):Rk rk xs i = Rk rk ys j:=by unfold Rk; rw [h]
theorem Rk_bubble {xs:Array Keyed} {src d:Nat} (hs:src < xs.size) (hd:d≤src) (k:Nat) :
  Rk rk (bubble xs src d) k = if k = src - d then Rk rk xs src else if src - d < k∧k≤src then Rk rk xs (k - 1) else Rk rk xs k:=by
 have e:=getElem?_bubble hs d hd k
 by_cases h1:k = src - d
 ·rw [if_pos h1] at e ⊢; exact Rk_congr e
 ·rw [if_neg h1] at e ⊢
  by_cases h2:src - d < k∧k≤src
  ·rw [if_pos h2] at e ⊢; exact Rk_congr e
  ·rw [if_neg h2] at e ⊢; exact Rk_congr e
theorem Rk_mirror {xs:Array Keyed} {i j:Nat} (hj:j≤xs.size) (k:Nat) :
  Rk rk (mirror xs i j ((j - i) / 2)) k = if i≤k∧k < j then Rk rk xs (i + j - 1 - k) else Rk rk xs k:=by
 have e:=getElem?_mirror_all (i:=i) hj k
 by_cases h1:i≤k∧k < j
 ·rw [if_pos h1] at e ⊢; exact Rk_congr e
 ·rw [if_neg h1] at e ⊢; exact Rk_congr e
theorem Rk_mirror_equal {xs:Array Keyed} {i j:Nat} (hj:j≤xs.size) (heq:∀ k,i≤k→k < j→Rk rk xs k = Rk rk xs (j - 1)) (k:Nat) :
  Rk rk (mirror xs i j ((j - i) / 2)) k = Rk rk xs k:=by
 rw [Rk_mirror hj]
 by_cases h:i≤k∧k < j
 ·obtain ⟨h1,h2⟩:=h
  rw [if_pos ⟨h1,h2⟩,heq _ (by exact as1 3 (.t Z0 Z1) (.l Z2 (.s (.s (.a Z2 Z1) N1) Z0)) [_,_,_] h2) (by exact as2 3 (.l Z0 Z1) (.t Z1 Z2) (.t (.s (.s (.a Z0 Z2) N1) Z1) Z2) [_,_,_] h1 h2),heq k h1 h2]
 ·rw [if_neg h]
theorem bub_le {R f:Nat→Int} {a m b x y:Nat} (hf:∀ x,f x = if x = m then R b else if m < x∧x≤b then R (x - 1) else R x) (H1:∀ x,x < m→a≤x→R x≤R b) (H2:∀ x,m≤x→x < b→R b≤R x) (H3:∀ x y,a≤x→x≤y→y < b→R x≤R y)
  (ham:a≤m) (hmb:m≤b) (h1:a≤x) (h2:x≤y) (h3:y≤b):f x≤f y:=by
 rw [hf,hf]
 by_cases c1:x = m
 ·rw [if_pos c1]
  by_cases d1:y = m
  ·rw [if_pos d1]; exact Int.le_refl _
  ·rw [if_neg d1,if_pos ⟨by exact as3 3 (.l Z0 Z1) (.e Z0 Z2) (.no (.e Z1 Z2)) (.t Z2 Z1) [_,_,_] h2 c1 d1,h3⟩]; exact H2 _ (by exact as3 3 (.l Z0 Z1) (.e Z0 Z2) (.no (.e Z1 Z2)) (.l Z2 (.s Z1 N1)) [_,_,_] h2 c1 d1) (by exact as4 4 (.l Z0 Z1) (.l Z1 Z2) (.e Z0 Z3) (.no (.e Z1 Z3)) (.t (.s Z1 N1) Z2) [_,_,_,_] h2 h3 c1 d1)
 ·rw [if_neg c1]
  by_cases c2:m < x
  ·rw [if_pos ⟨c2,Nat.le_trans h2 h3⟩,if_neg (by exact as2 3 (.l Z0 Z1) (.t Z2 Z0) (.no (.e Z1 Z2)) [_,_,_] h2 c2),if_pos ⟨Nat.lt_of_lt_of_le c2 h2,h3⟩]; exact H3 _ _ (by exact as2 3 (.l Z0 Z1) (.t Z1 Z2) (.l Z0 (.s Z2 N1)) [_,_,_] ham c2) (by exact as1 2 (.l Z0 Z1) (.l (.s Z0 N1) (.s Z1 N1)) [_,_] h2) (by exact as3 4 (.l Z0 Z1) (.l Z1 Z2) (.t Z3 Z0) (.t (.s Z1 N1) Z2) [_,_,_,_] h2 h3 c2)
  ·rw [if_neg fun h=>c2 h.1]
   by_cases d1:y = m
   ·rw [if_pos d1]; exact H1 x (by exact as3 3 (.l Z0 Z1) (.no (.e Z0 Z2)) (.e Z1 Z2) (.t Z0 Z2) [_,_,_] h2 c1 d1) h1
   ·rw [if_neg d1]
    by_cases d2:m < y
    ·rw [if_pos ⟨d2,h3⟩]; exact H3 x (y - 1) h1 (by exact as2 3 (.no (.t Z0 Z1)) (.t Z0 Z2) (.l Z1 (.s Z2 N1)) [_,_,_] c2 d2) (by exact as2 3 (.l Z0 Z1) (.t Z2 Z0) (.t (.s Z0 N1) Z1) [_,_,_] h3 d2)
    ·rw [if_neg fun h=>d2 h.1]; exact H3 x y h1 h2 (by exact as3 3 (.l Z0 Z1) (.no (.e Z2 Z0)) (.no (.t Z0 Z2)) (.t Z2 Z1) [_,_,_] hmb d1 d2)
theorem mirror_pre {xs:Array Keyed} {i j lo:Nat} (hj:j≤xs.size) (hi:lo≤i):∀ k,k < lo→(mirror xs i j ((j - i) / 2))[k]? = xs[k]?:=fun k hk=>by
 rw [getElem?_mirror_all hj,if_neg (by exact as2 4 (.l Z0 Z1) (.t Z2 Z0) (.no (.an (.l Z1 Z2) (.t Z2 Z3))) [_,_,_,_] hi hk)]
theorem bubble_pre {xs:Array Keyed} {src d lo:Nat} (hs:src < xs.size) (hd:d≤src) (hl:lo≤src - d):∀ k,k < lo→(bubble xs src d)[k]? = xs[k]?:=fun k hk=>by
 rw [getElem?_bubble hs d hd,if_neg (by exact as2 4 (.l Z0 (.s Z1 Z2)) (.t Z3 Z0) (.no (.e Z3 (.s Z1 Z2))) [_,_,_,_] hl hk),if_neg (by exact as2 4 (.l Z0 (.s Z1 Z2)) (.t Z3 Z0) (.no (.an (.t (.s Z1 Z2) Z3) (.l Z3 Z1))) [_,_,_,_] hl hk)]
end
section
variable {prog:Program} {w:World} {A:Around} {E:Value→Shared→Prop} {s:Shared}
variable {kd:SortKind} {U:Keyed→Prop} {rk:Keyed→Int} {a₀:Array Keyed} {lo:Nat} {pd:Array (Nat × Nat × Nat)} {st:SortSt}
theorem wpS_ltR (L:LtOk prog w A E s kd U rk) {i j:Nat} {Q:Option Bool→SortSt→Prop} (hB:SB kd U a₀ lo pd st) (hi:i < a₀.size) (hj:j < a₀.size)
  (h:Q (some (decide (Rk rk (arrOf st) i < Rk rk (arrOf st) j))) st):wpS (model prog w) A E s (ltAt' i j) Q st:=by
 obtain ⟨p,e1,u1,r1⟩:=hB.at (rk:=rk) hi
 obtain ⟨q,e2,u2,r2⟩:=hB.at (rk:=rk) hj
 rw [ltAt'_eq]
 refine wpS_bind (wpS_get ?_)
 show wpS _ _ _ _ (do let x ← elem' (arrOf st) i; let y ← elem' (arrOf st) j; lt' x y) Q st
 rw [elem'_eq,elem'_eq,e1,e2]
 refine wpS_bind (wpS_pure (wpS_bind (wpS_pure ?_)))
 refine L p q st Q u1 u2 hB.kind ?_
 rw [← r1,← r2]
 exact h
theorem wpS_bin (L:LtOk prog w A E s kd U rk) {n ok:Nat} {Q:Bool→SortSt→Prop} (hn:lo + n≤a₀.size) (hok:ok≤n) (hB:SB kd U a₀ lo pd st) (hs:SoOn rk (arrOf st) lo ok)
  (h:∀ st',SB kd U a₀ lo pd st'→SoOn rk (arrOf st') lo n→Q true st'):wpS (model prog w) A E s (binarySort' lo n ok) Q st:=by
 rw [binarySort'_eq]
 refine wpS_bind (wpS_mono (wpS_forRange (I:=fun k c st'=>c = (none,())∧SB kd U a₀ lo pd st'∧SoOn rk (arrOf st') lo (min k n))
  (Q:=fun c st'=>c = (none,())∧SB kd U a₀ lo pd st'∧SoOn rk (arrOf st') lo n) ?step ?fin ?init) ?post)
 case post=>
  rintro c st' ⟨rfl,hB',hs'⟩
  exact wpS_pure (h st' hB' hs')
 case init=>
  refine ⟨rfl,hB,fun i j hij hj=>?_⟩
  by_cases h1:ok = 0
  ·have:i = j:=by exact as3 4 (.l Z0 Z1) (.t Z1 (.mn (.mx Z2 N1) Z3)) (.e Z2 (.n 0)) (.e Z0 Z1) [_,_,_,_] hij hj h1
   subst this; exact Int.le_refl _
  ·exact hs i j hij (by exact as2 3 (.t Z0 (.mn (.mx Z1 N1) Z2)) (.no (.e Z1 (.n 0))) (.t Z0 Z1) [_,_,_] hj h1)
 case fin=>
  rintro c st' ⟨hc,hB',hs'⟩
  refine ⟨hc,hB',?_⟩
  rwa [show min (max (max ok 1) n) n = n by exact as0 2 (.e (.mn (.mx (.mx Z0 N1) Z1) Z1) Z1) [_,_]] at hs'
 case step=>
  rintro k c st' hak hkn ⟨rfl,hB',hs'⟩
  rw [show min k n = k by exact as1 2 (.t Z0 Z1) (.e (.mn Z0 Z1) Z0) [_,_] hkn] at hs'
  have hk:lo + k < a₀.size:=by exact as2 4 (.l (.a Z0 Z1) Z2) (.t Z3 Z1) (.t (.a Z0 Z3) Z2) [_,_,_,_] hn hkn
  refine wpS_bind (wpS_mono (wpS_forRange (I:=fun x c st''=>st'' = st'∧∃ l r,c = (none,l,r)∧l≤r∧r≤k∧r - l≤k - x ∧
    (∀ i,i < l→Rk rk (arrOf st') (lo + i)≤Rk rk (arrOf st') (lo + k))∧(∀ i,r≤i→i < k→Rk rk (arrOf st') (lo + k) < Rk rk (arrOf st') (lo + i)))
   (Q:=fun c st''=>st'' = st'∧∃ l r,c = (none,l,r)∧l≤k ∧
    (∀ i,i < l→Rk rk (arrOf st') (lo + i)≤Rk rk (arrOf st') (lo + k))∧(∀ i,l≤i→i < k→Rk rk (arrOf st') (lo + k) < Rk rk (arrOf st') (lo + i))) ?istep ?ifin ?iinit) ?ipost)
  case iinit=>exact ⟨rfl,0,k,rfl,by exact as0 1 (.l (.n 0) Z0) [_],by exact as0 1 (.l Z0 Z0) [_],by exact as0 1 (.l (.s Z0 (.n 0)) (.s Z0 (.n 0))) [_],fun i hi=>by exfalso; exact as1 1 (.t Z0 (.n 0)) .f [_] hi,fun i h1 h2=>by exfalso; exact as2 2 (.l Z0 Z1) (.t Z1 Z0) .f [_,_] h1 h2⟩
  case ifin=>
   rintro c st'' ⟨rfl,l,r,rfl,hlr,hrk,hm,hlo,hhi⟩
   have:l = r:=by exact as2 3 (.l Z0 Z1) (.l (.s Z1 Z0) (.s Z2 (.mx (.n 0) Z2))) (.e Z0 Z1) [_,_,_] hlr hm
   subst this
   exact ⟨rfl,l,l,rfl,hrk,hlo,hhi⟩
  case istep=>
   rintro x c st'' _ hxk ⟨rfl,l,r,rfl,hlr,hrk,hm,hlo,hhi⟩
   dsimp only
   by_cases hge:l ≥ r
   ·first | refine wif_t hge ?_ | rw [if_pos hge]
    have:l = r:=by exact as2 2 (.l Z0 Z1) (.l Z1 Z0) (.e Z0 Z1) [_,_] hlr hge
    subst this
    exact wpS_pure ⟨rfl,l,l,rfl,hrk,hlo,hhi⟩
   ·first | refine wif_f hge ?_ | rw [if_neg hge]
    refine wpS_bind (wpS_ltR L hB' hk (by exact as5 7 (.l (.a Z0 Z1) Z2) (.t Z3 Z1) (.l Z4 Z3) (.no (.l Z4 Z5)) (.an (.l (.m 2 Z6) (.a Z5 Z4)) (.t (.a Z5 Z4) (.a (.m 2 Z6) (.n 2)))) (.t (.a Z0 Z6) Z2) [_,_,_,_,_,_,_] hn hkn hrk hge (half_le _)) ?_)
    by_cases hless:Rk rk (arrOf st'') (lo + k) < Rk rk (arrOf st'') (lo + (l + r) / 2)
    ·first | refine wif_t (by simpa using hless) ?_ | simp only [hless,decide_true,if_true]
     refine wpS_pure ⟨rfl,l,(l + r) / 2,rfl,by exact as2 3 (.no (.l Z0 Z1)) (.an (.l (.m 2 Z2) (.a Z1 Z0)) (.t (.a Z1 Z0) (.a (.m 2 Z2) (.n 2)))) (.l Z1 Z2) [_,_,_] hge (half_le _),by exact as3 4 (.l Z0 Z1) (.no (.l Z0 Z2)) (.an (.l (.m 2 Z3) (.a Z2 Z0)) (.t (.a Z2 Z0) (.a (.m 2 Z3) (.n 2)))) (.l Z3 Z1) [_,_,_,_] hrk hge (half_le _),by exact as2 5 (.l (.s Z0 Z1) (.s Z2 Z3)) (.an (.l (.m 2 Z4) (.a Z1 Z0)) (.t (.a Z1 Z0) (.a (.m 2 Z4) (.n 2)))) (.l (.s Z4 Z1) (.s Z2 (.a Z3 N1))) [_,_,_,_,_] hm (half_le _),hlo,fun i h1 h2=>?_⟩
     exact Int.lt_of_lt_of_le hless (hs' _ _ h1 h2)
    ·first | refine wif_f (by simpa using hless) ?_ | simp only [hless,decide_false,Bool.false_eq_true,if_false]
     refine wpS_pure ⟨rfl,(l + r) / 2 + 1,r,rfl,by exact as2 3 (.no (.l Z0 Z1)) (.an (.l (.m 2 Z2) (.a Z1 Z0)) (.t (.a Z1 Z0) (.a (.m 2 Z2) (.n 2)))) (.l (.a Z2 N1) Z0) [_,_,_] hge (half_le _),by exact as1 2 (.l Z0 Z1) (.l Z0 Z1) [_,_] hrk,by exact as2 5 (.l (.s Z0 Z1) (.s Z2 Z3)) (.an (.l (.m 2 Z4) (.a Z1 Z0)) (.t (.a Z1 Z0) (.a (.m 2 Z4) (.n 2)))) (.l (.s Z0 (.a Z4 N1)) (.s Z2 (.a Z3 N1))) [_,_,_,_,_] hm (half_le _),fun i h1=>?_,hhi⟩
     exact Int.le_trans (hs' i ((l + r) / 2) (by exact as1 2 (.t Z0 (.a Z1 N1)) (.l Z0 Z1) [_,_] h1) (by exact as3 4 (.l Z0 Z1) (.no (.l Z0 Z2)) (.an (.l (.m 2 Z3) (.a Z2 Z0)) (.t (.a Z2 Z0) (.a (.m 2 Z3) (.n 2)))) (.t Z3 Z1) [_,_,_,_] hrk hge (half_le _))) (Int.not_lt.mp hless)
  case ipost=>
   rintro c st'' ⟨rfl,l,r,rfl,hlk,hlo,hhi⟩
   show wpS _ _ _ _ (do moveDown' (lo + k) (lo + l); pure (ForInStep.yield (none,()))) _ _
   rw [moveDown'_eq]
   have hks:lo + k < (arrOf st'').size:=by rw [hB'.size]; exact hk
   refine wpS_bind (wpS_modify (wpS_pure ⟨rfl,hB'.setArr (bubble_perm _ _ _) (bubble_pre hks (by exact as0 3 (.l (.s (.a Z0 Z1) (.a Z0 Z2)) (.a Z0 Z1)) [_,_,_]) (by exact as0 3 (.l Z0 (.s (.a Z0 Z1) (.s (.a Z0 Z1) (.a Z0 Z2)))) [_,_,_])),?_⟩))
   rw [show min (k + 1) n = k + 1 by exact as1 2 (.t Z0 Z1) (.e (.mn (.a Z0 N1) Z1) (.a Z0 N1)) [_,_] hkn]
   intro i j hij hj
   show Rk rk (bubble (arrOf st'') (lo + k) (lo + k - (lo + l))) (lo + i)≤Rk rk (bubble (arrOf st'') (lo + k) (lo + k - (lo + l))) (lo + j)
   have H1:∀ x,x < lo + l→lo≤x→Rk rk (arrOf st'') x≤Rk rk (arrOf st'') (lo + k):=fun x h1 h2=>by have:=hlo (x - lo) (by exact as2 3 (.t Z0 (.a Z1 Z2)) (.l Z1 Z0) (.t (.s Z0 Z1) Z2) [_,_,_] h1 h2); rwa [show lo + (x - lo) = x by exact as1 2 (.l Z0 Z1) (.e (.a Z0 (.s Z1 Z0)) Z1) [_,_] h2] at this
   have H2:∀ x,lo + l≤x→x < lo + k→Rk rk (arrOf st'') (lo + k)≤Rk rk (arrOf st'') x:=fun x h1 h2=>by have:=Int.le_of_lt (hhi (x - lo) (by exact as1 3 (.l (.a Z0 Z1) Z2) (.l Z1 (.s Z2 Z0)) [_,_,_] h1) (by exact as2 4 (.l (.a Z0 Z1) Z2) (.t Z2 (.a Z0 Z3)) (.t (.s Z2 Z0) Z3) [_,_,_,_] h1 h2)); rwa [show lo + (x - lo) = x by exact as1 3 (.l (.a Z0 Z1) Z2) (.e (.a Z0 (.s Z2 Z0)) Z2) [_,_,_] h1] at this
   have H3:∀ x y,lo≤x→x≤y→y < lo + k→Rk rk (arrOf st'') x≤Rk rk (arrOf st'') y:=fun x y h1 h2 h3=>by have:=hs' (x - lo) (y - lo) (by exact as1 3 (.l Z0 Z1) (.l (.s Z0 Z2) (.s Z1 Z2)) [_,_,_] h2) (by exact as3 4 (.l Z0 Z1) (.l Z1 Z2) (.t Z2 (.a Z0 Z3)) (.t (.s Z2 Z0) Z3) [_,_,_,_] h1 h2 h3); rwa [show lo + (x - lo) = x by exact as1 2 (.l Z0 Z1) (.e (.a Z0 (.s Z1 Z0)) Z1) [_,_] h1,show lo + (y - lo) = y by exact as2 3 (.l Z0 Z1) (.l Z1 Z2) (.e (.a Z0 (.s Z2 Z0)) Z2) [_,_,_] h1 h2] at this
   exact bub_le (R:=Rk rk (arrOf st'')) (a:=lo) (m:=lo + l) (b:=lo + k) (fun x=>by rw [Rk_bubble hks (by exact as0 3 (.l (.s (.a Z0 Z1) (.a Z0 Z2)) (.a Z0 Z1)) [_,_,_]),show lo + k - (lo + k - (lo + l)) = lo + l by exact as1 3 (.l Z0 Z1) (.e (.s (.a Z2 Z1) (.s (.a Z2 Z1) (.a Z2 Z0))) (.a Z2 Z0)) [_,_,_] hlk]) H1 H2 H3 (Nat.le_add_right _ _) (Nat.add_le_add_left hlk _) (Nat.le_add_right _ _) (Nat.add_le_add_left hij _) (Nat.add_le_add_left (Nat.le_of_lt_succ hj) _)
end
end
section
open PySem PyProof.Rows
section
variable {prog:Program} {w:World} {A:Around} {E:Value→Shared→Prop} {s:Shared}
variable {kd:SortKind} {U:Keyed→Prop} {rk:Keyed→Int} {a₀:Array Keyed} {lo:Nat} {pd:Array (Nat × Nat × Nat)} {st:SortSt}
theorem wpS_rev {i j:Nat} {Q:Unit→SortSt→Prop} (hB:SB kd U a₀ lo pd st) (hi:lo≤i) (hj:j≤a₀.size)
  (h:SB kd U a₀ lo pd (setArr st (mirror (arrOf st) i j ((j - i) / 2)))→Q () (setArr st (mirror (arrOf st) i j ((j - i) / 2)))):wpS (model prog w) A E s (reverseSlice' i j) Q st:=by
 rw [reverseSlice'_eq]
 exact wpS_modify (h (hB.setArr (mirror_perm _ _ _ _) (mirror_pre (by rw [hB.size]; exact hj) hi)))
theorem soOn_one (xs:Array Keyed) (lo:Nat):SoOn rk xs lo 1:=fun i j hij hj=>by
 have:i = j:=by exact as2 2 (.l Z0 Z1) (.t Z1 N1) (.e Z0 Z1) [_,_] hij hj
 subst this; exact Int.le_refl _
theorem soOn_succ {xs:Array Keyed} {n:Nat} (h1:1≤n) (h:SoOn rk xs lo n) (q:Rk rk xs (lo + n - 1)≤Rk rk xs (lo + n)):SoOn rk xs lo (n + 1):=fun i j hij hj=>by
 by_cases hjn:j < n
 ·exact h i j hij hjn
 ·have:j = n:=by exact as2 2 (.t Z0 (.a Z1 N1)) (.no (.t Z0 Z1)) (.e Z0 Z1) [_,_] hj hjn
  subst this
  by_cases hi:i = j
  ·subst hi; exact Int.le_refl _
  ·have:=h i (j - 1) (by exact as2 2 (.l Z0 Z1) (.no (.e Z0 Z1)) (.l Z0 (.s Z1 N1)) [_,_] hij hi) (by exact as1 1 (.l N1 Z0) (.t (.s Z0 N1) Z0) [_] h1)
   rw [show lo + (j - 1) = lo + j - 1 by exact as1 2 (.l N1 Z0) (.e (.a Z1 (.s Z0 N1)) (.s (.a Z1 Z0) N1)) [_,_] h1] at this
   exact Int.le_trans this q
theorem niOn_succ {xs:Array Keyed} {n:Nat} (h1:1≤n) (h:NiOn rk xs lo n) (q:Rk rk xs (lo + n)≤Rk rk xs (lo + n - 1)):NiOn rk xs lo (n + 1):=fun i j hij hj=>by
 by_cases hjn:j < n
 ·exact h i j hij hjn
 ·have:j = n:=by exact as2 2 (.t Z0 (.a Z1 N1)) (.no (.t Z0 Z1)) (.e Z0 Z1) [_,_] hj hjn
  subst this
  by_cases hi:i = j
  ·subst hi; exact Int.le_refl _
  ·have:=h i (j - 1) (by exact as2 2 (.l Z0 Z1) (.no (.e Z0 Z1)) (.l Z0 (.s Z1 N1)) [_,_] hij hi) (by exact as1 1 (.l N1 Z0) (.t (.s Z0 N1) Z0) [_] h1)
   rw [show lo + (j - 1) = lo + j - 1 by exact as1 2 (.l N1 Z0) (.e (.a Z1 (.s Z0 N1)) (.s (.a Z1 Z0) N1)) [_,_] h1] at this
   exact Int.le_trans q this
theorem wpS_up (L:LtOk prog w A E s kd U rk) {a nrem:Nat} {Q:Option (Option Nat) × Nat→SortSt→Prop} {f:Nat→Option (Option Nat) × Nat→StateT SortSt Sem (ForInStep (Option (Option Nat) × Nat))}
  (hf:∀ x c,f x c = (do
   let x ← ltAt' (lo + c.2) (lo + c.2 - 1)
   match x with
   | some smaller=>if smaller = true then pure (ForInStep.done (none,c.2)) else pure (ForInStep.yield (none,c.2 + 1))
   | _=>pure (ForInStep.done (some none,c.2))))
  (hn:lo + nrem≤a₀.size) (ha:1≤a) (han:a≤nrem) (hB:SB kd U a₀ lo pd st) (hs:SoOn rk (arrOf st) lo a)
  (h:∀ n,a≤n→n≤nrem→SoOn rk (arrOf st) lo n→(n = nrem ∨ Rk rk (arrOf st) (lo + n) < Rk rk (arrOf st) (lo + n - 1))→Q (none,n) st) :
  wpS (model prog w) A E s (forIn [a:nrem] (none,a) f) Q st:=by
 refine wpS_forRange (I:=fun x c st'=>st' = st∧c = (none,x)∧SoOn rk (arrOf st) lo x) ?step ?fin ⟨rfl,rfl,hs⟩
 case fin=>
  rintro c st' ⟨rfl,rfl,hs'⟩
  rw [show max a nrem = nrem by exact as1 2 (.l Z0 Z1) (.e (.mx Z0 Z1) Z1) [_,_] han] at hs' ⊢
  exact h nrem han (Nat.le_refl _) hs' (.inl rfl)
 case step=>
  rintro x c st' hax hxn ⟨rfl,rfl,hs'⟩
  rw [hf]
  dsimp only
  refine wpS_bind (wpS_ltR L hB (by exact as2 4 (.l (.a Z0 Z1) Z2) (.t Z3 Z1) (.t (.a Z0 Z3) Z2) [_,_,_,_] hn hxn) (by exact as2 4 (.l (.a Z0 Z1) Z2) (.t Z3 Z1) (.t (.s (.a Z0 Z3) N1) Z2) [_,_,_,_] hn hxn) ?_)
  by_cases hless:Rk rk (arrOf st') (lo + x) < Rk rk (arrOf st') (lo + x - 1)
  ·first | refine wif_t (by simpa using hless) ?_ | simp only [hless,decide_true,if_true]
   exact wpS_pure (h x hax (by exact as1 2 (.t Z0 Z1) (.l Z0 Z1) [_,_] hxn) hs' (.inr hless))
  ·first | refine wif_f (by simpa using hless) ?_ | simp only [hless,decide_false,Bool.false_eq_true,if_false]
   exact wpS_pure ⟨rfl,rfl,soOn_succ (by exact as2 2 (.l N1 Z0) (.l Z0 Z1) (.l N1 Z1) [_,_] ha hax) hs' (Int.not_lt.mp hless)⟩
theorem wpS_down (L:LtOk prog w A E s kd U rk) {n nrem:Nat} {Q:Option (Option Nat) × Nat × Nat→SortSt→Prop} {f:Nat→Option (Option Nat) × Nat × Nat→StateT SortSt Sem (ForInStep (Option (Option Nat) × Nat × Nat))}
  (hf:∀ x c,f x c = (do
   let x ← ltAt' (lo + c.2.1) (lo + c.2.1 - 1)
   match x with
   | some smaller=>
    if smaller = true then
     if c.2.2 > 0 then do
      reverseSlice' (lo + c.2.1 - (c.2.2 + 1)) (lo + c.2.1)
      pure (ForInStep.yield (none,c.2.1 + 1,0))
     else pure (ForInStep.yield (none,c.2.1 + 1,0))
    else do
     let x ← ltAt' (lo + c.2.1 - 1) (lo + c.2.1)
     match x with
     | some larger=>if larger = true then pure (ForInStep.done (none,c.2.1,c.2.2)) else pure (ForInStep.yield (none,c.2.1 + 1,c.2.2 + 1))
     | _=>pure (ForInStep.done (some none,c.2.1,c.2.2))
   | _=>pure (ForInStep.done (some none,c.2.1,c.2.2))))
  (hn:lo + nrem≤a₀.size) (h1:1≤n) (hnn:n≤nrem) (hB:SB kd U a₀ lo pd st) (hs:NiOn rk (arrOf st) lo n)
  (h:∀ m neq st',SB kd U a₀ lo pd st'→n≤m→m≤nrem→NiOn rk (arrOf st') lo m→neq + 1≤m→(∀ i,lo + m - (neq + 1)≤i→i < lo + m→Rk rk (arrOf st') i = Rk rk (arrOf st') (lo + m - 1))→Q (none,m,neq) st') :
  wpS (model prog w) A E s (forIn [n:nrem] (none,n,0) f) Q st:=by
 refine wpS_forRange (I:=fun x c st'=>∃ neq,c = (none,x,neq)∧SB kd U a₀ lo pd st'∧NiOn rk (arrOf st') lo x∧neq + 1≤x ∧
   (∀ i,lo + x - (neq + 1)≤i→i < lo + x→Rk rk (arrOf st') i = Rk rk (arrOf st') (lo + x - 1))) ?step ?fin ⟨0,rfl,hB,hs,by exact as1 1 (.l N1 Z0) (.l (.a (.n 0) N1) Z0) [_] h1,fun i h1 h2=>by congr 1; exact as2 3 (.l (.s (.a Z0 Z1) (.a (.n 0) N1)) Z2) (.t Z2 (.a Z0 Z1)) (.e Z2 (.s (.a Z0 Z1) N1)) [_,_,_] h1 h2⟩
 case fin=>
  rintro c st' ⟨neq,rfl,hB',hs',hq,he⟩
  rw [show max n nrem = nrem by exact as1 2 (.l Z0 Z1) (.e (.mx Z0 Z1) Z1) [_,_] hnn] at hs' hq he ⊢
  exact h nrem neq st' hB' hnn (Nat.le_refl _) hs' hq he
 case step=>
  rintro x c st' hax hxn ⟨neq,rfl,hB',hs',hq,he⟩
  rw [hf]
  dsimp only
  have hsz:lo + x≤(arrOf st').size:=by rw [hB'.size]; exact as2 4 (.l (.a Z0 Z1) Z2) (.t Z3 Z1) (.l (.a Z0 Z3) Z2) [_,_,_,_] hn hxn
  refine wpS_bind (wpS_ltR L hB' (by exact as2 4 (.l (.a Z0 Z1) Z2) (.t Z3 Z1) (.t (.a Z0 Z3) Z2) [_,_,_,_] hn hxn) (by exact as2 4 (.l (.a Z0 Z1) Z2) (.t Z3 Z1) (.t (.s (.a Z0 Z3) N1) Z2) [_,_,_,_] hn hxn) ?_)
  by_cases hless:Rk rk (arrOf st') (lo + x) < Rk rk (arrOf st') (lo + x - 1)
  ·first | refine wif_t (by simpa using hless) ?_ | simp only [hless,decide_true,if_true]
   have n1:=niOn_succ (by exact as2 2 (.l N1 Z0) (.l Z0 Z1) (.l N1 Z1) [_,_] h1 hax) hs' (Int.le_of_lt hless)
   by_cases hq0:neq > 0
   ·first | refine wif_t hq0 ?_ | rw [if_pos hq0]
    refine wpS_bind (wpS_rev hB' (by exact as1 3 (.l (.a Z0 N1) Z1) (.l Z2 (.s (.a Z2 Z1) (.a Z0 N1))) [_,_,_] hq) (by exact as2 4 (.l (.a Z0 Z1) Z2) (.t Z3 Z1) (.l (.a Z0 Z3) Z2) [_,_,_,_] hn hxn) fun hB2=>wpS_pure ⟨0,rfl,hB2,?_,by exact as0 1 (.l (.a (.n 0) N1) (.a Z0 N1)) [_],fun i h1 h2=>by congr 1; exact as2 3 (.l (.s (.a Z0 (.a Z1 N1)) (.a (.n 0) N1)) Z2) (.t Z2 (.a Z0 (.a Z1 N1))) (.e Z2 (.s (.a Z0 (.a Z1 N1)) N1)) [_,_,_] h1 h2⟩)
    intro i j hij hj
    show Rk rk (mirror (arrOf st') _ _ _) _≤Rk rk (mirror (arrOf st') _ _ _) _
    rw [Rk_mirror_equal hsz he,Rk_mirror_equal hsz he]
    exact n1 i j hij hj
   ·first | refine wif_f hq0 ?_ | rw [if_neg hq0]
    exact wpS_pure ⟨0,rfl,hB',n1,by exact as0 1 (.l (.a (.n 0) N1) (.a Z0 N1)) [_],fun i h1 h2=>by congr 1; exact as2 3 (.l (.s (.a Z0 (.a Z1 N1)) (.a (.n 0) N1)) Z2) (.t Z2 (.a Z0 (.a Z1 N1))) (.e Z2 (.s (.a Z0 (.a Z1 N1)) N1)) [_,_,_] h1 h2⟩
  ·first | refine wif_f (by simpa using hless) ?_ | simp only [hless,decide_false,Bool.false_eq_true,if_false]
   refine wpS_bind (wpS_ltR L hB' (by exact as2 4 (.l (.a Z0 Z1) Z2) (.t Z3 Z1) (.t (.s (.a Z0 Z3) N1) Z2) [_,_,_,_] hn hxn) (by exact as2 4 (.l (.a Z0 Z1) Z2) (.t Z3 Z1) (.t (.a Z0 Z3) Z2) [_,_,_,_] hn hxn) ?_)
   by_cases hl:Rk rk (arrOf st') (lo + x - 1) < Rk rk (arrOf st') (lo + x)
   ·first | refine wif_t (by simpa using hl) ?_ | simp only [hl,decide_true,if_true]
    exact wpS_pure (h x neq st' hB' hax (by exact as1 2 (.t Z0 Z1) (.l Z0 Z1) [_,_] hxn) hs' hq he)
   ·first | refine wif_f (by simpa using hl) ?_ | simp only [hl,decide_false,Bool.false_eq_true,if_false]
    have e:Rk rk (arrOf st') (lo + x) = Rk rk (arrOf st') (lo + x - 1):=Int.le_antisymm (Int.not_lt.mp hl) (Int.not_lt.mp hless)
    refine wpS_pure ⟨neq + 1,rfl,hB',niOn_succ (by exact as2 2 (.l N1 Z0) (.l Z0 Z1) (.l N1 Z1) [_,_] h1 hax) hs' (Int.not_lt.mp hl),by exact as1 2 (.l (.a Z0 N1) Z1) (.l (.a (.a Z0 N1) N1) (.a Z1 N1)) [_,_] hq,fun i h1 h2=>?_⟩
    rw [show lo + (x + 1) - 1 = lo + x by exact as0 2 (.e (.s (.a Z0 (.a Z1 N1)) N1) (.a Z0 Z1)) [_,_],e]
    by_cases hi:i = lo + x
    ·rw [hi,e]
    ·exact he i (by exact as1 4 (.l (.s (.a Z0 (.a Z1 N1)) (.a (.a Z2 N1) N1)) Z3) (.l (.s (.a Z0 Z1) (.a Z2 N1)) Z3) [_,_,_,_] h1) (by exact as2 3 (.t Z0 (.a Z1 (.a Z2 N1))) (.no (.e Z0 (.a Z1 Z2))) (.t Z0 (.a Z1 Z2)) [_,_,_] h2 hi)
theorem wpS_count (L:LtOk prog w A E s kd U rk) {nrem:Nat} {Q:Option Nat→SortSt→Prop} (hn:lo + nrem≤a₀.size) (h1:1≤nrem) (hB:SB kd U a₀ lo pd st)
  (h:∀ m st',SB kd U a₀ lo pd st'→1≤m→m≤nrem→SoOn rk (arrOf st') lo m→Q (some m) st') :
  wpS (model prog w) A E s (countRun' lo nrem) Q st:=by
 rw [countRun'_eq]
 refine wpS_bind (wpS_up L (by intro x c; rfl) hn (Nat.le_refl 1) h1 hB (soOn_one _ _) fun n hn1 hn2 hsn hor=>?_)
 dsimp only
 by_cases hnn:n = nrem
 ·first | refine wif_t (by simpa using hnn) ?_ | rw [if_pos (by simpa using hnn)]
  exact wpS_pure (h n st hB hn1 hn2 hsn)
 ·first | refine wif_f (by simpa using hnn) ?_ | rw [if_neg (by simpa using hnn)]
  have hlt:Rk rk (arrOf st) (lo + n) < Rk rk (arrOf st) (lo + n - 1):=hor.resolve_left hnn
  have hB0:=hB
  by_cases hgt:n > 1
  case' pos=>
   first | refine wif_t hgt ?_ | rw [if_pos hgt]
   refine wpS_bind (wpS_ltR L hB (by exact as2 3 (.l (.a Z0 Z1) Z2) (.l N1 Z1) (.t Z0 Z2) [_,_,_] hn h1) (by exact as3 4 (.l (.a Z0 Z1) Z2) (.l Z3 Z1) (.no (.e Z3 Z1)) (.t (.s (.a Z0 Z3) N1) Z2) [_,_,_,_] hn hn2 hnn) ?_)
   by_cases hrose:Rk rk (arrOf st) lo < Rk rk (arrOf st) (lo + n - 1)
   ·first | refine wif_t (by simpa using hrose) ?_ | simp only [hrose,decide_true,if_true]
    exact wpS_pure (h n st hB hn1 hn2 hsn)
   first | refine wif_f (by simpa using hrose) ?_ | simp only [hrose,decide_false,Bool.false_eq_true,if_false]
   have hsz:lo + n≤(arrOf st).size:=by rw [hB.size]; exact as2 4 (.l (.a Z0 Z1) Z2) (.l Z3 Z1) (.l (.a Z0 Z3) Z2) [_,_,_,_] hn hn2
   have hall:∀ k,lo≤k→k < lo + n→Rk rk (arrOf st) k = Rk rk (arrOf st) (lo + n - 1):=by
    intro k hk1 hk
    have a1:=hsn 0 (k - lo) (by exact as0 2 (.l (.n 0) (.s Z0 Z1)) [_,_]) (by exact as2 3 (.l N1 Z0) (.t Z1 (.a Z2 Z0)) (.t (.s Z1 Z2) Z0) [_,_,_] hn1 hk)
    have a2:=hsn (k - lo) (n - 1) (by exact as1 3 (.t Z0 (.a Z1 Z2)) (.l (.s Z0 Z1) (.s Z2 N1)) [_,_,_] hk) (by exact as1 1 (.l N1 Z0) (.t (.s Z0 N1) Z0) [_] hn1)
    rw [show lo + (k - lo) = k by exact as1 2 (.l Z0 Z1) (.e (.a Z0 (.s Z1 Z0)) Z1) [_,_] hk1] at a1 a2
    rw [show lo + (n - 1) = lo + n - 1 by exact as1 2 (.l N1 Z0) (.e (.a Z1 (.s Z0 N1)) (.s (.a Z1 Z0) N1)) [_,_] hn1] at a2
    rw [Nat.add_zero] at a1
    exact Int.le_antisymm a2 (Int.le_trans (Int.not_lt.mp hrose) a1)
   refine wpS_bind (wpS_rev hB (Nat.le_refl _) (by exact as2 4 (.l (.a Z0 Z1) Z2) (.l Z3 Z1) (.l (.a Z0 Z3) Z2) [_,_,_,_] hn hn2) fun hB2=>?_)
   have hni:NiOn rk (arrOf (setArr st (mirror (arrOf st) lo (lo + n) ((lo + n - lo) / 2)))) lo (n + 1):=by
    refine niOn_succ (by exact as1 1 (.l N1 Z0) (.l N1 Z0) [_] hn1) (fun i j hij hj=>?_) ?_
    ·show Rk rk (mirror (arrOf st) _ _ _) _≤Rk rk (mirror (arrOf st) _ _ _) _
     rw [Rk_mirror_equal hsz hall,Rk_mirror_equal hsz hall,hall _ (by exact as0 2 (.l Z0 (.a Z0 Z1)) [_,_]) (by exact as1 3 (.t Z0 Z1) (.t (.a Z2 Z0) (.a Z2 Z1)) [_,_,_] hj),hall (lo + i) (by exact as0 2 (.l Z0 (.a Z0 Z1)) [_,_]) (by exact as2 4 (.l Z0 Z1) (.t Z1 Z2) (.t (.a Z3 Z0) (.a Z3 Z2)) [_,_,_,_] hij hj)]
     exact Int.le_refl _
    ·show Rk rk (mirror (arrOf st) _ _ _) _≤Rk rk (mirror (arrOf st) _ _ _) _
     rw [Rk_mirror_equal hsz hall,Rk_mirror_equal hsz hall]
     exact Int.le_of_lt hlt
   generalize setArr st (mirror (arrOf st) lo (lo + n) ((lo + n - lo) / 2)) = st2 at hB2 hni ⊢
  case' neg=>
   first | refine wif_f hgt ?_ | rw [if_neg hgt]
   have hni:NiOn rk (arrOf st) lo (n + 1):=by
    have hn1':n = 1:=by exact as2 1 (.l N1 Z0) (.no (.t N1 Z0)) (.e Z0 N1) [_] hn1 hgt
    subst hn1'
    refine niOn_succ (by exact as0 0 (.l N1 N1) []) (fun i j hij hj=>?_) (Int.le_of_lt hlt)
    have:i = j:=by exact as2 2 (.l Z0 Z1) (.t Z1 N1) (.e Z0 Z1) [_,_] hij hj
    subst this; exact Int.le_refl _
   have hB2:=hB
  all_goals
   clear hlt hsn hor hB hB0
   refine wpS_bind (wpS_lift (wpAny_rule ⟨rfl,?_⟩))
   refine wpS_bind (wpS_down L (by intro x c; rfl) hn (by exact as0 1 (.l N1 (.a Z0 N1)) [_]) (by exact as2 2 (.l Z0 Z1) (.no (.e Z0 Z1)) (.l (.a Z0 N1) Z1) [_,_] hn2 hnn) hB2 hni fun m neq st3 hB3 hm1 hm2 hs3 hq he=>?_)
   dsimp only
   have hsz:lo + m≤(arrOf st3).size:=by rw [hB3.size]; exact as2 4 (.l (.a Z0 Z1) Z2) (.l Z3 Z1) (.l (.a Z0 Z3) Z2) [_,_,_,_] hn hm2
   by_cases hq0:neq > 0
   case' pos=>
    first | refine wif_t hq0 ?_ | rw [if_pos hq0]
    refine wpS_bind (wpS_rev hB3 (by exact as1 3 (.l (.a Z0 N1) Z1) (.l Z2 (.s (.a Z2 Z1) (.a Z0 N1))) [_,_,_] hq) (by exact as2 4 (.l (.a Z0 Z1) Z2) (.l Z3 Z1) (.l (.a Z0 Z3) Z2) [_,_,_,_] hn hm2) fun hB4=>?_)
    have hs4:NiOn rk (arrOf (setArr st3 (mirror (arrOf st3) (lo + m - (neq + 1)) (lo + m) ((lo + m - (lo + m - (neq + 1))) / 2)))) lo m:=by
     intro i j hij hj
     show Rk rk (mirror (arrOf st3) _ _ _) _≤Rk rk (mirror (arrOf st3) _ _ _) _
     rw [Rk_mirror_equal hsz he,Rk_mirror_equal hsz he]
     exact hs3 i j hij hj
    generalize setArr st3 (mirror (arrOf st3) (lo + m - (neq + 1)) (lo + m) ((lo + m - (lo + m - (neq + 1))) / 2)) = st4 at hB4 hs4 ⊢
   case' neg=>
    first | refine wif_f hq0 ?_ | rw [if_neg hq0]
    have hs4:=hs3
    have hB4:=hB3
   all_goals
    clear he hs3 hsz hB3
    have hsz:=hB4.size
    refine wpS_bind (wpS_rev hB4 (Nat.le_refl _) (by exact as2 4 (.l (.a Z0 Z1) Z2) (.l Z3 Z1) (.l (.a Z0 Z3) Z2) [_,_,_,_] hn hm2) fun hB5=>?_)
    refine wpS_bind (wpS_up L (by intro x c; rfl) hn (by exact as1 2 (.l (.a Z0 N1) Z1) (.l N1 Z1) [_,_] hm1) hm2 hB5 ?_ fun k hk1 hk2 hsk _=>wpS_pure (h k _ hB5 (by exact as2 3 (.l (.a Z0 N1) Z1) (.l Z1 Z2) (.l N1 Z2) [_,_,_] hm1 hk1) hk2 hsk))
    intro i j hij hj
    show Rk rk (mirror _ _ _ _) _≤Rk rk (mirror _ _ _ _) _
    rw [Rk_mirror (by exact as3 5 (.l (.a Z0 Z1) Z2) (.l Z3 Z1) (.e Z4 Z2) (.l (.a Z0 Z3) Z4) [_,_,_,_,_] hn hm2 hsz),Rk_mirror (by exact as3 5 (.l (.a Z0 Z1) Z2) (.l Z3 Z1) (.e Z4 Z2) (.l (.a Z0 Z3) Z4) [_,_,_,_,_] hn hm2 hsz),if_pos (by exact as2 4 (.l Z0 Z1) (.t Z1 Z2) (.an (.l Z3 (.a Z3 Z0)) (.t (.a Z3 Z0) (.a Z3 Z2))) [_,_,_,_] hij hj),if_pos (by exact as1 3 (.t Z0 Z1) (.an (.l Z2 (.a Z2 Z0)) (.t (.a Z2 Z0) (.a Z2 Z1))) [_,_,_] hj)]
    have:=hs4 (m - 1 - j) (m - 1 - i) (by exact as1 3 (.l Z0 Z1) (.l (.s (.s Z2 N1) Z1) (.s (.s Z2 N1) Z0)) [_,_,_] hij) (by exact as1 3 (.t Z0 Z1) (.t (.s (.s Z1 N1) Z2) Z1) [_,_,_] hj)
    rwa [show lo + (m - 1 - i) = lo + (lo + m) - 1 - (lo + i) by exact as2 4 (.l Z0 Z1) (.t Z1 Z2) (.e (.a Z3 (.s (.s Z2 N1) Z0)) (.s (.s (.a Z3 (.a Z3 Z2)) N1) (.a Z3 Z0))) [_,_,_,_] hij hj,show lo + (m - 1 - j) = lo + (lo + m) - 1 - (lo + j) by exact as1 3 (.t Z0 Z1) (.e (.a Z2 (.s (.s Z1 N1) Z0)) (.s (.s (.a Z2 (.a Z2 Z1)) N1) (.a Z2 Z0))) [_,_,_] hj] at this
end
end
section
open PySem PyProof.Rows
section
variable {prog:Program} {w:World} {A:Around} {E:Value→Shared→Prop} {s:Shared} {a₀:Array Keyed} {kd:SortKind} {U:Keyed→Prop} {rk:Keyed→Int} {st:SortSt}
noncomputable def OneRun (rk:Keyed→Int) (a₀:Array Keyed) (st:SortSt):Prop:=(arrOf st).Perm a₀∧failedOf st = none∧pendingOf st = #[(0,a₀.size,0)]∧SoOn rk (arrOf st) 0 a₀.size
theorem SB.oneRun (hB:SB kd U a₀ 0 #[] st) (hs:SoOn rk (arrOf st) 0 a₀.size):OneRun rk a₀ (setPending st ((pendingOf st).push (0,a₀.size,0))):=
 ⟨hB.perm,hB.failed,by show (pendingOf st).push _ = _; rw [hB.pend]; rfl,hs⟩
theorem wpS_one (L:LtOk prog w A E s kd U rk) {Q:Unit→SortSt→Prop} (hB:SB kd U a₀ 0 #[] st) (h1:1≤a₀.size) (h64:a₀.size < 64)
  (h:∀ st',(arrOf st').Perm a₀→failedOf st' = none→SoOn rk (arrOf st') 0 a₀.size→Q () st'):wpS (model prog w) A E s sortRuns' Q st:=by
 rw [sortRuns'_eq]
 refine wpS_bind (wpS_get ?_)
 dsimp only
 have hmr:minRun' a₀.size a₀.size 0 = a₀.size:=by
  obtain ⟨f,hf⟩:=Nat.exists_eq_succ_of_ne_zero (Nat.pos_iff_ne_zero.mp h1)
  have:=minRun'_succ f a₀.size 0
  rw [if_pos h64] at this
  rw [show f + 1 = a₀.size from hf.symm] at this
  exact this
 simp only [hB.size,hmr]
 refine wpS_bind (wpS_mono (wpS_forRange
  (I:=fun x c st'=>(x = 0∧c = (none,0)∧SB kd U a₀ 0 #[] st') ∨ (1≤x∧c = (none,a₀.size)∧OneRun rk a₀ st'))
  (Q:=fun c st'=>c = (none,a₀.size)∧OneRun rk a₀ st') ?step ?fin (.inl ⟨rfl,rfl,hB⟩)) ?post)
 case fin=>
  rintro c st' (⟨hx,_,_⟩ | ⟨_,hc,hD⟩)
  ·exfalso; exact as2 1 (.l N1 Z0) (.e (.mx (.n 0) Z0) (.n 0)) .f [_] h1 hx
  ·exact ⟨hc,hD⟩
 case step=>
  rintro x c st' _ hx (⟨rfl,rfl,B⟩ | ⟨hx1,rfl,hD⟩)
  ·dsimp only
   refine wif_f (Nat.not_le.mpr h1) ?_
   simp only [Nat.sub_zero,Nat.min_self,Nat.zero_add]
   refine wpS_bind (wpS_count L (lo:=0) (by exact as0 1 (.l (.a (.n 0) Z0) Z0) [_]) h1 B fun m st2 B2 hm1 hm2 hs2=>?_)
   dsimp only
   refine wif (fun hlt=>?_) (fun hlt=>?_)
   ·refine wpS_bind (wpS_lift (wpAny_rule ⟨rfl,?_⟩))
    refine wpS_bind (wpS_bin L (lo:=0) (by exact as0 1 (.l (.a (.n 0) Z0) Z0) [_]) hm2 B2 hs2 fun st3 B3 hs3=>?_)
    refine wif_f (by decide) (wpS_bind (wpS_get ?_))
    have hb:(pendingOf st3).back? = none:=by rw [B3.pend]; rfl
    rw [hb]
    exact wpS_bind (wpS_modify (wpS_pure (.inr ⟨Nat.le_refl 1,rfl,B3.oneRun hs3⟩)))
   ·have hm:m = a₀.size:=Nat.le_antisymm hm2 (Nat.not_lt.mp hlt)
    subst hm
    refine wpS_bind (wpS_get ?_)
    have hb:(pendingOf st2).back? = none:=by rw [B2.pend]; rfl
    rw [hb]
    exact wpS_bind (wpS_modify (wpS_pure (.inr ⟨Nat.le_refl 1,rfl,B2.oneRun hs2⟩)))
  ·dsimp only
   exact wif_t (Nat.le_refl _) (wpS_pure ⟨rfl,hD⟩)
 case post=>
  rintro c st' ⟨rfl,hD⟩
  dsimp only
  refine wpS_bind (wpS_mono (wpS_forRange (I:=fun _ c st''=>st'' = st'∧c = (none,())) (Q:=fun c st''=>st'' = st'∧c = (none,())) ?_ (fun _ _ hh=>hh) ⟨rfl,rfl⟩) ?_)
  ·rintro x c st'' _ _ ⟨rfl,rfl⟩
   refine wpS_bind (wpS_get (wif_t (by rw [hD.2.2.1]; exact Nat.le_refl 1) (wpS_pure ⟨rfl,rfl⟩)))
  ·rintro c st'' ⟨rfl,rfl⟩
   exact wpS_pure (h _ hD.1 hD.2.1 hD.2.2.2)
end
end
noncomputable def triA (x:Tri):List At:=[.int (x.1:Nat),.int (x.2.1:Nat),.int (x.2.2:Nat)]
noncomputable def IsTri (h:Heap) (C:Addr) (x:Tri) (v:Value):Prop:=(V.tup (some C) (triA x)).rep h v
section
variable {prog:Program} {w:World} {A:Around} {E:Value→Shared→Prop} {s:Shared} {C:Addr}
theorem isTri_items {h':Heap} {x:Tri} {v:Value} (h:IsTri h' C x v):∃ a o n t u r,v = .ref a∧h'.get? a = some o∧o.cls = .ref C∧o.data = .seq #[.int x.1 t,.int x.2.1 u,.int x.2.2 r] n:=by
 obtain ⟨a,items,rfl,⟨o,n,ho,hc,hd⟩,hr⟩:=h
 obtain ⟨v1,r1,e1,⟨t,rfl⟩,hr⟩:=hr
 obtain ⟨v2,r2,e2,⟨u,rfl⟩,hr⟩:=hr
 obtain ⟨v3,r3,e3,⟨r,rfl⟩,hr⟩:=hr
 cases (hr:r3 = [])
 subst e3 e2
 refine ⟨a,o,n,t,u,r,rfl,ho,hc,?_⟩
 have:items = #[.int x.1 t,.int x.2.1 u,.int x.2.2 r]:=Array.toList_inj.mp e1
 rw [hd,this]
theorem rich_lt {a b:Int} {t u:Tok} {Q:Value→Shared→Prop} (h:Q (.bool (decide (a < b))) s):wpAny (model prog w) A (richCompare .Lt (.int a t) (.int b u)) Q E s:=
 wpAny_richCompare_same (typeIs_int s a t) (typeIs_int s b u) slot_int_lt (call_int_lt ⟨nofun,h⟩)
theorem tri_lt {x y:Tri} {v u:Value} {P:Fin→Shared→Prop} (T:TupX (model prog w) s.heap C) (hx:IsTri s.heap C x v) (hy:IsTri s.heap C y u) (hd:x.1 = y.1→x = y) (h:P (.done (.ret (.bool (decide (x.1 < y.1))))) s) :
  wpAny (model prog w) A (Builtin.«tuple.__lt__» ⟨[v,u],[]⟩) P E s:=by
 obtain ⟨a,o,n,t1,u1,r1,rfl,ho,hc,hdat⟩:=isTri_items hx
 obtain ⟨b,o',n',t2,u2,r2,rfl,ho',hc',hdat'⟩:=isTri_items hy
 have hty:IsTupOf s.heap (some C) b _:=⟨o',n',ho',hc',hdat'⟩
 unfold Builtin.«tuple.__lt__»
 refine wpAny_bind (m:=slotArgs "__lt__" 1 ⟨[.ref a,.ref b],[]⟩) (wpAny_pure ?_)
 dsimp only
 refine wpAny_bind ((tup_inst hty T).here ?_)
 rw [if_neg (by decide)]
 unfold Builtin.Tuple.tupleItemsOf
 refine wpAny_bind (wpAny_bind (wpAny_seqItems ho hdat (wpAny_pure ?_)))
 refine wpAny_bind (wpAny_bind (wpAny_seqItems ho' hdat' (wpAny_pure ?_)))
 by_cases e:x.1 = y.1
 ·have:=hd e
  subst this
  rw [show decide (x.1 < x.1) = false by simp] at h
  refine wpAny_bind ?_
  show wpAny _ _ (forIn [(Value.int (x.1:Nat) t1,Value.int (x.1:Nat) t2),(.int (x.2.1:Nat) u1,.int (x.2.1:Nat) u2),(.int (x.2.2:Nat) r1,.int (x.2.2:Nat) r2)] _ _) _ _ _
  refine wp_forIn_find (p:=fun _=>true) (d:=(none,())) (fun z hz Q' q=>?_) ?_
  ·rw [if_pos rfl] at q
   have:∃ k t u,z = (Value.int k t,Value.int k u):=by
    rcases List.mem_cons.mp hz with rfl | hz
    ·exact ⟨_,_,_,rfl⟩
    rcases List.mem_cons.mp hz with rfl | hz
    ·exact ⟨_,_,_,rfl⟩
    rcases List.mem_cons.mp hz with rfl | hz
    ·exact ⟨_,_,_,rfl⟩
    cases hz
   obtain ⟨k,t,u,rfl⟩:=this
   refine wpAny_bind (wpAny_eqBool_int ?_)
   rw [if_neg (by simp)]
   exact wpAny_pure q
  ·exact wpAny_pure h
 ·refine wpAny_bind ?_
  show wpAny _ _ (forIn (_ :: [(_,_),(_,_)]) _ _) _ _ _
  rw [List.forIn_cons]
  refine wpAny_bind (wpAny_bind (wpAny_eqBool_int ?_))
  rw [if_pos (by simpa using fun q=>e (Int.ofNat_inj.mp q))]
  refine wpAny_bind (wpAny_rule (wpAny_bind (rich_lt ?_)))
  refine wpAny_bind (wpAny_pure (wpAny_pure (wpAny_pure (wpAny_pure ?_))))
  rw [show decide ((x.1:Int) < (y.1:Nat)) = decide (x.1 < y.1) by simp]
  exact h
noncomputable def TriU (h:Heap) (C:Addr) (L:List Tri) (p:Keyed):Prop:=∃ x∈L,IsTri h C x p.1
noncomputable def triRk (h:Heap) (C:Addr) (L:List Tri) (p:Keyed):Int:=open Classical in if e:∃ x∈L,IsTri h C x p.1 then (e.choose.1:Nat) else 0
theorem isTri_uniq {h:Heap} {x y:Tri} {v:Value} (hx:IsTri h C x v) (hy:IsTri h C y v):x = y:=by
 obtain ⟨a,o,n,t1,u1,r1,rfl,ho,_,hd⟩:=isTri_items hx
 obtain ⟨b,o',n',t2,u2,r2,e,ho',_,hd'⟩:=isTri_items hy
 cases e
 rw [ho] at ho'; cases ho'
 rw [hd] at hd'
 injection hd' with e1 _
 have e2:=congrArg Array.toList e1
 simp at e2
 obtain ⟨⟨a1,_⟩,⟨a2,_⟩,a3,_⟩:=e2
 obtain ⟨x1,x2,x3⟩:=x
 obtain ⟨y1,y2,y3⟩:=y
 simp at a1 a2 a3
 have b1:=Int.ofNat_inj.mp a1
 have b2:=Int.ofNat_inj.mp a2
 have b3:=Int.ofNat_inj.mp a3
 rw [b1,b2,b3]
theorem triRk_eq {h:Heap} {L:List Tri} {x:Tri} {p:Keyed} (hm:x∈L) (hx:IsTri h C x p.1):triRk h C L p = (x.1:Nat):=by
 unfold triRk
 have e:∃ x∈L,IsTri h C x p.1:=⟨x,hm,hx⟩
 rw [dif_pos e,isTri_uniq e.choose_spec.2 hx]
theorem ltOk_tri {L:List Tri} (T:TupX (model prog w) s.heap C) (hu:A.units < cLine) (hL:∀ x∈L,∀ y∈L,x.1 = y.1→x = y):LtOk prog w A E s oneType' (TriU s.heap C L) (triRk s.heap C L):=fun p q st Q hp hq hk h=>by
 obtain ⟨x,hx,hxp⟩:=hp
 obtain ⟨y,hy,hyq⟩:=hq
 rw [triRk_eq hx hxp,triRk_eq hy hyq,show decide (((x.1:Nat):Int) < (y.1:Nat)) = decide (x.1 < y.1) by simp] at h
 obtain ⟨p1,p2⟩:=p
 obtain ⟨q1,q2⟩:=q
 dsimp only at hxp hyq
 rw [lt'_eq]
 refine wpS_bind (wpS_get ?_)
 rw [hk,keyLt'_oneType,oneLt'_eq]
 refine wpS_bind (wpS_lift (wpAny_attempt ?_))
 obtain ⟨a,items,rfl,ht,hr⟩:=id hxp
 rw [if_pos rfl]
 refine wpAny_bind (wpAny_cRoomFor hu (wpAny_bind (tup_bound (tup_special ht T.lt) F.slot_tuple_lt (tup_call ht T tl_kind tl_split F.slot_tuple_lt.plain (F.args_tuple_lt_2 _ _) F.entry_tuple_lt (tri_lt T hxp hyq (hL x hx y hy) ⟨_,rfl,?_⟩)))))
 exact wpAny_truthy_bool ⟨rfl,wpS_pure h⟩
end
noncomputable abbrev triV (C:Addr) (x:Tri):V:=.tup (some C) (triA x)
noncomputable def triOf (h:Heap) (C:Addr) (v:Value):Tri:=open Classical in if e:∃ x,IsTri h C x v then e.choose else (0,0,0)
theorem triOf_eq {h:Heap} {C:Addr} {x:Tri} {v:Value} (q:IsTri h C x v):triOf h C v = x:=by
 unfold triOf
 have e:∃ x,IsTri h C x v:=⟨x,q⟩
 rw [dif_pos e]
 exact isTri_uniq e.choose_spec q
theorem triReps_map {h:Heap} {C:Addr}:∀ {L:List Tri} {vs:List Value},Reps h (L.map (triV C)) vs→vs.map (triOf h C) = L∧∀ v∈vs,∃ x∈L,IsTri h C x v
 | [],_,e=>by cases (e:_ = []); exact ⟨rfl,fun _ q=>nomatch q⟩
 | x :: L,_,⟨v,r,e,hv,hr⟩=>by
  subst e
  obtain ⟨h1,h2⟩:=triReps_map hr
  refine ⟨by rw [List.map_cons,h1,triOf_eq hv],fun u hu=>?_⟩
  rcases List.mem_cons.mp hu with rfl | hu
  ·exact ⟨x,.head _,hv⟩
  ·obtain ⟨y,hy,q⟩:=h2 u hu; exact ⟨y,.tail _ hy,q⟩
theorem triReps_of {h:Heap} {C:Addr}:∀ {vs:List Value},(∀ v∈vs,∃ x,IsTri h C x v)→Reps h ((vs.map (triOf h C)).map (triV C)) vs
 | [],_=>rfl
 | v :: vs,q=>by
  obtain ⟨x,hx⟩:=q v (.head _)
  refine ⟨v,vs,rfl,?_,triReps_of fun u hu=>q u (.tail _ hu)⟩
  rw [triOf_eq hx]; exact hx
theorem soOn_pair {rk:Keyed→Int} {xs:Array Keyed} (h:SoOn rk xs 0 xs.size):xs.toList.Pairwise fun p q=>rk p≤rk q:=by
 rw [List.pairwise_iff_getElem]
 intro i j hi hj hij
 have:=h i j (Nat.le_of_lt hij) (by simpa using hj)
 rw [Nat.zero_add,Nat.zero_add] at this
 unfold Rk at this
 rw [show xs[i]? = some xs.toList[i] by simp at hi ⊢,show xs[j]? = some xs.toList[j] by simp at hj ⊢] at this
 exact this
theorem pair_few {α:Type} {R:α→α→Prop}:∀ {l:List α},l.length < 2→l.Pairwise R
 | [],_=>.nil
 | [x],_=>List.pairwise_singleton _ x
 | _ :: _ :: _,h=>absurd h (by simp)
theorem zip_snd {vs:List Value}:(vs.zip vs).map (·.2) = vs:=by induction vs with
 | nil=>rfl
 | cons v vs ih=>rw [List.zip_cons_cons,List.map_cons,ih]
section
variable {prog:Program} {w:World} {A:Around} {E:Value→Shared→Prop} {s:Shared} {C:Addr}
theorem isTri_keeps {h h':Heap} {a:Addr} {e:Nat} {xs:Array Value} {x:Tri} {v:Value} (ho:h.get? a = some (seqObj "list" xs e)) (hk:∀ b o,b≠a→h.get? b = some o→h'.get? b = some o) (q:IsTri h C x v):IsTri h' C x v:=by
 obtain ⟨b,items,rfl,⟨o,n,hb,hc,hd⟩,hr⟩:=q
 refine ⟨b,items,rfl,⟨o,n,hk b o (fun e=>?_) hb,hc,hd⟩,hr⟩
 subst e
 rw [ho] at hb
 cases hb
 cases hc
theorem sort_tri {a:Addr} {vs:List Value} {L:List Tri} {n:Nat} {P:Fin→Shared→Prop} (ho:s.heap.get? a = some (seqObj "list" vs.toArray n)) (hv:Reps s.heap (L.map (triV C)) vs) (hz:vs.length < 64) (hu:A.units < cLine)
  (hT:∀ h':Heap,(∀ b o,b≠a→s.heap.get? b = some o→h'.get? b = some o)→TupX (model prog w) h' C) (hL:∀ x∈L,∀ y∈L,x.1 = y.1→x = y)
  (h:∀ (out:Array Value) (L':List Tri),Reps s.heap (L'.map (triV C)) out.toList→L'.Perm L→L'.Pairwise (fun x y=>x.1≤y.1)→P (.done (.ret .none)) { s with heap:=sortedHeap s.heap a vs out }) :
  wpAny (model prog w) A (Builtin.«list.sort» ⟨[.ref a],[]⟩) P E s:=by
 obtain ⟨hm1,hm2⟩:=triReps_map hv
 rw [list_sort_plain]
 have hsl:sizeLine = 16777216:=rfl
 refine wpAny_bind (listItems_at ho rfl (wpAny_bind (listUpdate_at ho rfl ?_ (by rw [List.size_toArray]; exact as2 2 (.t Z0 (.n 64)) (.e Z1 (.n 16777216)) (.l Z0 Z1) [_,_] hz hsl) (by simp))))
 obtain ⟨e1,ho1⟩:∃ e1,(s.heap.update a (Obj.mapSeq fun _=>#[])).get? a = some (seqObj "list" #[] e1):=⟨_,get?_update_seq ho (fun _=>#[])⟩
 refine wpAny_bind (seqEpoch_at ho1 rfl (wpAny_bind (wpAny_newTuple (wpAny_bind (wpAny_newList (wpAny_holding ?_)) )) ))
 have ho6:(((s.heap.update a (Obj.mapSeq fun _=>#[])).push (seqObj "tuple" vs.toArray 0)).push (seqObj "list" #[] 0)).get? a = some (seqObj "list" #[] e1):=
  push_grow _ _ (push_grow _ _ ho1)
 have hk6:∀ b o,b≠a→s.heap.get? b = some o→(((s.heap.update a (Obj.mapSeq fun _=>#[])).push (seqObj "tuple" vs.toArray 0)).push (seqObj "list" #[] 0)).get? b = some o:=fun b o hb e=>push_grow _ _ (push_grow _ _ (upd_kp b o hb e))
 show wpAny (model prog w) A _ P E { s with heap:=((s.heap.update a (Obj.mapSeq fun _=>#[])).push (seqObj "tuple" vs.toArray 0)).push (seqObj "list" #[] 0) }
 have key:∀ xs:Array Keyed,xs.Perm (pairsOf vs)→(2≤vs.length→SoOn (triRk (((s.heap.update a (Obj.mapSeq fun _=>#[])).push (seqObj "tuple" vs.toArray 0)).push (seqObj "list" #[] 0)) C L) xs 0 xs.size)→P (.done (.ret .none)) { s with heap:=sortedHeap s.heap a vs (xs.map (·.2)) }:=fun xs hp hs=>by
  have hl:xs.toList.Perm (vs.zip vs):=by rw [← pairsOf_toList]; exact Array.perm_iff_toList_perm.mp hp
  have hmem:∀ p∈xs.toList,p.1 = p.2∧p.1∈vs:=fun p hp'=>mem_zip_self (hl.mem_iff.mp hp')
  have hl2:(xs.map (·.2)).toList.Perm vs:=by have:=hl.map (·.2); rw [zip_snd] at this; rw [Array.toList_map]; exact this
  refine h _ ((xs.map (·.2)).toList.map (triOf s.heap C)) (triReps_of fun v hv'=>?_) (by rw [← hm1]; exact hl2.map _) ?_
  ·obtain ⟨x,_,q⟩:=hm2 v (hl2.mem_iff.mp hv'); exact ⟨x,q⟩
  ·rcases Nat.lt_or_ge vs.length 2 with g | g
   ·have:((xs.map (·.2)).toList.map (triOf s.heap C)).length < 2:=by rw [List.length_map,hl2.length_eq]; exact g
    exact pair_few this
   ·rw [Array.toList_map,List.map_map,List.pairwise_map]
    refine (soOn_pair (hs g)).imp_of_mem fun {p q} hp' hq' le=>?_
    obtain ⟨p1,p2⟩:=hmem p hp'
    obtain ⟨q1,q2⟩:=hmem q hq'
    obtain ⟨x,hx,hxp⟩:=hm2 _ p2
    obtain ⟨y,hy,hyq⟩:=hm2 _ q2
    rw [triRk_eq hx (isTri_keeps ho hk6 hxp),triRk_eq hy (isTri_keeps ho hk6 hyq)] at le
    show (triOf s.heap C p.2).1≤(triOf s.heap C q.2).1
    rw [← p1,← q1,triOf_eq hxp,triOf_eq hyq]
    exact Int.ofNat_le.mp le
 dsimp only
 by_cases h2:vs.toArray.size < 2
 ·rw [if_pos h2,if_pos h2]
  refine wpAny_bind (wpAny_pure ?_)
  rw [StateT.run_pure]
  refine wpAny_bind (wpAny_pure ?_)
  dsimp only
  refine wpAny_bind (seqEpoch_at ho6 rfl ?_)
  refine wpAny_bind (listUpdate_at ho6 rfl ?_ (by simp) (by rw [Array.size_map]; show (pairsOf vs).size≤_; rw [pairsOf_size]; exact as2 2 (.t Z0 (.n 64)) (.e Z1 (.n 16777216)) (.l Z0 (.a Z1 N1)) [_,_] hz hsl))
  simp only [bne_self_eq_false,Bool.false_eq_true,if_false]
  refine wpAny_pure (key (pairsOf vs) (Array.Perm.refl _) fun g=>absurd g (Nat.not_le.mpr (by simpa using h2)))
 ·rw [if_neg h2,if_neg h2]
  have h2':2≤vs.length:=by simpa using h2
  refine wpAny_bind (kas_kind (T:=.ref C) h2' (fun v hv'=>?_) rfl (by simp) ?_)
  ·obtain ⟨x,_,q⟩:=hm2 v hv'
   obtain ⟨b,items,rfl,ht,_⟩:=isTri_keeps ho hk6 q
   exact tup_typ ht
  refine wpAny_bind (wpAny_mono (wpS_one (ltOk_tri (L:=L) (hT _ hk6) hu hL) (a₀:=pairsOf vs) (st:=SortSt.mk' oneType' (vs.toArray.zip vs.toArray) #[] 7 none)
   (Q:=fun _ st'=>(arrOf st').Perm (pairsOf vs)∧failedOf st' = none∧SoOn (triRk (((s.heap.update a (Obj.mapSeq fun _=>#[])).push (seqObj "tuple" vs.toArray 0)).push (seqObj "list" #[] 0)) C L) (arrOf st') 0 (pairsOf vs).size)
   ⟨Array.Perm.refl _,(fun _ hi=>absurd hi (Nat.not_lt_zero _)),rfl,rfl,rfl,fun p hp=>?_⟩ (by rw [pairsOf_size]; exact as1 1 (.l (.n 2) Z0) (.l N1 Z0) [_] h2') (by rw [pairsOf_size]; exact hz) fun st' a1 a2 a3=>⟨a1,a2,a3⟩) ?_ fun _ _ e=>e)
  ·rw [pairsOf_toList] at hp
   obtain ⟨x,hx,q⟩:=hm2 p.1 (mem_zip_self hp).2
   exact ⟨x,hx,isTri_keeps ho hk6 q⟩
  rintro ⟨⟨⟩,st'⟩ s' ⟨rfl,hp,hf,hs⟩
  dsimp only
  refine wpAny_bind (seqEpoch_at ho6 rfl ?_)
  refine wpAny_bind (listUpdate_at ho6 rfl ?_ (by simp) (by rw [Array.size_map,hp.size_eq,pairsOf_size]; exact as2 2 (.t Z0 (.n 64)) (.e Z1 (.n 16777216)) (.l Z0 (.a Z1 N1)) [_,_] hz hsl))
  rw [hf]
  simp only [bne_self_eq_false,Bool.false_eq_true,if_false]
  exact wpAny_pure (key _ hp fun _=>by rw [hp.size_eq]; exact hs)
end
section
variable {c:Ctx} {m:Lo} {H:Hp} {pos:Pos} {K:Frag} {Q:V→Lo→Hp→Prop}
theorem k_sort_tri {C a:Addr} {L:List Tri} {F:O→Hp} (hT:∀ h,K.In h→TupX (model c.prog c.w) h C) (B:Base c K) (sp:Spot a (.list (L.map (triV C))) H F) (hz:L.length < 64) (hL:∀ x∈L,∀ y∈L,x.1 = y.1→x = y)
  (h:∀ L':List Tri,L'.Perm L→L'.Pairwise (fun x y=>x.1≤y.1)→Q .none m (F (.list (L'.map (triV C))))):Cal c (.bi "list.sort") [.ref a] m H Q:=fun s vf vvs R rf rv P k=>by
 cases (rf:vf = _)
 obtain ⟨va,rfl,ra⟩:=rv.sole
 cases (ra:va = _)
 obtain ⟨items,n,hl,hr⟩:=O.list_get (R.obj _ _ (sp.upd (.list [])).mem)
 have hlen:items.toList.length < 64:=by rw [hr.length,List.length_map]; exact hz
 have hap:c.G a = .none:=(R.apart a (List.mem_map.mpr ⟨_,(sp.upd (.list [])).mem,rfl⟩)).2
 have hl':s.heap.get? a = some (seqObj "list" items.toList.toArray n):=by simpa using hl
 refine wpAny_call_entry slot_list_sort ⟨_,hl,rfl⟩ entry_list_sort (sort_tri hl' hr hlen c.hu1 (fun h' hk=>hT h' (B.kin h' fun b o e=>hk b o (fun q=>by subst q; rw [hap] at e; cases e) (R.keep b o e))) hL fun out L' a1 a2 a3=>⟨_,rfl,?_⟩) (args_list_sort _)
 obtain ⟨e,he⟩:=sortedHeap_at (out:=out) hl'
 have hs:∀ b ob,b≠a→s.heap.get? b = some ob→(sortedHeap s.heap a items.toList out).get? b = some ob:=fun b ob hb q=>(sortedHeap_old hb (Heap.lt_size q)).trans q
 have up:=sp.upd (.list (L'.map (triV C)))
 have Fp':Fp c.env.locals H (F (.list (L'.map (triV C)))) s.heap (sortedHeap s.heap a items.toList out):=.upd up hs ⟨_,he⟩
 exact k .none .none m _ _ (tkn s s.toks) (R.upd (tkn s s.toks) up hs ⟨_,he⟩ fun F=>O.list_mk he (R.liftL F a1)) Fp' rfl (h L' a2 a3)
end
theorem mro_map:mroOf (.type "map") = pure [.type "map",.type "object"]:=by rw [mroOf_type]; kernel_rfl
theorem lookup_map_new:typeLookup (.type "map") "__new__" = pure (some (.builtin "map.__new__")):=by rw [typeLookup_type,builtinLookup_eq_fast]; kernel_rfl
theorem sub_map:isSubtype (.type "map") (.type "map") = pure true:=by rw [isSubtype_type]; kernel_rfl
theorem slot_map_init:Slot "map" "__init__" "object.__init__":=
 .of (owner:="object") (n:="__init__") (by rw [typeLookup_type,builtinLookup_eq_fast]; kernel_rfl) (by decide +kernel) (by decide +kernel) (by decide +kernel) (.inl (by decide +kernel)) (by rw [isSubtype_type]; kernel_rfl)
theorem slot_map_iter:Slot "map" "__iter__" "map.__iter__":=
 .of (owner:="map") (n:="__iter__") (by rw [typeLookup_type,builtinLookup_eq_fast]; kernel_rfl) (by decide +kernel) (by decide +kernel) (by decide +kernel) (.inl (by decide +kernel)) (by rw [isSubtype_type]; kernel_rfl)
theorem slot_map_next:Slot "map" "__next__" "map.__next__":=
 .of (owner:="map") (n:="__next__") (by rw [typeLookup_type,builtinLookup_eq_fast]; kernel_rfl) (by decide +kernel) (by decide +kernel) (by decide +kernel) (.inl (by decide +kernel)) (by rw [isSubtype_type]; kernel_rfl)
theorem called_map:TypeCalled "map" "map.__new__" "object.__init__":=
 ⟨by decide +kernel,by decide +kernel,⟨_,_,mro_map⟩,madeBy_type mro_map lookup_map_new (by decide +kernel),by decide +kernel,by rw [isSubtype_type]; kernel_rfl,slot_map_init⟩
theorem typeCall_map_2 (a b:Value):checkTypeCall "map" ⟨[a,b],[]⟩ = pure ():=by kernel_rfl
theorem newCall_map_2 (a b:Value):checkBuiltinCall "map.__new__" ⟨[.type "map",a,b],[]⟩ = pure ():=by kernel_rfl
theorem entry_map_new:entryFor table "map.__new__" = some Builtin.«map.__new__»:=entryFor_of_tree (by kernel_rfl)
theorem entry_map_next:entryFor table "map.__next__" = some Builtin.«map.__next__»:=entryFor_of_tree (by kernel_rfl)
theorem map_no_len:typeLookup (.type "map") "__len__" = pure none:=by rw [typeLookup_type,builtinLookup_eq_fast]; kernel_rfl
theorem map_no_hint:typeLookup (.type "map") "__length_hint__" = pure none:=by rw [typeLookup_type,builtinLookup_eq_fast]; kernel_rfl
theorem args_map_next (a:Value):argsOk "map.__next__" ⟨[a],[]⟩:=by unfold argsOk; kernel_rfl
theorem args_map_iter (a:Value):argsOk "map.__iter__" ⟨[a],[]⟩:=by unfold argsOk; kernel_rfl
theorem args_oi_map (a b c:Value):argsOk "object.__init__" ⟨[a,b,c],[]⟩:=by unfold argsOk; kernel_rfl
theorem entry_map_iter:entryFor table "map.__iter__" = some Builtin.«dict_keyiterator.__iter__»:=entryFor_alias (id':="dict_keyiterator.__iter__") (by kernel_rfl) rfl (by decide +kernel) (by kernel_rfl)
section
open AutoSeq1 (wpAny_loadPart')
noncomputable abbrev mapObj (t:Addr) (f:Value):Obj:={ cls:=.type "map",data:=.fields #[.ref t,f] }
noncomputable abbrev oneTup (i:Addr):Obj:={ cls:=.type "tuple",data:=.seq #[.ref i] }
noncomputable abbrev lstIter (l:Addr):Obj:={ cls:=.type "list_iterator",data:=.fields #[.ref l,.int 0 0] }
set_option maxHeartbeats 1000000 in
theorem meets_map_new (f:Value) (l:Addr) (items:Array Value) (n:Nat) (dct:Option Addr) (sl:Array (Option Value)) :
  Meets (Builtin.«map.__new__» ⟨[.type "map",f,.ref l],[]⟩) (fun _ R s=>s.heap.get? l = some { cls:=.type "list",dict:=dct,data:=.seq items n,slots:=sl } ∧
   R (.ok (.ret (.ref ((s.heap.push (lstIter l)).push (oneTup s.heap.objs.size)).objs.size)))
    { s with heap:=((s.heap.push (lstIter l)).push (oneTup s.heap.objs.size)).push (mapObj (s.heap.push (lstIter l)).objs.size f) }):=
 .of_wp fun prog w A R s h=>by
  obtain ⟨hp,g,d,tk,os⟩:=s; obtain ⟨hl,h⟩:=h
  have hsub:=sub_map
  have hL:Heap.IsList (Shared.heap ⟨hp,g,d,tk,os⟩) l items:=⟨_,hl,rfl,n,rfl⟩
  unfold Builtin.«map.__new__» Builtin.SmallTypes.newClass Builtin.SmallTypes.refuseKeywords Builtin.SmallTypes.iterAll Builtin.SmallTypes.newRecord
  wp_walk using wpAny_loadPart' hl,wpAny_pyIter_list hL
  exact ⟨_,rfl,h⟩
structure MapAt (h:Heap) (M T I l:Addr) (f:Value) (i:Nat):Prop where
 map:h.get? M = some (mapObj T f)
 tup:h.get? T = some (oneTup I)
 it:h.IsListIter I l i
 mt:M≠I
 ti:T≠I
section
variable {prog:Program} {w:World} {A:Around} {E:Value→Shared→Prop} {s:Shared}
theorem call_map {l:Addr} {items:Array Value} {f:Value} {Q:Value→Shared→Prop} (hL:s.heap.IsList l items)
  (h:∀ h',MapAt h' (s.heap.objs.size + 2) (s.heap.objs.size + 1) s.heap.objs.size l f 0→(∀ b o,s.heap.get? b = some o→h'.get? b = some o)→h'.objs.size = s.heap.objs.size + 3→Q (.ref (s.heap.objs.size + 2)) { s with heap:=h' }) :
  wpAny (model prog w) A (call (.type "map") [f,.ref l]) Q E s:=by
 obtain ⟨⟨c,dct,dt,sl⟩,hl,hc,n,hd⟩:=hL
 replace hc:c = .type "list":=hc
 replace hd:dt = .seq items n:=hd
 subst hc hd
 refine callType_new called_map (by decide) (typeCall_map_2 _ _) (newCall_map_2 _ _) (fun obj=>args_oi_map obj _ _) entry_map_new (meets_map_new f l items n dct sl) ⟨hl,?_⟩
 have z1:(s.heap.push (lstIter l)).objs.size = s.heap.objs.size + 1:=Heap.size_push ..
 have z2:((s.heap.push (lstIter l)).push (oneTup s.heap.objs.size)).objs.size = s.heap.objs.size + 2:=by rw [Heap.size_push,z1]
 have z3:(((s.heap.push (lstIter l)).push (oneTup s.heap.objs.size)).push (mapObj (s.heap.objs.size + 1) f)).objs.size = s.heap.objs.size + 3:=by rw [Heap.size_push,z2]
 show _∧_
 rw [z2,z1]
 have a1:(s.heap.push (lstIter l)).get? s.heap.objs.size = some (lstIter l):=Heap.get?_push_size _ rfl
 have a2:((s.heap.push (lstIter l)).push (oneTup s.heap.objs.size)).get? (s.heap.objs.size + 1) = some (oneTup s.heap.objs.size):=by rw [← z1]; exact Heap.get?_push_size _ rfl
 have a3:(((s.heap.push (lstIter l)).push (oneTup s.heap.objs.size)).push (mapObj (s.heap.objs.size + 1) f)).get? (s.heap.objs.size + 2) = some (mapObj (s.heap.objs.size + 1) f):=by rw [← z2]; exact Heap.get?_push_size _ rfl
 refine ⟨⟨_,a3,rfl⟩,h _ ⟨a3,push_grow _ _ a2,⟨_,push_grow _ _ (push_grow _ _ a1),rfl,rfl⟩,Nat.ne_of_gt (by omega),Nat.ne_of_gt (by omega)⟩ (fun b o x=>push_grow _ _ (push_grow _ _ (push_grow _ _ x))) z3⟩
theorem map_next {M T I l:Addr} {f x:Value} {i:Nat} {items:Array Value} {Q:Option Value→Shared→Prop} (a:MapAt s.heap M T I l f i) (hl:s.heap.IsList l items) (hx:items[i]? = some x)
  (hc:∀ h',MapAt h' M T I l f (i + 1)→Heap.SameBut I s.heap h'→wpAny (model prog w) A.in1 (call f [x]) (fun v s'=>Q (some v) s') (fun _ _=>False) { s with heap:=h' }):wpAny (model prog w) A (pyNext (.ref M)) Q E s:=by
 have hT:s.TypeIs (.ref M) "map":=⟨_,a.map,rfl⟩
 unfold pyNext
 refine wpAny_bind (wpAny_attempt (wpAny_callSpecial?_slot (name:=Str.ofString "__next__") hT slot_map_next (wpAny_call_entry slot_map_next hT entry_map_next ?_ (args_map_next _))))
 show wpAny _ _ (field (.ref M) 0 >>= _) _ _ s
 refine wpAny_bind (wpAny_field a.map rfl (x:=.ref T) rfl ?_)
 refine wpAny_bind (wpAny_seqItems a.tup rfl ?_)
 dsimp only
 refine wpAny_bind ?_
 show wpAny _ _ (forIn #[Value.ref I] (#[]:Array Value) fun it __s=>do
      let __do_lift ← holding __s.toList (Builtin.SmallTypes.nextOf it)
      pure (ForInStep.yield (__s.push __do_lift))) _ _ _
 rw [← Array.forIn_toList]
 show wpAny _ _ (forIn [Value.ref I] (#[]:Array Value) fun it __s=>do
      let __do_lift ← holding __s.toList (Builtin.SmallTypes.nextOf it)
      pure (ForInStep.yield (__s.push __do_lift))) _ _ _
 rw [List.forIn_cons]
 refine wpAny_bind (wpAny_bind (wpAny_holding (wpAny_nextOf_list_item a.it hl hx fun h' hit hs=>?_)))
 refine wpAny_pure ?_
 dsimp only
 rw [List.forIn_nil]
 refine wpAny_pure ?_
 have a':MapAt h' M T I l f (i + 1):=⟨(hs.2 M a.mt).trans a.map,(hs.2 T a.ti).trans a.tup,hit,a.mt,a.ti⟩
 refine wpAny_bind (wpAny_field a'.map rfl (x:=f) rfl ?_)
 refine wpAny_bind (wpAny_holding (wpAny_mono (hc h' a' hs) (fun v s' q=>?_) fun _ _ q=>q.elim))
 exact wpAny_bind (wpAny_letGo (wpAny_pure ⟨v,rfl,wpAny_pure q⟩))
theorem map_end {M T I l:Addr} {f:Value} {i:Nat} {items:Array Value} {Q:Option Value→Shared→Prop} (hh:A.handled = .none) (a:MapAt s.heap M T I l f i) (hl:s.heap.IsList l items) (hx:items[i]? = .none)
  (hQ:∀ h',Heap.ExtBut I s.heap h'→Q none { s with heap:=h' }):wpAny (model prog w) A (pyNext (.ref M)) Q E s:=by
 have hT:s.TypeIs (.ref M) "map":=⟨_,a.map,rfl⟩
 unfold pyNext
 refine wpAny_bind (wpAny_attempt (wpAny_callSpecial?_slot (name:=Str.ofString "__next__") hT slot_map_next (wpAny_call_entry slot_map_next hT entry_map_next ?_ (args_map_next _))))
 show wpAny _ _ (field (.ref M) 0 >>= _) _ _ s
 refine wpAny_bind (wpAny_field a.map rfl (x:=.ref T) rfl ?_)
 refine wpAny_bind (wpAny_seqItems a.tup rfl ?_)
 dsimp only
 refine wpAny_bind ?_
 show wpAny _ _ (forIn #[Value.ref I] (#[]:Array Value) fun it __s=>do
      let __do_lift ← holding __s.toList (Builtin.SmallTypes.nextOf it)
      pure (ForInStep.yield (__s.push __do_lift))) _ _ _
 rw [← Array.forIn_toList]
 show wpAny _ _ (forIn [Value.ref I] (#[]:Array Value) fun it __s=>do
      let __do_lift ← holding __s.toList (Builtin.SmallTypes.nextOf it)
      pure (ForInStep.yield (__s.push __do_lift))) _ _ _
 rw [List.forIn_cons]
 refine wpAny_bind (wpAny_bind (wpAny_holding (wpAny_nextOf_list_end hh a.it hl hx fun h' e he ho=>?_)))
 refine wpAny_bind (wpAny_isInstance (T:="StopIteration") (b:=true) (let ⟨o,ho,hc⟩:=ho; ⟨o,ho,hc⟩) isSubtype_stop ?_)
 exact wpAny_pure (hQ h' he)
end
section
variable {c:Ctx} {m:Lo} {H:Hp}
theorem Ctx.deeper (c:Ctx) {k:Nat} (hf:c.fuel = k + 1) (A':Around) (h1:A'.handled = c.A.handled) (h2:A'.depth = c.A.depth) (h3:A'.units≤c.A.units + 30):∃ c2:Ctx,Made c c2∧c2.fuel = k∧c2.A = A':=
 ⟨⟨c.prog,c.w,A',c.env,c.G,k,h1.trans c.hh,by have:=c.hd; rw [hf] at this; rw [h2]; exact as1 3 (.t (.a Z0 (.a Z1 N1)) Z2) (.t (.a Z0 Z1) Z2) [_,_,_] this,by have:=c.hu; rw [hf] at this; exact as2 4 (.l Z0 (.a Z1 (.n 30))) (.t (.a (.a Z1 (.m 40 (.a Z2 N1))) (.n 400)) Z3) (.t (.a (.a Z0 (.m 40 Z2)) (.n 400)) Z3) [_,_,_,_] h3 this,c.hk⟩,⟨rfl,rfl,hf,rfl,rfl⟩,rfl,rfl⟩
noncomputable def ApartL (c:Ctx) (H:Hp) (l:List Addr):Prop:=∀ b∈l,b∉dom H∧b≠c.env.locals∧c.G b = .none
structure ExtJ (c:Ctx) (m:Lo) (H:Hp) (S M T I l:Addr) (f:Value) (ys:List V) (h0:Heap) (s0:Shared) (i:Nat) (s:Shared):Prop where
 st:∃ h tk,s = sw s0 h tk
 rel:Rel c ⟨m,H⟩ s
 fp:Fp c.env.locals H H h0 s.heap
 map:MapAt s.heap M T I l f i
 lst:∃ acc e,s.heap.get? S = some { cls:=.type "list",dict:=none,data:=.seq acc e,slots:=#[] }∧Reps s.heap (ys.take i) acc.toList
theorem aside_one {h:Heap} {l:List Addr} {b:Addr} {o:Obj} (ap:ApartL c H l) (hb:b∈l) (ho:h.get? b = some o) (nt:NotTup o):Aside c H h [b]:=fun x hx=>by
 rw [List.mem_singleton] at hx
 subst hx
 obtain ⟨a1,a2,a3⟩:=ap x hb
 exact ⟨a1,a2,a3,o,ho,nt⟩
theorem ext_map_loop {k:Nat} (hf:c.fuel = k + 1) {S M T I l:Addr} {F:At} {f:Value} {xs:List V} {g:V→V} {h0:Heap} {s0:Shared} {R:Result→Shared→Prop} {A:Around} (hA1:A.handled = c.A.handled) (hA2:A.depth = c.A.depth) (hA3:A.units≤c.A.units + 20)
  (ap:ApartL c H [S,M,T,I]) (hnew:∀ b∈[S,M,T,I],h0.get? b = .none) (hSI:S≠I) (hSM:S≠M) (hST:S≠T) (hx:Sees c H l (.list xs)) (hz:xs.length≤1000) (hF:F.rep f)
  (hcall:∀ c2,Made c c2→c2.fuel = k→∀ u∈xs,∀ Q:V→Lo→Hp→Prop,Q (g u) m H→Cal c2 (.at F) [u] m H Q)
  (fin:∀ s',(∃ h tk,s' = sw s0 h tk)→Rel c ⟨m,H⟩ s'→Fp c.env.locals H H h0 s'.heap→(∃ acc e,s'.heap.get? S = some { cls:=.type "list",dict:=none,data:=.seq acc e,slots:=#[] }∧Reps s'.heap (xs.map g) acc.toList)→R (.ok (.ret .none)) s') :
  ∀ n i s,xs.length - i = n→i≤xs.length→ExtJ c m H S M T I l f (xs.map g) h0 s0 i s→codeAny (model c.prog c.w) A (.builtin "list.extend.loop" ⟨[.ref S,.ref M,.none],[]⟩) R s:=by
 intro n
 induction n with
 | zero=>
  intro i s hn hi J
  have hin:i = xs.length:=by exact as2 2 (.e (.s Z0 Z1) (.n 0)) (.l Z1 Z0) (.e Z1 Z0) [_,_] hn hi
  subst hin
  obtain ⟨acc,e,hS,hr⟩:=J.lst
  obtain ⟨items,nl,hl,hrx⟩:=O.list_get (hx m s J.rel)
  have hlen:items.size = xs.length:=by rw [← Array.length_toList,hrx.length]
  refine codeAny_builtin PySem.F.entry_extend_loop ?_
  rw [Around.under_plainId PySem.F.plain_extend_loop _]
  show wpAny _ A.in1 (pyNext (.ref M) >>= _) _ _ s
  refine wpAny_bind (map_end (hA1.trans c.hh) J.map (IsL.isList hl) (by simp [hlen]) fun h' he=>?_)
  obtain ⟨oi,hoi,hci,hdi⟩:=J.map.it
  have aI:Aside c H s.heap [I]:=aside_one ap (by simp) hoi (fun k items n q=>by rw [hdi] at q; cases q.2)
  have hk:∀ b o,b∉[I]→s.heap.get? b = some o→h'.get? b = some o:=fun b o hb q=>he b o (fun e=>hb (by rw [e]; simp)) q
  refine wpAny_pure (fin _ (by obtain ⟨h1,tk1,e1⟩:=J.st; exact ⟨h',tk1,by rw [e1]⟩) (J.rel.off2 (tkn s s.toks) aI hk) ?_ ⟨acc,e,hk S _ (by simpa using hSI) hS,?_⟩)
  ·exact J.fp.off (fp:=[I]) (fun b hb=>hnew b (by simp at hb; simp [hb])) hk
  ·rw [List.take_of_length_le (by simp)] at hr
   exact lift_offL aI hk hr
 | succ n ih=>
  intro i s hn hi J
  have hlt:i < xs.length:=by exact as1 3 (.e (.s Z0 Z1) (.a Z2 N1)) (.t Z1 Z0) [_,_,_] hn
  obtain ⟨acc,e,hS,hr⟩:=J.lst
  obtain ⟨items,nl,hl,hrx⟩:=O.list_get (hx m s J.rel)
  have hlen:items.size = xs.length:=by rw [← Array.length_toList,hrx.length]
  obtain ⟨v,hv,rv⟩:=hrx.get (show xs[i]? = some xs[i] by simp [hlt])
  rw [Array.getElem?_toList] at hv
  obtain ⟨oi,hoi,hci,hdi⟩:=J.map.it
  have aI:Aside c H s.heap [I]:=aside_one ap (by simp) hoi (fun k items n q=>by rw [hdi] at q; cases q.2)
  refine codeAny_builtin PySem.F.entry_extend_loop ?_
  rw [Around.under_plainId PySem.F.plain_extend_loop _]
  show wpAny _ A.in1 (pyNext (.ref M) >>= _) _ _ s
  refine wpAny_bind (map_next J.map (IsL.isList hl) hv fun h' mp hs=>?_)
  have hk:∀ b o,b∉[I]→s.heap.get? b = some o→h'.get? b = some o:=fun b o hb q=>(hs.2 b (by simpa using hb)).trans q
  have R1:Rel c ⟨m,H⟩ { s with heap:=h' }:=J.rel.off2 (tkn s s.toks) aI hk
  have F1:Fp c.env.locals H H h0 h':=J.fp.off (fp:=[I]) (fun b hb=>hnew b (by simp at hb; simp [hb])) hk
  have hS1:h'.get? S = some { cls:=.type "list",dict:=none,data:=.seq acc e,slots:=#[] }:=hk S _ (by simpa using hSI) hS
  have hr1:Reps h' ((xs.map g).take i) acc.toList:=lift_offL aI hk hr
  have rv1:(xs[i]).rep h' v:=lift_off aI hk rv
  obtain ⟨c2,M2,hk2,hA⟩:=c.deeper hf A.in1.in1 hA1 hA2 (by show A.units + 1 + 1≤_; exact as1 2 (.l Z0 (.a Z1 (.n 20))) (.l (.a (.a Z0 N1) N1) (.a Z1 (.n 30))) [_,_] hA3)
  have run:=hcall c2 M2 hk2 xs[i] (List.getElem_mem hlt) (fun v' m' H'=>v' = g xs[i]∧m' = m∧H' = H) ⟨rfl,rfl,rfl⟩ _ f [v] (M2.rel.mp R1) hF (.one rv1)
  have run':=run (fun v' s'=>∃ h2 tk2,s' = sw { s with heap:=h' } h2 tk2∧Rel c ⟨m,H⟩ s'∧Fp c.env.locals H H h' h2∧(g xs[i]).rep h2 v') fun b v' m' H' h2 tk2 R2 F2 r2 q2=>by
   obtain ⟨rfl,rfl,rfl⟩:=q2
   exact ⟨h2,tk2,rfl,M2.rel.mpr R2,by have:=F2; rw [M2.env] at this; exact this,r2⟩
  have run2:wpAny (model c.prog c.w) A.in1.in1 (call f [v]) (fun v' s'=>∃ h2 tk2,s' = sw { s with heap:=h' } h2 tk2∧Rel c ⟨m,H⟩ s'∧Fp c.env.locals H H h' h2∧(g xs[i]).rep h2 v') (fun _ _=>False) { s with heap:=h' }:=by
   have:=run'
   unfold Ctx.wp at this
   rw [M2.prog,M2.w,hA] at this
   exact this
  refine wpAny_mono run2 (fun v' s' q=>?_) fun _ _ q=>q
  obtain ⟨h2,tk2,rfl,R2,F2,r2⟩:=q
  obtain ⟨p1,p2,_⟩:=ap S (by simp)
  obtain ⟨q1,q2,_⟩:=ap M (by simp)
  obtain ⟨t1,t2,_⟩:=ap T (by simp)
  obtain ⟨i1,i2,_⟩:=ap I (by simp)
  have hS2:h2.get? S = some { cls:=.type "list",dict:=none,data:=.seq acc e,slots:=#[] }:=F2.keep _ _ p1 p2 hS1
  have hr2:Reps h2 ((xs.map g).take i) acc.toList:=R1.liftL F2 hr1
  have mp2:MapAt h2 M T I l f (i + 1):=⟨F2.keep _ _ q1 q2 mp.map,F2.keep _ _ t1 t2 mp.tup,let ⟨o,ho,z⟩:=mp.it; ⟨o,F2.keep _ _ i1 i2 ho,z⟩,mp.mt,mp.ti⟩
  have aS:Aside c H h2 [S]:=aside_one ap (by simp) hS2 (fun k items n q=>by cases k <;> exact absurd q.1 (by unfold clsOf; simp))
  have hk3:∀ b o,b∉[S]→h2.get? b = some o→(h2.update S (Obj.mapSeq (·.push v'))).get? b = some o:=fun b o hb q=>upd_kp b o (by simpa using hb) q
  have hacc:acc.size = i:=by rw [← Array.length_toList,hr.length,List.length_take,List.length_map]; exact as1 2 (.t Z0 Z1) (.e (.mn Z0 Z1) Z0) [_,_] hlt
  have hsl:sizeLine = 16777216:=rfl
  show wpAny _ A.in1 (updateSeq S (·.push v') >>= _) _ _ _
  refine wpAny_bind (wpAny_updateSeq hS2 rfl (wpAny_pure ⟨plainId_quiet PySem.F.plain_extend_loop _,ih (i + 1) _ (by exact as1 3 (.e (.s Z0 Z1) (.a Z2 N1)) (.e (.s Z0 (.a Z1 N1)) Z2) [_,_,_] hn) hlt ⟨?_,?_,?_,?_,?_⟩⟩) (by exact as4 4 (.l Z0 (.n 1000)) (.t Z1 Z0) (.e Z2 Z1) (.e Z3 (.n 16777216)) (.l Z2 Z3) [_,_,_,_] hz hlt hacc hsl) (by rw [Array.size_push]; exact as4 4 (.l Z0 (.n 1000)) (.t Z1 Z0) (.e Z2 Z1) (.e Z3 (.n 16777216)) (.l (.a Z2 N1) (.a Z3 N1)) [_,_,_,_] hz hlt hacc hsl))
  ·obtain ⟨h1,tk1,e1⟩:=J.st; exact ⟨_,tk2,by rw [e1]⟩
  ·exact R2.off2 ⟨tk2.toks,tk2.drawn,tk2.gens⟩ aS hk3
  ·exact (F1.trans R1.hasL F2).off (fp:=[S]) (fun b hb=>hnew b (by simp at hb; simp [hb])) hk3
  ·exact ⟨hk3 M _ (by simpa using Ne.symm hSM) mp2.map,hk3 T _ (by simpa using Ne.symm hST) mp2.tup,let ⟨o,ho,z⟩:=mp2.it; ⟨o,hk3 I _ (by simpa using Ne.symm hSI) ho,z⟩,mp2.mt,mp2.ti⟩
  ·refine ⟨acc.push v',_,Heap.get?_update_self _ hS2 rfl,?_⟩
   rw [Array.toList_push]
   have e1:(xs.map g).take (i + 1) = (xs.map g).take i ++ [g xs[i]]:=by rw [List.take_add_one]; simp [hlt]
   rw [e1]
   exact (lift_offL aS hk3 hr2).append (.one (lift_off aS hk3 r2))
end
end
section
variable {c:Ctx} {m:Lo} {H:Hp} {pos:Pos}
theorem sw_sw {s s0:Shared} (st:∃ h tk,s = sw s0 h tk) (h':Heap) (tk':Tk):∃ h tk,sw s h' tk' = sw s0 h tk:=by obtain ⟨h,tk,rfl⟩:=st; exact ⟨h',tk',rfl⟩
theorem call_list_map {k:Nat} (hf:c.fuel = k + 1) {M T I l:Addr} {F:At} {f:Value} {xs:List V} {g:V→V} {h0:Heap} {s s0:Shared} {P:Value→Shared→Prop}
  (st:∃ h tk,s = sw s0 h tk) (R:Rel c ⟨m,H⟩ s) (F0:Fp c.env.locals H H h0 s.heap) (mp:MapAt s.heap M T I l f 0) (ap:ApartL c H [M,T,I]) (hnew:∀ b∈[M,T,I],h0.get? b = .none) (h0s:∀ b,h0.get? b≠.none→s.heap.get? b≠.none)
  (hx:Sees c H l (.list xs)) (hz:xs.length≤1000) (hF:F.rep f) (hcall:∀ c2,Made c c2→c2.fuel = k→∀ u∈xs,∀ Q:V→Lo→Hp→Prop,Q (g u) m H→Cal c2 (.at F) [u] m H Q)
  (fin:∀ S s',(∃ h tk,s' = sw s0 h tk)→Rel c ⟨m,H⟩ s'→Fp c.env.locals H H h0 s'.heap→h0.get? S = .none→S∉dom H∧S≠c.env.locals∧c.G S = .none→(∃ acc e,s'.heap.get? S = some { cls:=.type "list",dict:=none,data:=.seq acc e,slots:=#[] }∧Reps s'.heap (xs.map g) acc.toList)→P (.ref S) s') :
  wpAny (model c.prog c.w) c.A (call (.type "list") [.ref M]) P (fun _ _=>False) s:=by
 have hS0:s.heap.get? s.heap.objs.size = .none:=get_size _
 have hSn:h0.get? s.heap.objs.size = .none:=by
  cases q:h0.get? s.heap.objs.size with
  | none=>rfl
  | some o=>exact absurd hS0 (h0s _ (by rw [q]; exact fun e=>nomatch e))
 have apS:=R.fresh hS0
 have ap4:ApartL c H [s.heap.objs.size,M,T,I]:=fun b hb=>by
  rcases List.mem_cons.mp hb with rfl | hb
  ·exact apS
  ·exact ap b hb
 have hnew4:∀ b∈[s.heap.objs.size,M,T,I],h0.get? b = .none:=fun b hb=>by
  rcases List.mem_cons.mp hb with rfl | hb
  ·exact hSn
  ·exact hnew b hb
 have lt:∀ {b:Addr} {o:Obj},s.heap.get? b = some o→s.heap.objs.size≠b:=fun e=>Nat.ne_of_gt (Heap.lt_size e)
 have nM:=lt mp.map
 have nT:=lt mp.tup
 have nI:s.heap.objs.size≠I:=by obtain ⟨o,ho,_⟩:=mp.it; exact lt ho
 have g1:∀ b o,s.heap.get? b = some o→(s.heap.push { cls:=.type "list",data:=.seq #[] }).get? b = some o:=push_grow
 refine callType_codes (Q₁:=fun obj s₁=>obj = .ref s.heap.objs.size∧s₁ = { s with heap:=s.heap.push { cls:=.type "list",data:=.seq #[] } }) PySem.F.called_list (PySem.F.typeCall_list_1 _) PySem.F.entry_list_init (code_list_new _ ⟨rfl,rfl⟩) fun obj s₁ h₁=>?_
 obtain ⟨rfl,rfl⟩:=h₁
 have hS:(s.heap.push { cls:=.type "list",data:=.seq #[] }).get? s.heap.objs.size = some { cls:=.type "list",data:=.seq #[] }:=Heap.get?_push_size _ rfl
 refine ⟨⟨_,hS,rfl⟩,PySem.F.args_list_init_2 _ _,?_⟩
 show wpAny _ c.A.in1.in1 (do let old ← Builtin.List.listItems (.ref s.heap.objs.size); Builtin.List.listUpdate (.ref s.heap.objs.size) (fun _=>#[]); letGo old.toList.reverse; Builtin.List.listExtendWith (.ref s.heap.objs.size) (.ref M) .none) _ _ _
 refine wpAny_bind ?_
 unfold Builtin.List.listItems
 refine wpAny_bind (wpAny_seqItems hS rfl (wpAny_pure ?_))
 refine wpAny_bind ?_
 show wpAny _ _ (updateSeq s.heap.objs.size fun _=>#[]) _ _ _
 refine wpAny_updateSeq hS rfl ?_
 have hS2:=Heap.get?_update_self (Obj.mapSeq (fun _=>(#[]:Array Value))) hS rfl
 refine wpAny_bind (wpAny_letGo ?_)
 have k2:∀ b o,b≠s.heap.objs.size→s.heap.get? b = some o→((s.heap.push { cls:=.type "list",data:=.seq #[] }).update s.heap.objs.size (Obj.mapSeq fun _=>#[])).get? b = some o:=fun b o hb e=>upd_kp b o hb (g1 b o e)
 have m2:=k2 M _ nM.symm mp.map
 have hTy:Shared.TypeIs { s with heap:=(s.heap.push { cls:=.type "list",data:=.seq #[] }).update s.heap.objs.size (Obj.mapSeq fun _=>#[]) } (.ref M) "map":=⟨_,m2,rfl⟩
 unfold Builtin.List.listExtendWith
 refine wpAny_bind (wpAny_typeOf hTy ?_)
 have q1:Builtin.List.listSameRef (.ref s.heap.objs.size) (.ref M) = false:=by simp [Builtin.List.listSameRef,nM]
 have q2:(Value.type "map" == Value.type "list") = false:=by decide
 have q3:(Value.type "map" == Value.type "tuple") = false:=by decide
 repeat (first | rw [q1] | rw [q2] | rw [q3] | rw [Bool.or_false] | rw [Bool.false_or] | rw [if_neg Bool.false_ne_true])
 refine wpAny_bind (wpAny_pyIter_slot hTy slot_map_iter (wpAny_call_entry slot_map_iter hTy entry_map_iter ?_ (args_map_iter _)))
 show wpAny _ _ (ret (.ref M)) _ _ _
 refine wpAny_pure ⟨_,rfl,"map",_,hTy,slot_map_next.lookup,?_⟩
 refine wpAny_bind (wpAny_holding ?_)
 unfold Builtin.List.listLengthHint
 refine wpAny_bind (wpAny_specialOf hTy map_no_len ?_)
 show wpAny _ _ (specialOf (Value.ref M) (Str.ofString "__length_hint__") >>= _) _ _ _
 refine wpAny_bind (wpAny_specialOf hTy map_no_hint ?_)
 refine wpAny_pure ?_
 show wpAny _ _ (rule "list.extend.makes-room" >>= fun _=>Builtin.List.listTouch (.ref s.heap.objs.size) >>= fun _=>again (.builtin "list.extend.loop" ⟨[.ref s.heap.objs.size,.ref M,.none],[]⟩)) _ _ _
 refine wpAny_bind (wpAny_rule (wpAny_bind ?_))
 show wpAny _ _ (updateSeq s.heap.objs.size (·.push .none) >>= fun _=>updateSeq s.heap.objs.size (·.pop)) _ _ _
 refine wpAny_bind (wpAny_updateSeq hS2 rfl ?_)
 have hS3:=Heap.get?_update_self (Obj.mapSeq (·.push Value.none)) hS2 rfl
 refine wpAny_updateSeq (hz:=by seq_fits) hS3 rfl ?_
 have hS4:=Heap.get?_update_self (Obj.mapSeq (·.pop)) hS3 rfl
 have k4:∀ b o,s.heap.get? b = some o→((((s.heap.push { cls:=.type "list",data:=.seq #[] }).update s.heap.objs.size (Obj.mapSeq fun _=>#[])).update s.heap.objs.size (Obj.mapSeq (·.push Value.none))).update s.heap.objs.size (Obj.mapSeq (·.pop))).get? b = some o:=fun b o e=>
  have nb:b≠s.heap.objs.size:=(lt e).symm
  upd_kp b o nb (upd_kp b o nb (k2 b o nb e))
 refine wpAny_pure ⟨plainId_quiet PySem.F.plain_extend_loop _,?_⟩
 refine ext_map_loop (c:=c) (m:=m) (H:=H) hf (S:=s.heap.objs.size) (M:=M) (T:=T) (I:=I) (l:=l) (F:=F) (f:=f) (xs:=xs) (g:=g) (h0:=h0) (s0:=s0) (A:=c.A.in1) rfl rfl (by show c.A.units + 1≤_; exact as0 1 (.l (.a Z0 N1) (.a Z0 (.n 20))) [_]) ap4 hnew4 nI nM nT hx hz hF hcall (fun s' st' R' F' hl=>?_) xs.length 0 _ rfl (Nat.zero_le _) ⟨sw_sw st _ (tkn s s.toks),R.grow (tkn s s.toks) k4,F0.trans R.hasL (.grow k4),⟨k4 _ _ mp.map,k4 _ _ mp.tup,let ⟨o,ho,z⟩:=mp.it; ⟨o,k4 _ _ ho,z⟩,mp.mt,mp.ti⟩,⟨_,_,hS4,?_⟩⟩
 ·exact ⟨rfl,fin _ s' st' R' F' hSn apS hl⟩
 ·show Reps _ [] _
  exact (rfl:([]:List Value) = [])
theorem e_list_map {k:Nat} (hf:c.fuel = k + 1) (gl:Glob c "list" (.ty "list")) (gm:Glob c "map" (.ty "map")) {p1 p2 p3:Pos} {fe xe:Expr} {Q:V→Lo→Hp→Prop}
  (h:WPe c fe m H fun F m1 H1=>WPe c xe m1 H1 fun u m2 H2=>∃ Fa l xs g,F = .at Fa∧u = .ref l∧Sees c H2 l (.list xs)∧xs.length≤1000∧(∀ c2,Made c c2→c2.fuel = k→∀ v∈xs,∀ Q:V→Lo→Hp→Prop,Q (g v) m2 H2→Cal c2 (.at Fa) [v] m2 H2 Q)∧∀ a,Q (.ref a) m2 ((a,.list (xs.map g)) :: H2))
  (he1:autoParam (starEach [.Call (.Name ("map":Str) p2) [fe,xe] [] p3] c.env = [(false,eval (.Call (.Name ("map":Str) p2) [fe,xe] [] p3) c.env)]) auRfl)
  (he2:autoParam (starEach [fe,xe] c.env = [(false,eval fe c.env),(false,eval xe c.env)]) auRfl) :
  WPe c (.Call (.Name ("list":Str) p1) [.Call (.Name ("map":Str) p2) [fe,xe] [] p3] [] pos) m H Q:=fun s R P kont=>by
 refine Call_Name1 (Name_function_global c.hk gl.1 (gl.2 s.heap R.keep s _ rfl fun vf hvf=>?_) (by decide)) he1
 cases (hvf:vf = _)
 refine PySem.callWith_type rfl (PySem.Calls.evalArgs_plain (PySem.Calls.spliced_cons ?_))
 refine Call_Name2 (Name_function_global c.hk gm.1 (gm.2 s.heap R.keep s _ rfl fun vf hvf=>?_) (by decide)) he2
 cases (hvf:vf = _)
 refine PySem.callWith_type rfl (PySem.Calls.evalArgs_plain (PySem.Calls.spliced_cons (h s R _ fun F vF m1 H1 h1 tk1 R1 F1 r1 q1=>PySem.Calls.spliced_cons (q1 _ R1 _ fun u vu m2 H2 h2 tk2 R2 F2 r2 q2=>PySem.Calls.spliced_nil ?_))))
 obtain ⟨Fa,l,xs,g,rfl,rfl,hx,hz,hcall,q⟩:=q2
 have rF:Fa.rep vF:=r1
 cases (r2:vu = _)
 obtain ⟨items,n,hl,hr⟩:=O.list_get (hx m2 _ R2)
 refine call_map (IsL.isList hl) fun h3 mp hg hsz=>PySem.Calls.spliced_nil ?_
 have sz:∀ b,h2.objs.size≤b→h2.get? b = .none:=fun b hb=>get_ge hb
 have R3:Rel c ⟨m2,H2⟩ (sw s h3 tk2):=R2.grow tk2 hg
 have F3:Fp c.env.locals H2 H2 h2 h3:=.grow hg
 refine call_list_map hf (h0:=h2) (s0:=s) ⟨h3,tk2,rfl⟩ R3 F3 mp (fun b hb=>?_) (fun b hb=>?_) (fun b hb=>?_) hx hz rF hcall fun S s' st4 R4 F4 hSn apS hlst=>?_
 ·refine R2.fresh (sz b ?_)
  rcases List.mem_cons.mp hb with rfl | hb
  ·show h2.objs.size≤h2.objs.size + 2; exact as0 1 (.l Z0 (.a Z0 (.n 2))) [_]
  rcases List.mem_cons.mp hb with rfl | hb
  ·show h2.objs.size≤h2.objs.size + 1; exact as0 1 (.l Z0 (.a Z0 N1)) [_]
  rw [List.mem_singleton.mp hb]
  exact Nat.le_refl _
 ·refine sz b ?_
  rcases List.mem_cons.mp hb with rfl | hb
  ·show h2.objs.size≤h2.objs.size + 2; exact as0 1 (.l Z0 (.a Z0 (.n 2))) [_]
  rcases List.mem_cons.mp hb with rfl | hb
  ·show h2.objs.size≤h2.objs.size + 1; exact as0 1 (.l Z0 (.a Z0 N1)) [_]
  rw [List.mem_singleton.mp hb]
  exact Nat.le_refl _
 ·cases q:h2.get? b with
  | none=>exact absurd q hb
  | some o=>rw [show (sw s h3 tk2).heap.get? b = some o from hg b o q]; exact fun e=>nomatch e
 ·obtain ⟨acc,e,hS,hra⟩:=hlst
  obtain ⟨h4,tk4,rfl⟩:=st4
  have F24:Fp c.env.locals H2 ((S,.list (xs.map g)) :: H2) h2 h4:=⟨F4.keep,fun b hb=>(by
   rcases List.mem_cons.mp hb with e | e
   ·exact .inr (by rw [show b = S from e]; exact hSn)
   ·exact .inl e),F4.alive⟩
  exact kont (.ref S) _ m2 _ h4 tk4 (R4.adopt (o:=.list (xs.map g)) apS.1 apS.2.1 apS.2.2 ⟨acc,⟨_,hS,rfl,e,rfl⟩,⟨_,hS,rfl,rfl⟩,hra⟩) ((F1.trans R1.hasL F2).trans R2.hasL F24) rfl (q S)
end
section
variable {prog:Program} {w:World} {A:Around} {E:Value→Shared→Prop} {s:Shared} {C t:Addr} {items:Array Value}
theorem tup_special_call {T id:String} {name:Str} {args:List Value} {Q:Option Value→Shared→Prop} {v:Value} (hl:Looks (model prog w) s.heap (specialOf v name) (some (.builtin id))) (hb:Slot T name id)
  (hc:wpAny (model prog w) A (call (.builtin id) (v :: args)) (fun v=>Q (some v)) E s):wpAny (model prog w) A (callSpecial? v name args) Q E s:=by
 unfold callSpecial?
 refine wpAny_bind (hl.here ?_)
 dsimp only
 rw [hb.bind]
 refine wpAny_holding (wpAny_bind (wpAny_pure ?_))
 exact wpAny_bind (wpAny_mono hc (fun v s' h'=>wpAny_pure h') fun _ _ h'=>h')
theorem len_tupC {Q:Value→Shared→Prop} (ht:IsTupOf s.heap (some C) t items) (T:TupX (model prog w) s.heap C) (hz:items.size≤1000) (h:∀ u k,Q (.int items.size u) { s with toks:=k }):wpAny (model prog w) A (call (.builtin "len") [.ref t]) Q E s:=by
 obtain ⟨o,n,ho,hc,hd⟩:=id ht
 refine call_function_entry kind_len plain_len entry_len (args_len1 _) ?_
 unfold Builtin.«len»
 refine wpAny_bind (m:=oneArg "len" _) (wpAny_pure ?_)
 refine wpAny_bind (m:=callSpecial? (.ref t) (Str.ofString "__len__")) (tup_special_call (tup_special ht T.len) PySem.F.slot_tuple_len (tup_call ht T tn2_kind tn2_split PySem.F.slot_tuple_len.plain (PySem.F.args_tuple_len_1 _) PySem.F.entry_tuple_len ?_))
 unfold Builtin.«tuple.__len__» Builtin.Tuple.tupleItemsOf
 refine wpAny_bind (m:=slotArgs "__len__" 0 _) (wpAny_pure ?_)
 refine wpAny_bind (wpAny_bind (wpAny_seqItems ho hd (wpAny_pure ?_)))
 refine wpAny_bind (wpAny_mkInt (wpAny_pure ⟨_,rfl,?_⟩))
 dsimp only
 refine wpAny_bind (wpAny_holding (wpAny_pure ?_))
 refine wpAny_bind (wpAny_letGo ?_)
 rw [if_neg (by omega),if_neg (by omega)]
 exact wpAny_bind (wpAny_mkInt (wpAny_pure ⟨_,rfl,h _ _⟩))
end
section
variable {c:Ctx} {m:Lo} {H:Hp} {pos:Pos} {K:Frag} {Q:V→Lo→Hp→Prop}
theorem a_cls_cm {C p fa:Addr} {mc:Value} {name:Str} {rest:List Value} (B:Base c K) (hr:readsIn K C mc = true) (e:findCls K (.ref C) mc name = some (.get (.builtin "classmethod.__get__") (.ref p) .none (.ref C))) (hp:recIn K p "classmethod" = some (.ref fa :: rest))
  (h:∀ f,Q (.ref f) m ((f,.obj (methodObj (.ref fa) (.ref C))) :: H)):Attr c (.ref C) name m H Q:=fun s va R r=>by
 cases (r:va = _)
 refine .new R h fun P k=>cls_bind (B.kin _ R.keep) hr e (wpAny_call (cm_get (s:={ s with toks:=s.toks + 1 }) (B.kin _ R.keep) hp (handed_on rfl ?_)))
 exact k s.heap.objs.size _ (s.heap.push (methodObj (.ref fa) (.ref C))) (s.toks + 1) push_grow (get_size _) ⟨Heap.get?_push_size _ rfl,trivial⟩ rfl
theorem cal_meth {f fa C:Addr} {vs:List V} (hf:Sees c H f (.obj (methodObj (.ref fa) (.ref C)))) (h:CalC c (.ref fa) (.ref C :: vs) m H Q):CalC c (.ref f) vs m H Q:=fun s vf vvs R rf rv P k=>by
 cases (rf:vf = _)
 obtain ⟨ho,_⟩:=hf m s R
 exact method_call ho (h s _ _ R rfl (.cons rfl rv) P k)
theorem k_len_tupC {C:Addr} {xs:List At} (hT:∀ h,K.In h→TupX (model c.prog c.w) h C) (B:Base c K) (hz:xs.length≤1000) (h:Q (.int xs.length) m H):Cal c (.bi "len") [.tup (some C) xs] m H Q:=fun s vf vvs R rf rv=>by
 cases (rf:vf = _)
 obtain ⟨va,rfl,ra⟩:=rv.sole
 obtain ⟨a,items,rfl,ht,hr⟩:=ra
 have hl:items.size = xs.length:=by rw [← Array.length_toList,hr.length]
 exact .val R h fun P k=>len_tupC ht (hT _ (B.kin _ R.keep)) (by rw [hl]; exact hz) fun u t=>k _ t ⟨u,by rw [hl]⟩
end
section
variable {c:Ctx} {m:Lo} {H:Hp} {pos:Pos}
theorem tru_list {a:Addr} {xs:List V} {Q:Bool→Lo→Hp→Prop} (ha:Sees c H a (.list xs)) (hz:xs.length≤1000000) (h:Q (!xs.isEmpty) m H):Tru c (.ref a) m H Q:=fun s va R r=>by
 cases (r:va = _)
 obtain ⟨items,n,hl,hr⟩:=O.list_get (ha m s R)
 have hlen:items.size = xs.length:=by rw [← Array.length_toList,hr.length]
 have he:items.isEmpty = xs.isEmpty:=by
  unfold Array.isEmpty
  rw [hlen]
  cases xs <;> simp
 exact .val R h fun P k=>wpAny_truthy_list (IsL.isList hl) (by omega) (k _ _ (by rw [he]; rfl))
theorem k_pop {a:Addr} {xs:List V} {x:V} {H':Hp} {Q:V→Lo→Hp→Prop} (up:Upd a (.list (xs ++ [x])) (.list xs) H H') (hz:xs.length≤1000000) (h:Q x m H'):Cal c (.bi "list.pop") [.ref a] m H Q:=fun s vf vvs R rf rv=>by
 cases (rf:vf = _)
 obtain ⟨va,rfl,ra⟩:=rv.sole
 cases (ra:va = _)
 obtain ⟨items,n,hl,hr⟩:=O.list_get (R.obj _ _ up.mem)
 have hlen:items.size = xs.length + 1:=by rw [← Array.length_toList,hr.length,List.length_append]; rfl
 obtain ⟨y,hy,ry⟩:=hr.get (show (xs ++ [x])[items.size - 1]? = some x by rw [hlen]; simp)
 rw [Array.getElem?_toList] at hy
 have hsl:sizeLine = 16777216:=rfl
 refine k_list_turn R up hl (f:=fun xs=>xs.eraseIdxIfInBounds (items.size - 1)) (u:=x) (v:=y) (fun h' F=>?_) (fun h' F=>R.lift F ry) h fun P p=>call_meets PySem.F.slot_list_pop ⟨_,hl,rfl⟩ PySem.F.entry_list_pop (PySem.F.args_list_pop_1 _) (MeetsSeq.list_pop_last a items n y hy (by exact as3 3 (.l Z0 (.n 1000000)) (.e Z1 (.a Z0 N1)) (.e Z2 (.n 16777216)) (.l Z1 Z2) [_,_,_] hz hlen hsl)) ⟨hl,p⟩
 have e:(items.eraseIdxIfInBounds (items.size - 1)).toList = items.toList.take xs.length:=by
  rw [Array.toList_eraseIdxIfInBounds,hlen,Nat.add_sub_cancel]
  have hl2:items.toList.length = xs.length + 1:=by rw [Array.length_toList,hlen]
  rw [List.eraseIdx_eq_take_drop_succ,List.drop_of_length_le (by exact as1 2 (.e Z0 (.a Z1 N1)) (.l Z0 (.a Z1 N1)) [_,_] hl2),List.append_nil]
 rw [e]
 have r2:=(R.liftL F hr).take xs.length
 rw [List.take_append_of_le_length (Nat.le_refl _),List.take_length] at r2
 exact r2
theorem s1_to3 {t u v e:Expr} {Q:Fl→Lo→Hp→Prop} (h:WPe c e m H fun x m1 H1=>Asg c t x m1 H1 fun m2 H2=>Asg c u x m2 H2 fun m3 H3=>Asg c v x m3 H3 (Q .next))
  (ha:autoParam (assignEach [t,u,v] c.env = [(false,assign t c.env),(false,assign u c.env),(false,assign v c.env)]) auRfl) (hs:autoParam (swapsWithSole [t,u,v] e pos.line c.env = pure false) auRfl) (hw:autoParam (swappedStores [t,u,v] e c.env = pure .none) auRfl):WP1 c (.Assign [t,u,v] e pos) m H Q:=fun s R P k=>by
 rw [exec_Assign]
 refine wpAny_bind (wpAny_standAt ?_)
 rw [hs]
 refine wpAny_bind (wpAny_pure ?_)
 rw [if_neg (by decide)]
 refine wpAny_bind (h s R _ fun a va m1 H1 h1 tk1 R1 F1 r1 q1=>?_)
 rw [hw,ha]
 refine wpAny_bind (wpAny_pure ?_)
 show wpAny _ _ ((holding [va] (assign t c.env va) >>= fun _=>holding [va] (assign u c.env va) >>= fun _=>assign v c.env va) >>= fun _=>pure Flow.next) _ _ _
 refine wpAny_bind (wpAny_bind (wpAny_holding (q1 _ va R1 r1 _ fun _ _ m3 H3 h3 tk3 R3 F3 _ q3=>wpAny_bind (wpAny_holding (q3 _ va R3 (R1.lift F3 r1) _ fun _ _ m4 H4 h4 tk4 R4 F4 _ q4=>?_)))))
 exact q4 _ va R4 (R3.lift F4 (R1.lift F3 r1)) _ fun _ _ m5 H5 h5 tk5 R5 F5 _ q5=>wpAny_pure (k .next _ m5 H5 h5 tk5 R5 (((F1.trans R1.hasL F3).trans R3.hasL F4).trans R4.hasL F5) rfl q5)
theorem PuT.and2 {t1 t2:Expr} {b1 b2:Bool} (h1:PuT c t1 m H b1) (h2:b1 = true→PuT c t2 m H b2):PuT c (.BoolOp .And [t1,t2] pos) m H (b1 && b2):=fun Q h=>t_bool (all_and (h1 _ (by
 cases b1
 ·exact h
 refine all_and (h2 rfl _ ?_)
 cases b2
 ·exact h
 exact all_and_nil h)))
end
section
variable {c:Ctx} {m:Lo} {H:Hp} {pos:Pos}
noncomputable def PuIs (c:Ctx) (pos:Pos) (es:List Expr) (m:Lo) (H:Hp) (vs:List V):Prop:=∀ Q:List V→Lo→Hp→Prop,Q vs m H→WPitems c pos es m H Q
theorem PuIs.nil:PuIs c pos [] m H []:=fun _ h=>items_nil h
theorem PuIs.cons {e:Expr} {r:List Expr} {v:V} {vs:List V} (h1:Pu c e m H v) (h2:PuIs c pos r m H vs) (he:autoParam (starEach (e :: r) c.env = (false,eval e c.env) :: starEach r c.env) auRfl):PuIs c pos (e :: r) m H (v :: vs):=
 fun _ h=>items_cons (h1 _ (h2 _ h)) he
theorem Pu.tup {es:List Expr} {k0:Nat} {xs:List At} (h:PuIs c pos es m H (xs.map .at)) (hz:xs.length≤1000):Pu c (.Tuple es k0 pos) m H (.tup .none xs):=
 fun _ q=>e_tuple (h _ ⟨xs,rfl,by rw [List.length_map]; have:sizeLine = 16777216:=rfl; exact as2 2 (.l Z0 (.n 1000)) (.e Z1 (.n 16777216)) (.l Z0 Z1) [_,_] hz this,q⟩)
theorem s1_append {l:Expr} {e:Expr} {apos:Pos} {a:Addr} {xs:List V} {x:V} {H':Hp} {Q:Fl→Lo→Hp→Prop} (h1:Pu c l m H (.ref a)) (h2:Pu c e m H x) (ha:Sees c H a (.list xs)) (up:Upd a (.list xs) (.list (xs ++ [x])) H H') (hz:xs.length≤1000000) (h:Q .next m H')
  (hE:∀ Q,(WPe c l m H fun u m0 H0=>∃ f first,GM c u "append" f first H0∧WPitems c pos [e] m0 H0 fun vs m1 H1=>KeepOk c f H1∧Cal c f (first ++ vs) m1 H1 Q)→WPe c (.Call (.Attribute l "append" apos) [e] [] pos) m H Q) {spos:Pos}
  (he:autoParam (starEach [e] c.env = (false,eval e c.env) :: starEach [] c.env) auRfl) (hs:autoParam (swapsWith (.Call (.Attribute l "append" apos) [e] [] pos) .none spos.line c.env = pure false) auRfl):WP1 c (.Expr (.Call (.Attribute l "append" apos) [e] [] pos) spos) m H Q:=
 s1_expr (hE _ (h1 _ ⟨_,_,gm_list ha PySem.F.slot_list_append PySem.F.type_list_append,items_cons (h2 _ (items_nil ⟨keep_bi,k_append up h (by have:sizeLine = 16777216:=rfl; exact as2 2 (.l Z0 (.n 1000000)) (.e Z1 (.n 16777216)) (.l Z0 Z1) [_,_] hz this)⟩)) he⟩)) hs
end
theorem Less.set {m m':Lo} {H H':Hp} {x:Str} {u:V} (l:Less m H m' H') (hx:m'.lookup x = .none):Less ((x,u) :: m) H m' H':=by
 refine ⟨fun y v e=>?_,l.2⟩
 rw [List.lookup_cons]
 cases h:y == x with
 | true=>rw [beq_iff_eq.mp h,hx] at e; cases e
 | false=>exact l.1 y v e
theorem put_next {G:GL} {P:IS × Addr × List Int→Bool} {i:Nat} {g:IS × Addr × List Int} (nd:(G.map (·.1)).Nodup) (hg:G[i]? = some g):(if P g then setPut (((G.take i).filter P).map (·.1)) g.1 else ((G.take i).filter P).map (·.1)) = ((G.take (i + 1)).filter P).map (·.1):=by
 rw [List.take_add_one,hg,List.filter_append,List.map_append]
 cases h:P g with
 | false=>simp [h]
 | true=>
  have e:(List.filter P (some g).toList).map (·.1) = [g.1]:=by simp [h]
  rw [e,if_pos rfl]
  unfold setPut
  rw [if_neg]
  intro hm
  obtain ⟨e,he,ee⟩:=List.mem_map.mp hm
  refine take_not nd (i:=i) (k:=g.1) (by rw [List.getElem?_map,hg]; rfl) ?_
  rw [← List.map_take]
  exact ee ▸ List.mem_map.mpr ⟨e,(List.mem_filter.mp he).1,rfl⟩
section
variable {c:Ctx} {m m':Lo} {H:Hp} {p0 p1 p2 p3 p4 p5 p6 p7 p8 p9 p10 p11:Pos} {k0 k1:Nat} {Q:Fl→Lo→Hp→Prop}
noncomputable def Meth (c:Ctx) (o:Expr) (name:Str) (apos:Pos) (args:List Expr) (pos:Pos):Prop:=∀ (m:Lo) (H:Hp) (Q:V→Lo→Hp→Prop),(WPe c o m H fun u m0 H0=>∃ f first,GM c u name f first H0∧WPitems c pos args m0 H0 fun vs m1 H1=>KeepOk c f H1∧Cal c f (first ++ vs) m1 H1 Q)→WPe c (.Call (.Attribute o name apos) args [] pos) m H Q
theorem s_put {t:Expr} {s x:Str} {S:Addr} {z:Raw} {ks:List IS} {k:IS} {b:Bool} (ls:Lc c s) (lx:Lc c x) (ht:PuT c t m ((S,.set z ks) :: H) b) (hs:m.lookup s = some (.ref S)) (hx:m.lookup x = some k.v) (hz:ks.length≤1000) (hE:Meth c (.Name s p1) "add" p2 [.Name x p3] p4)
  (h:∀ z',Q .next m ((S,.set z' (if b then setPut ks k else ks)) :: H)):WPs c [.If t [.Expr (.Call (.Attribute (.Name s p1) "add" p2) [.Name x p3] [] p4) p5] [] p6] m ((S,.set z ks) :: H) Q:=by
 refine s_cons (s1_ifP ht (fun hb=>?_) (fun hb=>?_))
 ·subst hb
  exact s_cons (s1_expr (hE _ _ _ (Pu.nm ls hs _ ⟨_,_,gm_set (Sees.mem mS) PySem.F.slot_set_add PySem.F.type_set_add,items_cons (Pu.nm lx hx _ (items_nil ⟨keep_bi,k_add (.head _) hz fun z'=>s_nil (s_nil (h z'))⟩))⟩)))
 ·subst hb
  exact s_nil (s_nil (h z))
theorem s1_purge {x y d:Str} {S D:Addr} {z:Raw} {ks:List IS} {ep:Nat} {es:List (IS × V)} (lx:Lc c x) (ly:Lc c y) (ld:Lc c d) (hy:m.lookup y = some (.ref S)) (hl:Less m ((S,.set z ks) :: (D,.dict ep es) :: H) m' ((S,.set z ks) :: (D,.dict ep es) :: H)) (hx:m'.lookup x = .none) (hd:m'.lookup d = some (.ref D)) (hn:ks.Nodup) (hs:∀ k∈ks,k∈es.map (·.1)) (hz:es.length≤1000000)
  (h:∀ σ ep' m2 H2,List.Perm σ ks→Less m2 H2 m' ((S,.set z ks) :: (D,.dict ep' (es.filter fun e=>decide (e.1∉σ))) :: H)→Q .next m2 H2) :
  WP1 c (.For (.Name x p1) (.Name y p2) [.Delete [.Subscript (.Name d p3) (.Name x p4) p5] p6] [] p7) m ((S,.set z ks) :: (D,.dict ep es) :: H) Q:=by
 have hdx:(d == x) = false:=by
  cases e:d == x with
  | false=>rfl
  | true=>rw [beq_iff_eq.mp e,hx] at hd; cases hd
 refine s1_for_set (Pu.nm ly hy _ ⟨S,z,ks,rfl,.mem mS,fun σ hσ=>⟨fun i m3 H3=>∃ ep',Less m3 H3 m' ((S,.set z ks) :: (D,.dict ep' (es.filter fun e=>decide (e.1∉σ.take i))) :: H),⟨ep,?_⟩,?_,?_⟩⟩) (by intro _; rfl)
 ·have e0:(es.filter fun e=>decide (e.1∉σ.take 0)) = es:=by rw [List.filter_eq_self]; intro e _; simp
  rw [e0]
  exact hl
 ·rintro i k m3 H3 hk ⟨ep',hl⟩
  refine ⟨Sees.less hl mS,On1.less hl (asg_name (sto_local lx.1 ?_))⟩
  obtain ⟨u,hu⟩:=dictAt_mem (es:=es.filter fun e=>decide (e.1∉σ.take i)) (k:=k) (by
   obtain ⟨e,he,ek⟩:=List.mem_map.mp (hs k (hσ.mem_iff.mp (List.mem_of_getElem? hk)))
   exact List.mem_map.mpr ⟨e,List.mem_filter.mpr ⟨he,by rw [ek]; exact decide_eq_true (take_not (hσ.nodup_iff.mpr hn) hk)⟩,ek⟩)
  refine s_cons (s1_del (Pu.nm ld (u:=.ref D) (by rw [look_skip hdx]; exact hd) _ (Pu.nm lx List.lookup_cons_self _ (del_dict (.tail (.head _)) hu (fun ep2=>s_nil ⟨ep2,?_⟩) (Nat.le_trans (List.length_filter_le _ _) hz)))))
  have e0:dictDel (es.filter fun e=>decide (e.1∉σ.take i)) k = es.filter fun e=>decide (e.1∉σ.take (i + 1)):=by
   unfold dictDel
   rw [List.filter_filter,List.take_add_one,hk]
   apply List.filter_congr
   intro e _
   simp [and_comm]
  rw [e0]
  exact Less.set (Less.refl _ _) hx
 ·rintro m3 H3 ⟨ep',hl⟩
  rw [List.take_length] at hl
  exact ⟨Sees.less hl mS,h σ ep' m3 H3 hσ hl⟩
theorem ch_row (lE:Lc c "elt") (lI:Lc c "i") (lD:Lc c "b2j") (lX:Lc c "indices") {D:Addr} {P1 P2:Addr × O} {G:GL} {ep i:Nat} {bs:List IS} {k:IS}
  (hm:m.lookup ("b2j":Str) = some (.ref D)) (hG:gP G = grpTo bs i) (hk:bs[i]? = some k) (hbz:bs.length≤1000) (e1:Meth c (.Name "b2j" p2) "setdefault" p3 [.Name "elt" p4,.List [] p5] p6) (e2:Meth c (.Name "indices" p8) "append" p9 [.Name "i" p10] p11)
  (hQ:∀ G' ep' u H',gP G' = grpTo bs (i + 1)→Less m H' m ((D,.dict ep' (gD G')) :: P1 :: P2 :: (gL G' ++ H))→Q .next (("indices",u) :: ("elt",k.v) :: ("i",.int i) :: m) H') :
  WPs c [.Assign [.Name "indices" p1] (.Call (.Attribute (.Name "b2j" p2) "setdefault" p3) [.Name "elt" p4,.List [] p5] [] p6) p7,.Expr (.Call (.Attribute (.Name "indices" p8) "append" p9) [.Name "i" p10] [] p11) p0] (("elt",k.v) :: ("i",.int i) :: m) ((D,.dict ep (gD G)) :: P1 :: P2 :: (gL G ++ H)) Q:=by
 obtain ⟨hi',-⟩:=List.getElem?_eq_some_iff.mp hk
 have gi:=isGrp_to bs i (Nat.le_of_lt hi')
 have hGn:=grpTo_len bs i
 have hsucc:=grpTo_succ hk
 rw [← hG] at gi hGn hsucc
 rw [gP_len,← gD_len] at hGn
 have hz:(gD G).length≤1000000:=by exact as3 3 (.l Z0 (.n 1000)) (.t Z1 Z0) (.l Z2 Z1) (.l Z2 (.n 1000000)) [_,_,_] hbz hi' hGn
 refine s_cons (s1_assign (e1 _ _ _ (Pu.nm lD (u:=.ref D) (by rw [look_skip (by decide),look_skip (by decide)]; exact hm) _ ?_)))
 refine ⟨_,_,gm_dict (.mem mS) PySem.F.slot_dict_setdefault PySem.F.type_dict_setdefault,items_cons ((Pu.n lE) _ (items_cons (e_list (items_nil ⟨Nat.le_of_ble_eq_true rfl,fun y1=>items_nil ?_⟩))))⟩
 by_cases hm:k∈G.map (·.1)
 ·obtain ⟨G1,a,ps,G2,rfl,h1⟩:=split_key hm
  refine ⟨keep_bi,k_setdefault_old (.mem (mT mS)) (dictAt_gD_mid h1) (sto_local lX.1 ?_) hz⟩
  have nd:=gi.nd
  rw [gP_keys,List.map_append,List.map_cons] at nd
  have h2:=(List.nodup_cons.mp (List.nodup_append.mp nd).2.1).1
  have hps:ps.length≤i:=by
   have:=gi.at_ (k,ps) (List.mem_map.mpr ⟨(k,a,ps),List.mem_append_right _ mS,rfl⟩)
   dsimp only at this
   rw [this]
   exact placesTo_len bs i k
  rw [gL_mid]
  refine s_cons (s1_append (xs:=ps.map .int) (Pu.n lX) (Pu.n lI) (.mem (mT (mT (mT (mT (List.mem_append_right _ mS)))))) (.tail (.tail (.tail (.tail (Upd.mid _))))) (by rw [List.length_map]; exact as3 3 (.l Z0 (.n 1000)) (.t Z1 Z0) (.l Z2 Z1) (.l Z2 (.n 1000000)) [_,_,_] hbz hi' hps) (s_nil (hQ (G1 ++ (k,a,ps ++ [(i:Int)]) :: G2) ep _ _ ?_ ?_)) (hE:=fun _ h=>e2 _ _ _ h))
  ·rw [hsucc,addPos_mid h1 h2]
  ·have e1:gD (G1 ++ (k,a,ps ++ [(i:Int)]) :: G2) = gD (G1 ++ (k,a,ps) :: G2):=by unfold gD; simp
   rw [gL_mid,e1]
   dsimp only
   rw [List.map_append,List.map_cons,List.map_nil]
   exact Less.heap (List.Sublist.cons _ (List.Sublist.refl _))
 ·refine ⟨keep_bi,k_setdefault_new (.tail (.head _)) (dictAt_gD_none hm) (fun ep'=>sto_local lX.1 ?_) hz⟩
  refine s_cons (s1_append (xs:=[]) (Pu.n lX) (Pu.n lI) (.mem mS) (.head _) (Nat.zero_le _) (s_nil (hQ (G ++ [(k,y1,[(i:Int)])]) ep' _ _ ?_ ?_)) (hE:=fun _ h=>e2 _ _ _ h))
  ·rw [hsucc,addPos_new hm]
  ·have e1:gD (G ++ [(k,y1,[(i:Int)])]) = gD G ++ [(k,.ref y1)]:=by unfold gD; simp
   rw [gL_mid,e1]
   exact Less.perm (List.perm_middle (l₁:=(D,_) :: P1 :: P2 :: gL G))
end
end Mine
end
section
open PySem PySem.W PyProof.Rows PySem.Calls
set_option maxRecDepth 100000
set_option maxHeartbeats 8000000
namespace Mine
noncomputable abbrev AnyTy := (as : Array Nat) → (Nat → Bool) → Nat → Nat → Bool
noncomputable def newF : AnyTy → Builtin := by
  refine (?G : (F : AnyTy → Builtin) → F (@Array.any Nat) = PySem.W.Fast.tw4202317264376624991 → (AnyTy → Builtin)) ?F ?h
  case G => exact fun F _ => F
  case h =>
    delta PySem.W.Fast.tw4202317264376624991
    generalize @Array.any Nat = g
    exact Eq.refl _
theorem newF_eq : newF (@Array.any Nat) = PySem.W.Fast.tw4202317264376624991 := by kernel_rfl
noncomputable def fastAny : AnyTy := fun as p i j => match Nat.beq i 0 with
  | true => (match Nat.beq j as.size with | true => as.toList.any p | false => as.any p i j)
  | false => as.any p i j
theorem fastAny_eq : fastAny = @Array.any Nat := by
  funext as p i j
  unfold fastAny
  cases h : Nat.beq i 0 with
  | false => rfl
  | true =>
    cases h2 : Nat.beq j as.size with
    | false => rfl
    | true =>
      have e1 := Nat.eq_of_beq_eq_true h
      have e2 := Nat.eq_of_beq_eq_true h2
      subst e1 e2
      exact Array.any_toList
theorem new_eq : PySem.W.Fast.tw4202317264376624991 = newF fastAny := by
  rw [fastAny_eq, newF_eq]
end Mine
end
section
open PySem PySem.W PyProof.Rows PySem.Calls
set_option maxRecDepth 100000
set_option maxHeartbeats 8000000
namespace Mine
theorem of_list (s : String) : Str.ofString s = Str.mk (Array.mk (s.toList.map Char.toNat)) := by
  rw [Str.ofString_eq_byList]; rfl
noncomputable def cS : String := by
  refine (?G : (S : String) → (a b c d e : Stmt) → (n : Str) → (bs : List Expr) → (ks : List Keyword) → (k : Nat) → (p q : Pos) → (r t : List Stmt) → (ds : List Expr) → (tp : List TypeParam) → (sc : Scope) → (tsc : Option Scope) → (bi : Str) → (sa : List Str) → (ps : Pos) → PySem.Challenge.pw_dm0051_06.main.body = a :: b :: c :: d :: e :: .ClassDef n bs ks (.Expr (.Constant (.str (Str.ofString S)) k p) q :: r) ds tp sc tsc bi sa ps :: t → String) ?S ?a ?b ?c ?d ?e ?n ?bs ?ks ?k ?p ?q ?r ?t ?ds ?tp ?sc ?tsc ?bi ?sa ?ps ?h
  case G => exact fun S _ _ _ _ _ _ _ _ _ _ _ _ _ _ _ _ _ _ _ _ _ => S
  case h =>
    delta PySem.Challenge.pw_dm0051_06
    exact Eq.refl _
noncomputable def cL : List Char := by
  refine (?G : (L : List Char) → cS.toList = L → List Char) ?L ?h
  case G => exact fun L _ => L
  case h =>
    delta cS
    show String.toList _ = _
    simp only [String.reduceToList]
    exact Eq.refl _
noncomputable def fd (s : String) : Str := Str.ofString s
theorem of_doc (s : String) (k : Nat) (p q : Pos) : Stmt.Expr (Expr.Constant (Const.str (Str.ofString s)) k p) q = Stmt.Expr (Expr.Constant (Const.str (fd s)) k p) q := rfl
noncomputable def P2 : Str → Program := by
  refine (?G : (F : Str → Program) → (∀ x, Str.ofString cS = x → PySem.Challenge.pw_dm0051_06 = F x) → (Str → Program)) ?F ?h
  case G => exact fun F _ => F
  case h =>
    intro x hx
    delta cS at hx
    replace hx : Str.ofString _ = x := hx
    delta PySem.Challenge.pw_dm0051_06
    show _ = _
    simp only [hx]
    simp only [of_doc]
    simp only [of_list, String.reduceToList, List.map_cons, List.map_nil, Char.reduceToNat]
    exact Eq.refl _
theorem P2_of : PySem.Challenge.pw_dm0051_06 = P2 (Str.ofString cS) := by kernel_rfl
theorem cS_list : cS = String.ofList cL := by kernel_rfl
noncomputable def mapN (l : List Char) : List Nat := List.rec (motive := fun _ => List Nat) [] (fun c _ ih => c.toNat :: ih) l
theorem mapN_eq : ∀ l : List Char, mapN l = l.map Char.toNat
  | [] => rfl
  | c :: l => by
    show c.toNat :: mapN l = c.toNat :: l.map Char.toNat
    rw [mapN_eq l]
noncomputable def fz (l : List Char) : Str := Str.mk (Array.mk (mapN l))
theorem of_cS : Str.ofString cS = fz cL := by
  unfold fz
  rw [of_list, cS_list, String.toList_ofList, mapN_eq]
noncomputable def cD : Str := fz cL
noncomputable def P1 : Program := by
  refine (?G : (F : Program) → F = P2 cD → Program) ?F ?h
  case G => exact fun F _ => F
  case h =>
    delta P2
    show _ = _
    exact Eq.refl _
theorem P1_two : P2 cD = P1 := by kernel_rfl
theorem P1_eq : PySem.Challenge.pw_dm0051_06 = P1 := by
  rw [P2_of, of_cS]; exact P1_two
end Mine
end
section
open PySem PySem.W PyProof.Rows PySem.Calls
set_option maxRecDepth 100000
set_option maxHeartbeats 8000000
namespace Mine
noncomputable def oA1 : Params → Obj := fun _ => { cls := Value.type "tuple", data := Data.seq #[] }
noncomputable def oA2 : Params → Obj := fun _ => { cls := Value.none, data := Data.fields #[] }
noncomputable def oA3 : Params → Obj := fun _ => { cls := Value.type "code", data := Data.fields #[Value.str (Str.ofString "<module>") 182, Value.str (Str.ofString "<module>") 183, Value.str (Str.ofString "/claim/cut.py") 184, Value.int 1 0, Value.int 0 0, Value.int 0 0, Value.int 0 0, Value.int 0 0, Value.ref 11, Value.bool false, Value.int 181 0, Value.ref 12, Value.none, Value.none, Value.none, Value.none, Value.int 185 0, Value.int 1 0, Value.str (Str.ofString "/claim/cut.py") 186] }
noncomputable def oA4 : Params → Obj := fun _ => { cls := Value.type "frame", slots := #[some (Value.ref 13), some (Value.ref 3), some (Value.ref 3), none, some (Value.str (Str.ofString "__main__") 164), none, some (Value.ref 0)] }
noncomputable def treeA : Params → BT := fun P =>
  BT.node (boot_o_0 P) (BT.node (boot_o_1 P) (BT.node (boot_o_3 P) (BT.node (boot_o_7 P) BT.nil BT.nil) (BT.node (oA1 P) BT.nil BT.nil)) (BT.node (boot_o_5 P) (BT.node (boot_o_9 P) BT.nil BT.nil) (BT.node (oA3 P) BT.nil BT.nil)))
    (BT.node (boot_o_2 P) (BT.node (boot_o_4 P) (BT.node (boot_o_8 P) BT.nil BT.nil) (BT.node (oA2 P) BT.nil BT.nil)) (BT.node (boot_o_6 P) (BT.node (boot_o_10 P) BT.nil BT.nil) (BT.node (oA4 P) BT.nil BT.nil)))
theorem treeA_self : treeA = treeA := rfl
end Mine
name_quick twTreeA for Mine.treeA by Mine.treeA_self
namespace Mine
noncomputable def envA : Env := { scope := PySem.Challenge.pw_dm0051_06.main.scope, locals := mainNs, globals := mainNs, cells := [], code := .ref 13, frame := some 14 }
noncomputable def envQ : Env := { scope := P1.main.scope, locals := mainNs, globals := mainNs, cells := [], code := .ref 13, frame := some 14 }
theorem envA_eq : envA = envQ := congrArg (fun p : Program => ({ scope := p.main.scope, locals := mainNs, globals := mainNs, cells := [], code := .ref 13, frame := some 14 } : Env)) P1_eq
noncomputable def annA : Option Value := some (.ref 6)
noncomputable def B0 : List Frame := [topFrame ⟨0, 0, 0, 0⟩]
noncomputable abbrev P0q : Program := P1
theorem P0q_eq : PySem.Challenge.pw_dm0051_06 = P0q := P1_eq
noncomputable def bQ : List Stmt := behindTheImports P0q
noncomputable def S1 (w : World) (os : OsState) : SharedT := ⟨PySem.W.Fast.twTreeA w.params, 15, {}, ⟨[]⟩, {}, 187, os⟩
noncomputable def T0 (b : List Stmt) : Thread := piecesOf bQ envQ (Code.body b envQ) ⟨0, 0, 0, 0⟩ B0
noncomputable def r2 (p : Program) (b : List Stmt) (w : World) (os : OsState) : Option (SharedT × Thread) :=
  PySem.W.Fast.tw10295753902157049106 PySem.W.Fast.tw14364793385576792824 p w 11 annA 1 1976 (S1 w os) (T0 b)
noncomputable def sh2 (p : Program) (b : List Stmt) (w : World) (os : OsState) : SharedT := match r2 p b w os with
  | some (s, _) => s
  | none => S1 w os
noncomputable def th2 (p : Program) (b : List Stmt) (w : World) (os : OsState) : Thread := match r2 p b w os with
  | some (_, t) => t
  | none => T0 b
theorem r2_some (p : Program) (b : List Stmt) (w : World) (os : OsState) : r2 p b w os = some (sh2 p b w os, th2 p b w os) := by kernel_rfl
noncomputable def argsOf : Code → Args
  | .builtin _ a => a
  | _ => {}
theorem th2_eq (p : Program) (b : List Stmt) (w : World) (os : OsState) : th2 p b w os =
    ⟨PySem.W.Fast.tw4202317264376624991 (argsOf (th2 p b w os).code), (th2 p b w os).code, (th2 p b w os).pos, (th2 p b w os).stack⟩ := by kernel_rfl
noncomputable def th2' (p : Program) (b : List Stmt) (w : World) (os : OsState) : Thread :=
  ⟨newF fastAny (argsOf (th2 p b w os).code), (th2 p b w os).code, (th2 p b w os).pos, (th2 p b w os).stack⟩
theorem th2_eq' (p : Program) (b : List Stmt) (w : World) (os : OsState) : th2 p b w os = th2' p b w os := by
  unfold th2'
  rw [← new_eq]
  exact th2_eq p b w os
noncomputable def r4v (p : Program) (b : List Stmt) (w : World) (os : OsState) : Option (Flow × SharedT × Code × Pos) :=
  PySem.W.Fast.tw10110043849684766642 PySem.W.Fast.tw14364793385576792824 p w 11 annA 1 163 (sh2 p b w os) (th2' p b w os)
noncomputable def worldOf (P : Params) : World := ⟨fun _ _ => 0, P⟩
noncomputable def osZ : OsState := {}
noncomputable def tree4 (P : Params) : BT := match r4v P0q bQ (worldOf P) osZ with
  | some (_, s, _, _) => s.1
  | none => PySem.W.Fast.twTreeA P
noncomputable def S4 (w : World) (os : OsState) : SharedT := ⟨tree4 w.params, 252, {}, ⟨[]⟩, {}, 601, os⟩
theorem r4 (w : World) (os : OsState) : r4v P0q bQ w os = some (.next, S4 w os, Code.body bQ envQ, ⟨489, 0, 549, 15⟩) := by kernel_rfl
theorem r5 (p : Program) (b : List Stmt) (w : World) (os : OsState) :
    PySem.W.Fast.tw14082659384304107361 PySem.W.Fast.tw14364793385576792824 p w 11 annA 2 (S4 w os).abs ⟨doneF .next, Code.body b envQ, ⟨489, 0, 549, 15⟩, B0⟩ = some (S4 w os).abs := by kernel_rfl
noncomputable def Sb (w : World) (os : OsState) : SharedT := ⟨PySem.W.Fast.twTreeA w.params, 15, {}, ⟨[]⟩, {}, 187, os⟩
theorem r0 (w : World) (os : OsState) :
    PySem.W.Fast.tw15667345088766844465 PySem.W.Fast.tw14364793385576792824 P0q w 11 annA 12 ⟨boot_heap w.params, ⟨[]⟩, boot_drawn, boot_toks, os⟩ (topStub P0q) =
      some ((Sb w os).abs, ⟨PySem.W.Fast.tw11892475500146522536 PySem.W.Fast.tw14364793385576792824 (Code.body bQ envQ), Code.body bQ envQ, ⟨0, 0, 0, 0⟩, B0⟩) := by kernel_rfl
theorem rB (p : Program) (w : World) (os : OsState) :
    PySem.W.Fast.tw14374325043358763698 PySem.W.Fast.tw14364793385576792824 p w 11 annA 1 1 (Sb w os).abs (blockOf bQ envQ (Code.body bQ envQ) ⟨0, 0, 0, 0⟩ B0) =
      some (.next, (Sb w os).abs, Code.body bQ envQ, ⟨0, 0, 0, 0⟩) := by kernel_rfl
theorem hsize (w : World) : ((boot_heap w.params).isNs mainGlobals && (⟨[]⟩ : Array GenState).size == 0, (boot_heap w.params).objs.size, (boot_heap w.params).nsMap mainGlobals "__annotations__") = (true, 11, annA) := by kernel_rfl
theorem hopen (N : Nat) (le : Nat.ble 600 N = true) : ∀ w : World, Option.map (fun s => (s.heap, s.gens, s.drawn, s.toks)) (fencedOpening treeTable PySem.Challenge.pw_dm0051_06 w N) = some (boot_heap w.params, ⟨[]⟩, boot_drawn, boot_toks) :=
  boot_open (by kernel_rfl) le (fun _ => by kernel_rfl)
open PySem.W.Fast in
theorem r0' (w : World) (os : OsState) : topGo treeTable PySem.Challenge.pw_dm0051_06 w 11 annA 12 ⟨boot_heap w.params, ⟨[]⟩, boot_drawn, boot_toks, os⟩ (topStub PySem.Challenge.pw_dm0051_06) =
      some ((⟨treeA w.params, 15, {}, ⟨[]⟩, {}, 187, os⟩ : SharedT).abs, ⟨denote treeTable (Code.body (behindTheImports PySem.Challenge.pw_dm0051_06) envA), Code.body (behindTheImports PySem.Challenge.pw_dm0051_06) envA, ⟨0, 0, 0, 0⟩, B0⟩) := by
  rw [te15667345088766844465, te14364793385576792824, P0q_eq, envA_eq, twTreeA_eq, te11892475500146522536]
  exact r0 w os
open PySem.W.Fast in
theorem rB' (p : Program) (w : World) (os : OsState) :
    segRun treeTable p w 11 annA 1 1 (⟨treeA w.params, 15, {}, ⟨[]⟩, {}, 187, os⟩ : SharedT).abs (blockOf (behindTheImports PySem.Challenge.pw_dm0051_06) envA (Code.body (behindTheImports PySem.Challenge.pw_dm0051_06) envA) ⟨0, 0, 0, 0⟩ B0) =
      some (.next, (⟨treeA w.params, 15, {}, ⟨[]⟩, {}, 187, os⟩ : SharedT).abs, Code.body (behindTheImports PySem.Challenge.pw_dm0051_06) envA, ⟨0, 0, 0, 0⟩) := by
  rw [te14374325043358763698, te14364793385576792824, P0q_eq, envA_eq, twTreeA_eq]
  exact rB p w os
open PySem.W.Fast in
theorem rAll (w : World) (os : OsState) :
    segRun treeTable PySem.Challenge.pw_dm0051_06 w 11 annA 1 (1976 + 163) (⟨treeA w.params, 15, {}, ⟨[]⟩, {}, 187, os⟩ : SharedT).abs (piecesOf (behindTheImports PySem.Challenge.pw_dm0051_06) envA (Code.body (behindTheImports PySem.Challenge.pw_dm0051_06) envA) ⟨0, 0, 0, 0⟩ B0) =
      some (.next, (S4 w os).abs, Code.body (behindTheImports PySem.Challenge.pw_dm0051_06) envA, ⟨489, 0, 549, 15⟩) := by
  have h2 := r2_some P0q bQ w os
  have h3 := r4 w os
  rw [th2_eq'] at h2
  unfold r2 at h2
  unfold r4v at h3
  rw [← te10295753902157049106, ← te14364793385576792824] at h2
  rw [← te10110043849684766642, ← te14364793385576792824] at h3
  have k := seg_go (segGo_of h2) (segRun_of h3)
  rw [P0q_eq, envA_eq, twTreeA_eq]
  exact k
open PySem.W.Fast in
theorem rF (p : Program) (b : List Stmt) (w : World) (os : OsState) :
    topRun treeTable p w 11 annA 2 (S4 w os).abs (restOf [] envA (Code.body b envA) ⟨489, 0, 549, 15⟩ B0) = some (S4 w os).abs := by
  refine piece_nil ?_
  rw [te14082659384304107361, te14364793385576792824, envA_eq]
  exact r5 p b w os
theorem runTop (w : World) (os : OsState) : topRun treeTable PySem.Challenge.pw_dm0051_06 w 11 annA (12 + (1 + ((1976 + 163) + 2))) ⟨boot_heap w.params, ⟨[]⟩, boot_drawn, boot_toks, os⟩ (topStub PySem.Challenge.pw_dm0051_06) =
    some (S4 w os).abs := by
  refine go_top (r0' w os) ?_
  refine piece_block (rB' _ w os) ?_
  have k := piece_app (rest := []) (rAll w os) (rF PySem.Challenge.pw_dm0051_06 (behindTheImports PySem.Challenge.pw_dm0051_06) w os)
  rw [List.append_nil] at k
  exact k
noncomputable def atB (p : Program) (i : Nat) : Stmt := p.main.body.getD i (.Pass ⟨0,0,0,0⟩)
noncomputable def qOf (p : Program) : Program := { p with main := { p.main with body := [atB p 0, atB p 2, atB p 3, atB p 4, atB p 5, atB p 7] } }
noncomputable def atV (i : Nat) : Stmt := PySem.Challenge.pw_dm0051_06.main.body.getD i (.Pass ⟨0,0,0,0⟩)
noncomputable def qV : Program := { PySem.Challenge.pw_dm0051_06 with main := { PySem.Challenge.pw_dm0051_06.main with body := [atV 0, atV 2, atV 3, atV 4, atV 5, atV 7] } }
noncomputable def qQ : Program := qOf P1
theorem qV_eq : qV = qQ := (show qV = qOf PySem.Challenge.pw_dm0051_06 by kernel_rfl).trans (congrArg qOf P1_eq)
noncomputable def looseN : List Str := [Str.ofString "_tuplegetter", Str.ofString "Match", Str.ofString "SequenceMatcher"]
noncomputable def XtOf (q : Program) : Shared → Bool := fun s => xlAt q [] s && recOk [] s
noncomputable def XtV : Shared → Bool := fun s => xlAt qV [] s && recOk (RowW.records PySem.Challenge.rw_dm0051_06.row.toRowW) s
theorem XtV_eq : XtV = XtOf qV := by kernel_rfl
theorem looseN_self : looseN = looseN := rfl
theorem XtOf_self : XtOf = XtOf := rfl
end Mine
lay_quick Mine.looseN Mine.XtOf
name_quick twLoose for Mine.looseN by Mine.looseN_self
name_quick twXt for Mine.XtOf by Mine.XtOf_self
namespace Mine
theorem look1 (w : World) (os : OsState) : (staticsOk (importedModules P0q.main.body) (boot_heap w.params) (S4 w os).abs.heap && namesBound P0q (S4 w os).abs.heap && gensDone (S4 w os).abs && laidKept (boot_heap w.params) (S4 w os).abs.heap) = true := by kernel_rfl
theorem look2 (w : World) (os : OsState) : PySem.W.Fast.tw4187177175401517315 qQ PySem.W.Fast.twLoose (PySem.W.Fast.tw5923862056798008813 P0q.main.body) (PySem.W.Fast.twXt qQ) true (S4 w os).abs = openGood qQ PySem.W.Fast.twLoose := by kernel_rfl
noncomputable def topHeap (P : Params) : Heap := absHeap (tree4 P) 252 {}
noncomputable def TopIn (w : World) (h : Heap) : Prop := ∀ b o, (topHeap w.params).get? b = some o → h.get? b = some o
open PySem.W.Fast in
theorem looks (w : World) : (fun os => ((staticsOk (importedModules PySem.Challenge.pw_dm0051_06.main.body) (boot_heap w.params) (topHeap w.params) && namesBound PySem.Challenge.pw_dm0051_06 (topHeap w.params) && gensDone ⟨topHeap w.params, ⟨[]⟩, {}, 601, os⟩ && laidKept (boot_heap w.params) (topHeap w.params)),
        openSeen qV looseN (importedModules PySem.Challenge.pw_dm0051_06.main.body) XtV true ⟨topHeap w.params, ⟨[]⟩, {}, 601, os⟩, (fun s : Shared => s.heap) ⟨topHeap w.params, ⟨[]⟩, {}, 601, os⟩)) = fun _ : OsState => (true, openGood qV looseN, topHeap w.params) := by
  funext os
  have a := look1 w os
  have b := look2 w os
  rw [← P0q_eq] at a b
  rw [← te4187177175401517315, ← qV_eq, ← twLoose_eq, ← te5923862056798008813, ← twXt_eq, ← XtV_eq] at b
  exact Prod.ext a (Prod.ext b rfl)
theorem left : LeftO PySem.Challenge.pw_dm0051_06 qV looseN XtV (fun s => s.heap) (fun w => topHeap w.params) 5000 :=
  LeftO.of_pieces (H₀ := boot_heap) (H₁ := topHeap) (gs₀ := ⟨[]⟩) (gs₁ := ⟨[]⟩) (d₀ := boot_drawn) (d₁ := {}) (k₀ := boot_toks) (k₁ := 601) (m₀ := 11) (ann := annA)
    (M := 12 + (1 + ((1976 + 163) + 2)))
    (hopen 5000 (by decide)) hsize (fun w os => runTop w os) (by decide) looks
open PySem.W.Fast in
theorem leftH (H : Hook) (e : ∀ (w : World) (os : OsState), H.obs ⟨topHeap w.params, ⟨[]⟩, {}, 601, os⟩ = H.val w) : LeftO PySem.Challenge.pw_dm0051_06 qV looseN XtV H.obs H.val 5000 :=
  LeftO.of_pieces (H₀ := boot_heap) (H₁ := topHeap) (gs₀ := ⟨[]⟩) (gs₁ := ⟨[]⟩) (d₀ := boot_drawn) (d₁ := {}) (k₀ := boot_toks) (k₁ := 601) (m₀ := 11) (ann := annA)
    (M := 12 + (1 + ((1976 + 163) + 2)))
    (hopen 5000 (by decide)) hsize (fun w os => runTop w os) (by decide) (fun w => by
      have q := looks w
      funext os
      have q' := congrFun q os
      rw [Prod.mk.injEq, Prod.mk.injEq] at q'
      have e' := e w os
      exact Prod.ext q'.1 (Prod.ext q'.2.1 e'))
end Mine
end
section
open PySem PySem.W PyProof.Rows PySem.Calls
set_option maxRecDepth 100000
set_option maxHeartbeats 8000000

namespace Mine
noncomputable def nL : Str := Str.mk (Array.mk [108, 97, 119])
theorem nL_eq : Str.ofString "law" = nL := by kernel_rfl
noncomputable def rwQ : OpenLaw := { PySem.Challenge.rw_dm0051_06 with prog := P1, name := nL, about := [Str.mk (Array.mk [83, 101, 113, 117, 101, 110, 99, 101, 77, 97, 116, 99, 104, 101, 114]), Str.mk (Array.mk [115, 101, 116, 95, 115, 101, 113, 115])] }
theorem rwQ_eq : PySem.Challenge.rw_dm0051_06 = rwQ := (show PySem.Challenge.rw_dm0051_06 = { PySem.Challenge.rw_dm0051_06 with prog := PySem.Challenge.pw_dm0051_06, name := nL, about := [Str.mk (Array.mk [83, 101, 113, 117, 101, 110, 99, 101, 77, 97, 116, 99, 104, 101, 114]), Str.mk (Array.mk [115, 101, 116, 95, 115, 101, 113, 115])] } by kernel_rfl).trans (congrArg (fun p => ({ PySem.Challenge.rw_dm0051_06 with prog := p, name := nL, about := [Str.mk (Array.mk [83, 101, 113, 117, 101, 110, 99, 101, 77, 97, 116, 99, 104, 101, 114]), Str.mk (Array.mk [115, 101, 116, 95, 115, 101, 113, 115])] } : OpenLaw)) P1_eq)
theorem said_self : OpenLaw.wellSaid = OpenLaw.wellSaid := rfl
end Mine
name_quick twSaid for PySem.W.OpenLaw.wellSaid by Mine.said_self
namespace Mine
theorem said1 : PySem.W.Fast.twSaid rwQ = true := by kernel_rfl
theorem saidK : OpenLaw.wellSaid PySem.Challenge.rw_dm0051_06 = true := (congrFun PySem.W.Fast.twSaid_eq _).trans ((congrArg PySem.W.Fast.twSaid rwQ_eq).trans said1)
end Mine
section
local macro_rules | `(tactic| o_law) => `(tactic| refine holds_law Mine.saidK fun said => ?_)
local macro_rules | `(tactic| o_head $H) => `(tactic| assumption)
theorem Mine.dumK (h : PySem.Challenge.rw_dm0051_06.row.Holds) : PySem.Challenge.rw_dm0051_06.Holds := by
  w_on
  o_law
  k_head
theorem Mine.dumK_self : Mine.dumK.heap_1 = Mine.dumK.heap_1 := rfl
namespace Mine
noncomputable def K2 : Str → Params → Frag := by
  refine (?G : (F : Str → Params → Frag) → (∀ x, Str.ofString cS = x → Mine.dumK.heap_1 = F x) → (Str → Params → Frag)) ?F ?h
  case G => exact fun F _ => F
  case h =>
    intro x hx
    delta cS at hx
    replace hx : Str.ofString _ = x := hx
    delta Mine.dumK.heap_1
    show _ = _
    simp only [hx]
    exact Eq.refl _
theorem K2_of : Mine.dumK.heap_1 = K2 (Str.ofString cS) := by kernel_rfl
theorem K2_eq : Mine.dumK.heap_1 = K2 cD := by
  rw [K2_of, of_cS]; rfl
end Mine
namespace Mine
theorem eH_turn {K K' : Params → Frag} (hK : K = K') {as ts : List Addr} {h0 : Heap} {P : Params} (e : (as.map h0.get?, ts.map h0.get?) = ((K' P).map fun p => some p.2, ts.map fun _ => some (tabObj #[]))) :
    (as.map h0.get?, ts.map h0.get?) = ((K P).map fun p => some p.2, ts.map fun _ => some (tabObj #[])) := by rw [hK]; exact e
end Mine
namespace Mine
noncomputable def headT (said : PySem.Challenge.rw_dm0051_06.row.wellSaid = true) (H : Hook) (eH : ∀ (w : World) (os : OsState), H.obs ⟨topHeap w.params, ⟨[]⟩, {}, 601, os⟩ = H.val w) (hw) (hc) :=
  holds_open (r := PySem.Challenge.rw_dm0051_06.row) (q := qV) (loose := looseN) (Xt := XtV) (XP := XL qV []) (Yf := H.obs) (Ya := H.val) (YP := H.says) (N := 5000) (leftH H eH) H.of H.keeps
    (fun s e => xl_of s (Bool.and_eq_true_iff.mp e).1) XL.keeps (by rfl) (by rfl) (by rfl) (fun s e => recFacts_of (Bool.and_eq_true_iff.mp e).2) (by rfl) said (by decide +kernel) ⟨rfl, rfl, rfl, rfl, rfl, by decide +kernel⟩ hw hc
end Mine
local macro_rules | `(tactic| o_head (kmHook $k $a $e $ts)) => `(tactic| (refine Mine.headT (by assumption) (kmHook $k $a $e (220 :: $ts)) ?eH ?hw ?hc; case eH => (intro w os; exact Mine.eH_turn Mine.K2_eq (by kernel_rfl))))
open_top hdL for PySem.Challenge.rw_dm0051_06
end
end
section
open PySem PySem.W PyProof.Rows PySem.Calls
set_option maxRecDepth 100000
namespace Mine
section
set_option maxHeartbeats 8000000
noncomputable abbrev K06 (p:Params):Frag:=hdL.heap_1 p
theorem match_new (p:Params):newIn (K06 p) 135 = true:=by kernel_rfl
theorem match_tup (p:Params):tupIn (K06 p) 135 = true:=by kernel_rfl
theorem match_reads (p:Params):readsIn (K06 p) 135 (.type "type") = true:=by kernel_rfl
theorem match_find (p:Params):findCls (K06 p) (.ref 135) (.type "type") "__new__" = some (.get (.builtin "staticmethod.__get__") (.ref 136) .none (.ref 135)):=by kernel_rfl
theorem match_sm (p:Params):recIn (K06 p) 136 "staticmethod" = some [.ref 82]:=by kernel_rfl
theorem match_cm (p:Params):findCls (K06 p) (.ref 135) (.type "type") "_make" = some (.get (.builtin "classmethod.__get__") (.ref 91) .none (.ref 135)):=by kernel_rfl
theorem len_cons {α:Type}:∀ {l:List α} {n:Nat},l.length = n + 1→∃ a r,l = a :: r∧r.length = n:=fun {l n} e=>by
 induction l with
 | nil=>cases e
 | cons a r _=>exact ⟨a,r,rfl,Nat.succ.inj e⟩
theorem match_args (self:Value) (rest:List Value) (e:rest.length = 3):argsOk "object.__init__" ⟨self :: rest,[]⟩:=by
 obtain ⟨a,l,rfl,e0⟩:=len_cons e
 obtain ⟨b,l2,rfl,e1⟩:=len_cons e0
 obtain ⟨d,l3,rfl,e2⟩:=len_cons e1
 cases List.length_eq_zero_iff.mp e2
 unfold argsOk
 kernel_rfl
theorem k_ga (p:Params):findIn (K06 p) (.type "type") "__getattribute__" = some (some (.builtin "type.__getattribute__")):=by kernel_rfl
theorem k_ty (p:Params):subIn (K06 p) (.type "type") (.type "type") = some true:=by kernel_rfl
theorem k_tn (p:Params):findCls (K06 p) (.type "tuple") (.type "type") "__new__" = some (.val (.builtin "tuple.__new__")):=by kernel_rfl
theorem h_tn:handedIn (.builtin "tuple.__new__") = true:=by kernel_rfl
theorem match_new_ok (p:Params) (c:Ctx) (B:Base c (K06 p)) (hs:c.env.scope = (fdIn (K06 p) 82).scope) {H:Hp} {x y z:At}
  :WPs c (bodyIn (fdIn (K06 p) 82)) [("size",.at z),("b",.at y),("a",.at x),("_cls",.ref 135)] H fun f m' H'=>f = .ret (.tup (some 135) [x,y,z])∧H' = H:=by
 have hn:=congrArg Scope.names hs
 conv at hn=>rhs; whnf
 have gt:Glob c "tuple" (.ty "tuple"):=B.tuple hn (by kernel_rfl)
 refine s_cons (s1_expr ?_)
 refine e_str ?_
 refine s_cons (s1_return ?_)
 refine e_method ?_
 refine e_glob gt ?_
 refine ⟨_,_,gm_type B ty_tuple opq_tuple (k_ga p) (k_ty p) (k_tn p) h_tn,?_⟩
 refine items_cons ?_
 refine e_loc hn (by decide +kernel) (Loc.tail (by decide) (Loc.tail (by decide) (Loc.tail (by decide) (Loc.head _)))) ?_
 refine items_cons ?_
 refine e_tuple ?_
 refine items_cons ?_
 refine e_loc hn (by decide +kernel) (Loc.tail (by decide) (Loc.tail (by decide) (Loc.head _))) ?_
 refine items_cons ?_
 refine e_loc hn (by decide +kernel) (Loc.tail (by decide) (Loc.head _)) ?_
 refine items_cons ?_
 refine e_loc hn (by decide +kernel) (Loc.head _) ?_
 refine items_nil ?_
 refine ⟨[x,y,z],rfl,Nat.le_of_ble_eq_true rfl,?_⟩
 refine items_nil ?_
 refine ⟨keep_bi,k_tuple_new (fun h X=>tupC_of X (match_new p) (match_tup p)) B (Nat.le_of_ble_eq_true rfl) ?_⟩
 exact ⟨rfl,rfl⟩
end
section
set_option maxHeartbeats 8000000
theorem bind4 {fd:FuncData} {ns:List Str} (h:∀ a0 a1 a2 a3,bindArgs fd { pos:=[a0,a1,a2,a3] } = pure (ns.zip [a0,a1,a2,a3])) (l:List Value) (e:l.length = 4):bindArgs fd { pos:=l } = pure (ns.zip l):=by
 obtain ⟨a0,l0,rfl,e0⟩:=len_cons e
 obtain ⟨a1,l1,rfl,e1⟩:=len_cons e0
 obtain ⟨a2,l2,rfl,e2⟩:=len_cons e1
 obtain ⟨a3,l3,rfl,e3⟩:=len_cons e2
 cases List.length_eq_zero_iff.mp e3
 exact h a0 a1 a2 a3
theorem match_cal (p:Params) {c:Ctx} {k:Nat} (hf:c.fuel = k + 1 + 1) (B:Base c (K06 p)) {m:Lo} {Q:V→Lo→Hp→Prop} {H:Hp} {x y z:At} (h:Q (.tup (some 135) [x,y,z]) m H):CalC c (.ref 135) [.at x,.at y,.at z] m H Q:=by
 refine cal_new B hf (match_new p) (match_reads p) (match_find p) (match_sm p) (fun e=>nomatch e) match_args fun c2 M hk B2=>?_
 refine cal_K (fd:=fdIn (K06 p) 82) (bs:=List.zip [("_cls":Str),"a","b","size"] [V.ref 135,.at x,.at y,.at z]) B2 hk (fnOk_of (by kernel_rfl)) (by kernel_rfl) (by kernel_rfl) (fun s vvs X r=>binds_plain rfl (fun vvs hl=>?_) s vvs X r) fun L c3 hc hk B3=>?_
 ·exact bind4 (fun v0 v1 v2 v3=>by kernel_rfl) vvs hl
 ·have e1:locOf (fdIn (K06 p) 82).scope.names (List.zip [("_cls":Str),"a","b","size"] [V.ref 135,.at x,.at y,.at z]) = [(("size":Str),.at z),("b",.at y),("a",.at x),("_cls",.ref 135)]:=by kernel_rfl
  have e2:cellsAt L (fdIn (K06 p) 82) (List.zip [("_cls":Str),"a","b","size"] [V.ref 135,.at x,.at y,.at z]) = []:=by kernel_rfl
  rw [e1,e2]
  refine WPs.post (WPs.mono (match_new_ok p c3 B3 hc.scope) ?_)
  rintro f m' H' ⟨rfl,rfl⟩
  exact ⟨[],_,⟨(fun _ _ e=>nomatch e),fun _ h=>h,id⟩,[x,y,z],rfl,h⟩
end
theorem WPs.cutk {c:Ctx} {b:List Stmt} {m:Lo} {H:Hp} {Q:Fl→Lo→Hp→Prop} (h:∀ Q':Fl→Lo→Hp→Prop,(∀ f m H,Q f m H→Q' f m H)→WPs c b m H Q'):WPs c b m H Q:=h Q fun _ _ _ q=>q
theorem cls02 (p:Params):Cls (K06 p) 242:=⟨by kernel_rfl,by kernel_rfl,by kernel_rfl,by kernel_rfl,by kernel_rfl⟩
structure JunkFn (c:Ctx) (J:V) (jk:IS→Bool) (W:Hp):Prop where
 tru:∀ m H' (Q:Bool→Lo→Hp→Prop),(∀ p∈W,p∈H')→Q true m H'→Tru c J m H' Q
 keep:∀ H',(∀ p∈W,p∈H')→KeepOk c J H'
 call:∀ k m H' (Q:V→Lo→Hp→Prop),(∀ p∈W,p∈H')→Q (.bool (jk k)) m H'→Cal c J [k.v] m H' Q
noncomputable def JunkOk (c:Ctx) (J:V) (jk:IS→Bool) (W:Hp):Prop:=(J = .none∧∀ k,jk k = false) ∨ JunkFn c J jk W
noncomputable def chPop (n:Nat) (on:Bool) (e:IS × Addr × List Int):Bool:=on && decide (200≤n) && decide (n / 100 + 1 < e.2.2.length)
theorem inj_nodup:∀ {G:GL} (nd:(G.map (·.1)).Nodup) {e e':IS × Addr × List Int} (h:e∈G) (h':e'∈G) (q:e.1 = e'.1),e = e'
 | [],_,_,_,h,_,_=>by cases h
 | g :: G,nd,e,e',h,h',q=>by
  rw [List.map_cons,List.nodup_cons] at nd
  rcases List.mem_cons.mp h with rfl | h1 <;> rcases List.mem_cons.mp h' with rfl | h2
  ·rfl
  ·exact absurd (List.mem_map.mpr ⟨e',h2,q.symm⟩) nd.1
  ·exact absurd (List.mem_map.mpr ⟨e,h1,q⟩) nd.1
  ·exact inj_nodup nd.2 h1 h2 q
theorem filter_keys {G:GL} (nd:(G.map (·.1)).Nodup) (P:IS × Addr × List Int→Bool) (σ:List IS) (h:∀ k,k∈σ ↔ k∈(G.filter P).map (·.1)):((gD G).filter fun e=>decide (e.1∉σ)) = gD (G.filter fun e=>!P e):=by
 unfold gD
 rw [List.filter_map]
 congr 1
 apply List.filter_congr
 intro e he
 have:e.1∈σ ↔ P e = true:=by
  rw [h]
  constructor
  ·intro q
   obtain ⟨e',he',ee⟩:=List.mem_map.mp q
   obtain ⟨h1,h2⟩:=List.mem_filter.mp he'
   obtain rfl:e' = e:=inj_nodup nd h1 he ee
   exact h2
  ·intro q
   exact List.mem_map.mpr ⟨e,List.mem_filter.mpr ⟨he,q⟩,rfl⟩
 by_cases q:P e = true
 ·simp [this,q]
 ·simp [this,q]
theorem mT' {α:Type} {a b:α} {l:List α} (h:a∈l):a∈b :: l:=List.mem_cons_of_mem b h
theorem mS' {α:Type} {a:α} {l:List α}:a∈a :: l:=mS
section
variable {c:Ctx} {x d rb:Addr} {bs:List IS}
noncomputable abbrev chM (D rb x:Addr):Lo:=[("b2j",.ref D),("b",.ref rb),("self",.ref x)]
theorem ch_groups (p:Params) (B:Base c (K06 p)) (hs:c.env.scope = (fdIn (K06 p) 188).scope) {H:Hp} {fs:List (Str × V)} {Q:Fl→Lo→Hp→Prop} (hfb:fs.lookup ("b":Str) = some (.ref rb)) (hrb:(rb,O.list (bs.map IS.v))∈H) (hfz:fs.length≤100) (hbz:bs.length≤1000)
  (hQ:∀ D G ep m H',gP G = grp bs→Less m H' (chM D rb x) ((D,.dict ep (gD G)) :: (x,.inst 242 d) :: (d,.ns (("b2j",.ref D) :: fs)) :: (gL G ++ H))→WPs c ((bodyIn (fdIn (K06 p) 188)).drop 3) m H' Q) :
  WPs c (bodyIn (fdIn (K06 p) 188)) [("self",.ref x)] ((x,.inst 242 d) :: (d,.ns fs) :: H) Q:=by
 have hn:=congrArg Scope.names hs
 conv at hn=>rhs; whnf
 have hC:=cls02 p
 have ge:Glob c "enumerate" (.ty "enumerate"):=B.enumerate hn (by kernel_rfl)
 have lSe:Lc c "self":=lc_of hn (by kernel_rfl)
 have lB:Lc c "b":=lc_of hn (by kernel_rfl)
 have lD:Lc c "b2j":=lc_of hn (by kernel_rfl)
 have lI:Lc c "i":=lc_of hn (by kernel_rfl)
 have lE:Lc c "elt":=lc_of hn (by kernel_rfl)
 have lX:Lc c "indices":=lc_of hn (by kernel_rfl)
 have eL:(bs.map IS.a).map V.at = bs.map IS.v:=by rw [List.map_map]; exact List.map_congr_left fun k _=>(IS.v_a k).symm
 refine s_cons (s1_assignP lB (Pu.attr B hC (.mem mS') (.mem (mT' mS')) (by kernel_rfl) (.n lSe) hfb) ?_)
 refine s_cons (s1_to2 (e_dict B fun D=>asg_attr ((Pu.n lSe) _ (set_inst B hC (by kernel_rfl) (.mem (mT' mS')) (.tail (.tail (.head _))) (asg_name (sto_local lD.1 ?_)) (by exact as1 1 (.l Z0 (.n 100)) (.l Z0 (.n 1000)) [_] hfz)))))
 refine s_join (fun m2 H2=>∃ G ep,gP G = grpTo bs bs.length∧Less m2 H2 (chM D rb x) ((D,.dict ep (gD G)) :: (x,.inst 242 d) :: (d,.ns (("b2j",.ref D) :: fs)) :: (gL G ++ H))) (s1_for (it_enum ge ((Pu.n lB) _ ⟨rb,bs.map IS.a,rfl,by rw [eL]; exact .mem (mT' (mT' (mT' hrb))),fun i m2 H2=>∃ G ep,gP G = grpTo bs i∧Less m2 H2 (chM D rb x) ((D,.dict ep (gD G)) :: (x,.inst 242 d) :: (d,.ns (("b2j",.ref D) :: fs)) :: (gL G ++ H)),⟨[],0,rfl,less_m LessM.k⟩,?_,?_⟩))) ?_
 ·rintro i m2 H2 hi ⟨G,ep,hG,hl⟩
  rw [List.length_map] at hi
  have hk:=List.getElem?_eq_getElem hi
  generalize bs[i] = k at hk
  have hka:(bs.map IS.a).getD i .none = k.a:=by rw [List.getD,List.getElem?_map,hk]; rfl
  rw [eL]
  refine ⟨Sees.less hl (mT' (mT' (mT' (List.mem_append_right _ hrb)))),On1.less hl ?_⟩
  show Asg c _ (.tup .none [.int i,(bs.map IS.a).getD i .none]) _ _ _
  rw [hka]
  refine asg_tuple (xs:=[.int i,k.a]) (asg_name (sto_local lI.1 (asg_name (sto_local lE.1 ?_))))
  show WPs c _ _ _ _
  rw [← IS.v_a]
  exact ch_row lE lI lD lX rfl hG hk hbz (fun _ _ _ h=>e_method h) (fun _ _ _ h=>e_method h) fun G' ep' u H' h1 h2=>⟨G',ep',h1,(less_m LessM.k).trans h2⟩
 ·rintro m2 H2 ⟨G,ep,hG,hl⟩
  rw [List.length_map] at hG
  rw [eL]
  exact ⟨Sees.less hl (mT' (mT' (mT' (List.mem_append_right _ hrb)))),G,ep,hG,hl⟩
 ·rintro m2 H2 ⟨G,ep,hG,hl⟩
  exact hQ D G ep m2 H2 hG hl
theorem fst_filter (G:GL) (f:IS→Bool):(G.map (·.1)).filter f = (G.filter fun e=>f e.1).map (·.1):=by rw [List.filter_map]; rfl
theorem ch_junk (p:Params) (B:Base c (K06 p)) (hs:c.env.scope = (fdIn (K06 p) 188).scope) {T W:Hp} {D:Addr} {G:GL} {ep:Nat} {fs:List (Str × V)} {J:V} {jk:IS→Bool} {m:Lo} {H:Hp} {Q:Fl→Lo→Hp→Prop} (hfj:fs.lookup ("isjunk":Str) = some J) (hJb:J.notBi = true) (hJ:JunkOk c J jk W) (hW:∀ p∈W,p∈T) (hfz:fs.length≤200) (hnd:(G.map (·.1)).Nodup) (hGn:G.length≤1000)
  (hl:Less m H (chM D rb x) ((D,.dict ep (gD G)) :: (x,.inst 242 d) :: (d,.ns fs) :: T))
  (hQ:∀ S z1 ep' m H',Less m H' (chM D rb x) ((S,.set z1 ((G.map (·.1)).filter jk)) :: (D,.dict ep' (gD (G.filter fun e=>!jk e.1))) :: (x,.inst 242 d) :: (d,.ns (("bjunk",.ref S) :: fs)) :: T)→WPs c ((bodyIn (fdIn (K06 p) 188)).drop 6) m H' Q) :
  WPs c ((bodyIn (fdIn (K06 p) 188)).drop 3) m H Q:=by
 have hn:=congrArg Scope.names hs
 conv at hn=>rhs; whnf
 have hC:=cls02 p
 have gs:Glob c "set" (.ty "set"):=B.set hn (by kernel_rfl)
 have lSe:Lc c "self":=lc_of hn (by kernel_rfl)
 have lD:Lc c "b2j":=lc_of hn (by kernel_rfl)
 have lE:Lc c "elt":=lc_of hn (by kernel_rfl)
 have lJ:Lc c "junk":=lc_of hn (by kernel_rfl)
 have lF:Lc c "isjunk":=lc_of hn (by kernel_rfl)
 refine WPs.less hl ?_
 refine s_cons (s1_to2 (e_call ((Pu.glob gs) _ (items_nil ⟨keep_ty,k_set0 fun S z=>asg_attr ((Pu.n lSe) _ (set_inst B hC (by kernel_rfl) (.mem (mT' (mT' mS'))) (.tail (.tail (.tail (.head _)))) (asg_name (sto_local lJ.1 ?_)) (by exact as1 1 (.l Z0 (.n 200)) (.l Z0 (.n 1000)) [_] hfz)))⟩))))
 refine s_cons (s1_assignP lF (Pu.attr B hC (.mem (mT' (mT' mS'))) (.mem (mT' (mT' (mT' mS')))) (by kernel_rfl) (.n lSe) (by rw [look_skip (by decide)]; exact hfj) hJb) ?_)
 refine s_join (fun m1 H1=>∃ z1 ep',Less m1 H1 (chM D rb x) ((S,.set z1 ((G.map (·.1)).filter jk)) :: (D,.dict ep' (gD (G.filter fun e=>!jk e.1))) :: (x,.inst 242 d) :: (d,.ns (("bjunk",.ref S) :: fs)) :: T)) (s1_if (t_value ((Pu.n lF) _ ?_) (by intro _; rfl))) fun m1 H1 ⟨z1,ep',h⟩=>hQ S z1 ep' m1 H1 h
 rcases hJ with ⟨rfl,hjk⟩ | hJ
 ·have e1:(G.map (·.1)).filter jk = []:=by rw [List.filter_eq_nil_iff]; intro k _; rw [hjk]; simp
  have e2:(G.filter fun e=>!jk e.1) = G:=by rw [List.filter_eq_self]; intro e _; rw [hjk]; rfl
  exact tru_none (s_nil ⟨z,ep,by rw [e1,e2]; exact less_m LessM.k⟩)
 ·have hW4:∀ {P1 P2 P3 P4:Addr × O},∀ p∈W,p∈P1 :: P2 :: P3 :: P4 :: T:=fun p hp=>mT' (mT' (mT' (mT' (hW p hp))))
  refine hJ.tru _ _ _ hW4 ?_
  rw [fst_filter]
  refine s_join (fun m2 H2=>∃ z',Less m2 H2 (("isjunk",J) :: ("junk",.ref S) :: chM D rb x) ((S,.set z' (((G.take G.length).filter fun e=>jk e.1).map (·.1))) :: (D,.dict ep (gD G)) :: (x,.inst 242 d) :: (d,.ns (("bjunk",.ref S) :: fs)) :: T)) (s1_for (it_keys rfl (e_method ((Pu.n lD) _ ⟨_,_,gm_dict (.mem (mT' mS')) PySem.F.slot_dict_keys PySem.F.type_dict_keys,items_nil ⟨keep_bi,k_keys (.mem (mT' mS')) fun vw=>⟨vw,D,ep,gD G,rfl,.mem mS',.mem (mT' (mT' mS')),
   fun i m2 H2=>∃ z',Less m2 H2 (("isjunk",J) :: ("junk",.ref S) :: chM D rb x) ((S,.set z' (((G.take i).filter fun e=>jk e.1).map (·.1))) :: (D,.dict ep (gD G)) :: (x,.inst 242 d) :: (d,.ns (("bjunk",.ref S) :: fs)) :: T),⟨z,(less_m LessM.k).trans (Less.heap (List.Sublist.cons _ (List.Sublist.refl _)))⟩,?_,?_⟩⟩⟩)))) ?_
  ·rintro i m2 H2 hi ⟨z',hl⟩
   rw [gD_len] at hi
   have hg:=List.getElem?_eq_getElem hi
   generalize G[i] = g at hg
   have hk:((gD G).getD i (.i 0,.none)).1 = g.1:=by unfold gD; rw [List.getD,List.getElem?_map,hg]; rfl
   refine ⟨Sees.less hl (mT' mS'),On1.less hl ?_⟩
   dsimp only
   rw [hk]
   refine asg_name (sto_local lE.1 ?_)
   refine s_put lJ lE (.val (.call1 (.n lF) (.n lE) (hJ.keep _ hW4) (fun Q h=>hJ.call _ _ _ Q hW4 h) (hE:=fun _ h=>e_call h)) (by intro _; rfl)) rfl rfl ?_ (fun _ _ _ h=>e_method h) fun z2=>⟨z2,?_⟩
   ·rw [List.length_map]; exact Nat.le_trans (List.length_filter_le _ _) (by rw [List.length_take]; exact Nat.le_trans (Nat.min_le_right _ _) hGn)
   ·rw [put_next (P:=fun e=>jk e.1) hnd hg]
    exact less_m LessM.k
  ·rintro m2 H2 ⟨z',hl⟩
   rw [gD_len] at hl
   exact ⟨Sees.less hl (mT' mS'),z',hl⟩
  ·rintro m2 H2 ⟨z',hl⟩
   rw [List.take_length] at hl
   refine WPs.less hl (s_cons (s1_purge (m':=chM D rb x) lE lJ lD rfl (less_m LessM.k) rfl rfl ((List.filter_sublist.map _).nodup hnd) (fun k hk=>?_) (by rw [gD_len]; exact Nat.le_trans hGn (by decide)) fun σ ep' m3 H3 hσ hl=>s_nil ⟨z',ep',?_⟩))
   ·obtain ⟨e,he,rfl⟩:=List.mem_map.mp hk
    rw [gD_keys]
    exact List.mem_map.mpr ⟨e,(List.mem_filter.mp he).1,rfl⟩
   ·rw [filter_keys hnd (fun e=>jk e.1) σ fun k=>hσ.mem_iff] at hl
    exact hl
theorem ch_pop (p:Params) (B:Base c (K06 p)) (hs:c.env.scope = (fdIn (K06 p) 188).scope) {T:Hp} {D S:Addr} {G:GL} {ep:Nat} {z1:Raw} {ks:List IS} {fs:List (Str × V)} {on:Bool} {m:Lo} {H:Hp} {Q:Fl→Lo→Hp→Prop} (hfa:fs.lookup ("autojunk":Str) = some (.bool on)) (hrb:(rb,O.list (bs.map IS.v))∈T) (hT:∀ g∈G,(g.2.1,O.list (g.2.2.map .int))∈T) (hgz:∀ g∈G,g.2.2.length≤1000) (hfz:fs.length≤200) (hbz:bs.length≤1000) (hnd:(G.map (·.1)).Nodup) (hGn:G.length≤1000)
  (hl:Less m H (chM D rb x) ((S,.set z1 ks) :: (D,.dict ep (gD G)) :: (x,.inst 242 d) :: (d,.ns fs) :: T))
  (hQ:∀ S2 z2 ep' m H',Less m H' [] ((S2,.set z2 ((G.filter (chPop bs.length on)).map (·.1))) :: (S,.set z1 ks) :: (D,.dict ep' (gD (G.filter fun e=>!chPop bs.length on e))) :: (x,.inst 242 d) :: (d,.ns (("bpopular",.ref S2) :: fs)) :: T)→Q .next m H') :
  WPs c ((bodyIn (fdIn (K06 p) 188)).drop 6) m H Q:=by
 have hn:=congrArg Scope.names hs
 conv at hn=>rhs; whnf
 have hC:=cls02 p
 have gl:Glob c "len" (.bi "len"):=B.len hn (by kernel_rfl)
 have gs:Glob c "set" (.ty "set"):=B.set hn (by kernel_rfl)
 have lSe:Lc c "self":=lc_of hn (by kernel_rfl)
 have lB:Lc c "b":=lc_of hn (by kernel_rfl)
 have lD:Lc c "b2j":=lc_of hn (by kernel_rfl)
 have lE:Lc c "elt":=lc_of hn (by kernel_rfl)
 have lP:Lc c "popular":=lc_of hn (by kernel_rfl)
 have lN:Lc c "n":=lc_of hn (by kernel_rfl)
 have lT:Lc c "ntest":=lc_of hn (by kernel_rfl)
 have lG:Lc c "idxs":=lc_of hn (by kernel_rfl)
 refine WPs.less hl ?_
 refine s_cons (s1_to2 (e_call ((Pu.glob gs) _ (items_nil ⟨keep_ty,k_set0 fun S2 z=>asg_attr ((Pu.n lSe) _ (set_inst B hC (by kernel_rfl) (.mem (mT' (mT' (mT' mS')))) (.tail (.tail (.tail (.tail (.head _))))) (asg_name (sto_local lP.1 ?_)) (by exact as1 1 (.l Z0 (.n 200)) (.l Z0 (.n 1000)) [_] hfz)))⟩))))
 refine s_cons (s1_assignP lN (.len gl (.n lB) (.mem (mT' (mT' (mT' (mT' (mT' hrb)))))) (by rw [List.length_map]; exact Nat.le_trans hbz (by decide)) (hE:=fun _ h=>e_call h)) ?_)
 rw [List.length_map]
 refine s_join (fun m1 H1=>∃ z2 ep',Less m1 H1 [] ((S2,.set z2 ((G.filter (chPop bs.length on)).map (·.1))) :: (S,.set z1 ks) :: (D,.dict ep' (gD (G.filter fun e=>!chPop bs.length on e))) :: (x,.inst 242 d) :: (d,.ns (("bpopular",.ref S2) :: fs)) :: T)) (s1_ifP (.and2 (.val (Pu.attr B hC (.mem (mT' (mT' (mT' mS')))) (.mem (mT' (mT' (mT' (mT' mS'))))) (by kernel_rfl) (.n lSe) (by rw [look_skip (by decide)]; exact hfa)) (by intro _; rfl)) fun _=>.geN (a:=bs.length) (b:=200) (.n lN) .one) (fun h=>?_) (fun h=>?_)) fun m1 H1 ⟨z2,ep',h⟩=>s_nil (hQ S2 z2 ep' m1 H1 h)
 ·have eP:∀ e,chPop bs.length on e = decide (bs.length / 100 + 1 < e.2.2.length):=fun e=>by unfold chPop; rw [h,Bool.true_and]
  generalize chPop bs.length on = P at eP ⊢
  refine s_cons (s1_assignP lT (v:=.int ((bs.length / 100 + 1:Nat):Int)) (.succ fun Q h=>e_binop ((Pu.n lN) _ ((Pu.one (i:=100)) _ (o_div (by rw [Int.fdiv_eq_ediv_of_nonneg _ (by decide)]; exact h))))) ?_)
  refine s_join (fun m2 H2=>∃ z',Less m2 H2 (("popular",.ref S2) :: chM D rb x) ((S2,.set z' (((G.take G.length).filter P).map (·.1))) :: (S,.set z1 ks) :: (D,.dict ep (gD G)) :: (x,.inst 242 d) :: (d,.ns (("bpopular",.ref S2) :: fs)) :: T)) (s1_for (it_items (e_method ((Pu.n lD) _ ⟨_,_,gm_dict (.mem (mT' (mT' mS'))) PySem.F.slot_dict_items PySem.F.type_dict_items,items_nil ⟨keep_bi,k_items (.mem (mT' (mT' mS'))) fun vw=>⟨vw,D,ep,G.map fun e=>(e.1,At.ref e.2.1),rfl,.mem mS',?_,
   fun i m2 H2=>∃ z',Less m2 H2 (("ntest",.int ((bs.length / 100 + 1:Nat):Int)) :: ("popular",.ref S2) :: chM D rb x) ((S2,.set z' (((G.take i).filter P).map (·.1))) :: (S,.set z1 ks) :: (D,.dict ep (gD G)) :: (x,.inst 242 d) :: (d,.ns (("bpopular",.ref S2) :: fs)) :: T),⟨z,(less_m LessM.k).trans (Less.heap (List.Sublist.cons _ (List.Sublist.refl _)))⟩,?_,?_⟩⟩⟩)))) ?_
  ·rw [List.map_map]
   exact .mem (mT' (mT' (mT' mS')))
  ·rintro i m2 H2 hi ⟨z',hl⟩
   rw [List.length_map] at hi
   have hg:=List.getElem?_eq_getElem hi
   have hgm:=List.getElem_mem hi
   generalize G[i] = g at hg hgm
   have hk:(G.map fun e=>(e.1,At.ref e.2.1)).getD i (.i 0,.none) = (g.1,At.ref g.2.1):=by rw [List.getD,List.getElem?_map,hg]; rfl
   rw [List.map_map]
   refine ⟨Sees.less hl (mT' (mT' mS')),On1.less hl ?_⟩
   dsimp only
   rw [hk]
   refine asg_tuple (xs:=[g.1.a,.ref g.2.1]) (asg_name (sto_local lE.1 (asg_name (sto_local lG.1 ?_))))
   show WPs c _ _ _ _
   rw [← IS.v_a]
   refine s_put lP lE (b:=P g) ?_ rfl rfl ?_ (fun _ _ _ h=>e_method h) fun z2=>⟨z2,?_⟩
   ·rw [eP,show (g.2.2.length:Nat) = (g.2.2.map V.int).length by rw [List.length_map]]
    exact .gtN (.len gl (.n lG) (.mem (mT' (mT' (mT' (mT' (mT' (hT g hgm))))))) (by rw [List.length_map]; exact Nat.le_trans (hgz g hgm) (by decide)) (hE:=fun _ h=>e_call h)) (.n lT)
   ·rw [List.length_map]; exact Nat.le_trans (List.length_filter_le _ _) (by rw [List.length_take]; exact Nat.le_trans (Nat.min_le_right _ _) hGn)
   ·rw [put_next (P:=P) hnd hg]
    exact less_m LessM.k
  ·rintro m2 H2 ⟨z',hl⟩
   rw [List.length_map] at hl
   rw [List.map_map]
   exact ⟨Sees.less hl (mT' (mT' mS')),z',hl.trans (less_m LessM.k)⟩
  ·rintro m2 H2 ⟨z',hl⟩
   rw [List.take_length] at hl
   refine WPs.less (hl.trans (Less.perm ((List.Perm.swap _ _ _).cons _))) (s_cons (s1_purge (m':=[("b2j",.ref D)]) lE lP lD rfl (less_m LessM.k) rfl rfl ((List.filter_sublist.map _).nodup hnd) (fun k hk=>?_) (by rw [gD_len]; exact Nat.le_trans hGn (by decide)) fun σ ep' m3 H3 hσ hl=>s_nil ⟨z',ep',?_⟩))
   ·obtain ⟨e,he,rfl⟩:=List.mem_map.mp hk
    rw [gD_keys]
    exact List.mem_map.mpr ⟨e,(List.mem_filter.mp he).1,rfl⟩
   ·rw [filter_keys hnd P σ fun k=>hσ.mem_iff] at hl
    exact hl.trans ((less_m LessM.nil).trans (Less.perm ((List.Perm.swap _ _ _).cons _)))
 ·have eP:∀ e,chPop bs.length on e = false:=fun e=>by unfold chPop; rw [h,Bool.false_and]
  have e1:G.filter (chPop bs.length on) = []:=by rw [List.filter_eq_nil_iff]; intro e _; rw [eP]; decide
  have e2:(G.filter fun e=>!chPop bs.length on e) = G:=by rw [List.filter_eq_self]; intro e _; rw [eP]; rfl
  rw [e1,e2]
  exact s_nil ⟨z,ep,less_m LessM.nil⟩
end
theorem chain_ok (p:Params) (c:Ctx) (B:Base c (K06 p)) (hs:c.env.scope = (fdIn (K06 p) 188).scope) {H:Hp} {x d rb:Addr} {fs:List (Str × V)} {bs:List IS} {J:V} {on:Bool} (hfb:fs.lookup ("b":Str) = some (.ref rb)) (hfj:fs.lookup ("isjunk":Str) = some J) (hfa:fs.lookup ("autojunk":Str) = some (.bool on)) (hJb:J.notBi = true) {jk:IS→Bool} {W:Hp} (hJ:JunkOk c J jk W) (hW:∀ p∈W,p∈H) (hrb:(rb,O.list (bs.map IS.v))∈H) (hfz:fs.length≤100) (hbz:bs.length≤1000)
  :WPs c (bodyIn (fdIn (K06 p) 188)) [("self",.ref x)] ((x,.inst 242 d) :: (d,.ns fs) :: H)
   fun f _ H'=>f.val = .none∧∃ D S S2 z1 z2 ep G,gP G = grp bs∧Less [] H' [] ((S2,.set z2 (((G.filter fun e=>!jk e.1).filter (chPop bs.length on)).map (·.1))) :: (S,.set z1 ((G.map (·.1)).filter jk)) :: (D,.dict ep (gD ((G.filter fun e=>!jk e.1).filter fun e=>!chPop bs.length on e))) :: (x,.inst 242 d) :: (d,.ns (("bpopular",.ref S2) :: ("bjunk",.ref S) :: ("b2j",.ref D) :: fs)) :: (gL G ++ H)):=by
 refine ch_groups p B hs hfb hrb hfz hbz fun D G ep m1 H1 hG hl=>?_
 have gi:=isGrp bs
 have hGn:=grpTo_len bs bs.length
 rw [show grpTo bs bs.length = gP G from hG.symm,gP_len] at hGn
 rw [← hG] at gi
 have hGz:G.length≤1000:=Nat.le_trans hGn hbz
 have hnd:=gi.nd
 rw [gP_keys] at hnd
 refine ch_junk p B hs (fs:=("b2j",.ref D) :: fs) (by rw [look_skip (by decide)]; exact hfj) hJb hJ (fun q hq=>List.mem_append_right _ (hW q hq)) (Nat.le_trans (Nat.succ_le_succ hfz) (by decide)) hnd hGz hl fun S z1 ep1 m2 H2 hl=>?_
 refine ch_pop p B hs (on:=on) (fs:=("bjunk",.ref S) :: ("b2j",.ref D) :: fs) (by rw [look_skip (by decide),look_skip (by decide)]; exact hfa) (List.mem_append_right _ hrb) (fun g hg=>List.mem_append_left _ (gL_mem (List.mem_filter.mp hg).1)) (fun g hg=>?_) (Nat.le_trans (Nat.succ_le_succ (Nat.succ_le_succ hfz)) (by decide)) hbz ((List.filter_sublist.map _).nodup hnd) (Nat.le_trans (List.length_filter_le _ _) hGz) hl fun S2 z2 ep2 m3 H3 hl=>⟨rfl,D,S,S2,z1,z2,ep2,G,hG,⟨fun _ _ e=>(by cases e),hl.2⟩⟩
 have:=gi.at_ (g.1,g.2.2) (List.mem_map.mpr ⟨g,(List.mem_filter.mp hg).1,rfl⟩)
 dsimp only at this
 rw [this]
 exact Nat.le_trans (placesTo_len bs _ _) hbz
theorem dictAt_put {es:List (IS × V)} {k j:IS} {v:V}:dictAt (dictPut es k v) j = if j = k then some v else dictAt es j:=by
 unfold dictPut
 by_cases h:es.any (fun e=>decide (e.1 = k)) = true
 ·rw [if_pos h]
  induction es with
  | nil=>simp at h
  | cons e es ih=>
   unfold dictAt at ih ⊢
   by_cases q:e.1 = k
   ·subst q
    by_cases r:j = e.1
    ·subst r; simp
    ·have r':¬ e.1 = j:=fun x=>r x.symm
     simp only [List.map_cons,if_true,List.find?_cons,decide_eq_false r',if_neg r,List.find?_map,Option.map_map]
     have:((fun e_1:IS × V=>decide (e_1.1 = j)) ∘ fun e_1=>if e_1.1 = e.1 then (e_1.1,v) else e_1) = fun e_1=>decide (e_1.1 = j):=by
      funext x; simp only [Function.comp]; split <;> rfl
     rw [this]
     cases w:List.find? (fun e_1=>decide (e_1.1 = j)) es with
     | none=>rfl
     | some x=>
      have hx:=List.find?_some w
      have:x.1 = j:=by simpa using hx
      have:¬ x.1 = e.1:=fun y=>r (this.symm.trans y)
      simp [this]
   ·have h':es.any (fun e=>decide (e.1 = k)) = true:=by simpa [q] using h
    have:=ih h'
    simp only [List.map_cons,if_neg q,List.find?_cons]
    by_cases r:e.1 = j
    ·subst r; simp [q]
    ·simp only [decide_eq_false r]; exact this
 ·rw [if_neg h]
  unfold dictAt
  rw [List.find?_append]
  cases w:List.find? (fun e=>decide (e.1 = j)) es with
  | none=>
   by_cases r:j = k
   ·subst r; simp
   ·have r':¬ k = j:=fun x=>r x.symm
    simp [r,r']
  | some x=>
   have hx:=List.find?_some w
   have hx':x.1 = j:=by simpa using hx
   have:j≠k:=fun y=>h (List.any_eq_true.mpr ⟨x,List.mem_of_find?_eq_some w,by simp [hx',y]⟩)
   simp [this]
theorem dictPut_len {es:List (IS × V)} {k:IS} {v:V}:(dictPut es k v).length≤es.length + 1:=by unfold dictPut; split <;> simp
noncomputable def IdxOk (H:Hp) (es:List (IS × V)) (idx:Int→List Nat):Prop:=∀ v:Int,(dictAt es (.i v) = .none∧idx v = []) ∨ ∃ q,dictAt es (.i v) = some (.ref q)∧(q,O.list ((idx v).map fun j=>V.int (j:Nat)))∈H
noncomputable abbrev flmE (as:List Int) (idx:Int→List Nat):Nat→Nat→Nat→Nat→Nat→Nat→Bool:=winE fun i j=>decide (j∈idx (as.getD i 0))
noncomputable def flmQ (as bs:List Int) (i j:Nat):Bool:=decide (as.getD i 0 = bs.getD j 0)
noncomputable def flmD (bs:List Int) (ks:List IS) (j:Nat):Bool:=decide (IS.i (bs.getD j 0)∈ks)
noncomputable def rowPrev (E:Nat→Nat→Bool):Nat→Nat→Nat
 | 0,_=>0
 | i + 1,j=>bk E i j
noncomputable def RowOk (es:List (IS × V)) (f:Nat→Nat):Prop:=(∀ j:Nat,(dictAt es (.i j)).getD (.int 0) = .int (f j:Nat))∧dictAt es (.i (-1)) = .none
theorem RowOk.nil:RowOk [] (fun _=>0):=⟨fun _=>rfl,rfl⟩
theorem RowOk.congr {es:List (IS × V)} {f g:Nat→Nat} (h:RowOk es f) (e:∀ j,g j = f j):RowOk es g:=⟨fun j=>by rw [e]; exact h.1 j,h.2⟩
theorem RowOk.put {es:List (IS × V)} {f g:Nat→Nat} {j k:Nat} (h:RowOk es f) (e:∀ t,g t = if t = j then k else f t):RowOk (dictPut es (.i j) (.int k)) g:=by
 refine ⟨fun t=>?_,?_⟩
 ·rw [dictAt_put,e]
  by_cases q:t = j
  ·subst q; rw [if_pos rfl,if_pos rfl]; rfl
  ·rw [if_neg q,if_neg (by intro x; injection x with x; exact q (Int.ofNat_inj.mp x))]; exact h.1 t
 ·rw [dictAt_put,if_neg (by intro x; injection x with x; omega)]; exact h.2
theorem row_step {E:Nat→Nat→Bool} {es:List (IS × V)} {i j:Nat} (h:RowOk es (rowPrev E i)) (he:E i j = true):∃ k:Nat,(dictAt es (.i ((j:Int) - 1))).getD (.int 0) = .int (k:Nat)∧k + 1 = bk E i j:=by
 cases j with
 | zero=>
  refine ⟨0,?_,?_⟩
  ·rw [show ((0:Nat):Int) - 1 = -1 from rfl,h.2]; rfl
  ·cases i with
   | zero=>exact (if_pos he).symm
   | succ i=>exact (if_pos he).symm
 | succ j=>
  refine ⟨rowPrev E i j,?_,?_⟩
  ·rw [show ((j + 1:Nat):Int) - 1 = (j:Nat) from in_pred (Nat.succ_pos j)]; exact h.1 j
  ·cases i with
   | zero=>exact (if_pos he).symm
   | succ i=>exact (if_pos he).symm
noncomputable def SeenTo (E:Nat→Nat→Bool) (i:Nat) (ps:List Nat) (p q:Nat):Prop:=(p < i∧E p q = true) ∨ (p = i∧q∈ps∧E p q = true)
theorem seen_lex {E:Nat→Nat→Bool} {i j:Nat} {ps:List Nat} (h:∀ q∈ps,q < j) {p q:Nat} (s:SeenTo E i ps p q):LexLe p q i j:=by
 rcases s with ⟨s,_⟩ | ⟨s,t,_⟩
 ·exact .inl s
 ·exact .inr ⟨s,Nat.le_of_lt (h q t)⟩
theorem seen_snoc {E:Nat→Nat→Bool} {i j:Nat} {ps:List Nat} (he:E i j = true) (p q:Nat):SeenTo E i (ps ++ [j]) p q ↔ (SeenTo E i ps p q ∨ (p = i∧q = j)):=by
 unfold SeenTo
 rw [List.mem_append,List.mem_singleton]
 constructor
 ·rintro (h | ⟨h,(k | k),l⟩)
  ·exact .inl (.inl h)
  ·exact .inl (.inr ⟨h,k,l⟩)
  ·exact .inr ⟨h,k⟩
 ·rintro ((h | ⟨h,k,l⟩) | ⟨h,k⟩)
  ·exact .inl h
  ·exact .inr ⟨h,.inl k,l⟩
  ·subst h k; exact .inr ⟨rfl,.inr rfl,he⟩
theorem seen_skip {E:Nat→Nat→Bool} {i j:Nat} {ps:List Nat} (he:E i j = false) (p q:Nat):SeenTo E i (ps ++ [j]) p q ↔ SeenTo E i ps p q:=by
 unfold SeenTo
 rw [List.mem_append,List.mem_singleton]
 constructor
 ·rintro (h | ⟨h,(k | k),l⟩)
  ·exact .inl h
  ·exact .inr ⟨h,k,l⟩
  ·subst h k; rw [he] at l; cases l
 ·rintro (h | ⟨h,k,l⟩)
  ·exact .inl h
  ·exact .inr ⟨h,.inl k,l⟩
noncomputable def flmF (E:Nat→Nat→Bool) (i:Nat) (ps:List Nat) (j:Nat):Nat:=if j∈ps then bk E i j else 0
theorem flmF_snoc (E:Nat→Nat→Bool) (i:Nat) (ps:List Nat) (j t:Nat):flmF E i (ps ++ [j]) t = if t = j then bk E i j else flmF E i ps t:=by
 unfold flmF
 by_cases z:t = j
 ·subst z; simp
 ·simp [z]
theorem flmF_skip {E:Nat→Nat→Bool} {i:Nat} {ps:List Nat} {j:Nat} (he:E i j = false) (t:Nat):flmF E i (ps ++ [j]) t = flmF E i ps t:=by
 rw [flmF_snoc]
 by_cases z:t = j
 ·subst z; rw [if_pos rfl,bk_zero he]; unfold flmF; rw [bk_zero he]; simp
 ·rw [if_neg z]
noncomputable abbrev flmM (f D rb ra:Addr) (bhi blo ahi alo:Nat):Lo:=[("isbjunk",.ref f),("b2j",.ref D),("b",.ref rb),("a",.ref ra),("bhi",.int bhi),("blo",.int blo),("ahi",.int ahi),("alo",.int alo)]
noncomputable abbrev flmB (bi bj bz:Nat) (m:Lo):Lo:=("bestsize",.int bz) :: ("bestj",.int bj) :: ("besti",.int bi) :: m
noncomputable def flmI1 (E:Nat→Nat→Bool) (alo blo:Nat) (no:Addr) (m:Lo) (H:Hp) (i:Nat) (m2:Lo) (H2:Hp):Prop:=
 ∃ dj ep es bi bj bz,RowOk es (rowPrev E i)∧BestTo E alo blo (fun p q=>p < i∧E p q = true) bi bj bz∧Less m2 H2 (("j2len",.ref dj) :: ("nothing",.ref no) :: flmB bi bj bz m) ((dj,.dict ep es) :: H)
noncomputable def flmI2 (E:Nat→Nat→Bool) (alo blo i:Nat) (ps:List Nat) (no dn g:Addr) (m:Lo) (H:Hp) (t:Nat) (m2:Lo) (H2:Hp):Prop:=
 ∃ ep es bi bj bz,RowOk es (flmF E i (ps.take t))∧es.length≤t∧BestTo E alo blo (SeenTo E i (ps.take t)) bi bj bz∧Less m2 H2 (("i",.int i) :: ("newj2len",.ref dn) :: ("j2lenget",.ref g) :: ("nothing",.ref no) :: flmB bi bj bz m) ((dn,.dict ep es) :: H)
theorem pair_take {l:List Nat} (h:l.Pairwise (· < ·)) {t j:Nat} (hj:l[t]? = some j):∀ q∈l.take t,q < j:=fun q hq=>by
 obtain ⟨ht,rfl⟩:=List.getElem?_eq_some_iff.mp hj
 obtain ⟨u,hu,rfl⟩:=List.getElem_of_mem hq
 rw [List.getElem_take]
 rw [List.length_take] at hu
 exact List.pairwise_iff_getElem.mp h u t (by exact as1 3 (.t Z0 (.mn Z1 Z2)) (.t Z0 Z2) [_,_,_] hu) ht (by exact as1 3 (.t Z0 (.mn Z1 Z2)) (.t Z0 Z1) [_,_,_] hu)
theorem pair_drop {l:List Nat} (h:l.Pairwise (· < ·)) {t j:Nat} (hj:l[t]? = some j):∀ q∈l,q∈l.take t ∨ j≤q:=fun q hq=>by
 obtain ⟨ht,rfl⟩:=List.getElem?_eq_some_iff.mp hj
 obtain ⟨u,hu,rfl⟩:=List.getElem_of_mem hq
 rcases Nat.lt_or_ge u t with z | z
 ·exact .inl (List.mem_take_iff_getElem.mpr ⟨u,by exact as2 3 (.t Z0 Z1) (.t Z2 Z0) (.t Z2 (.mn Z0 Z1)) [_,_,_] ht z,rfl⟩)
 ·rcases Nat.lt_or_ge t u with y | y
  ·exact .inr (Nat.le_of_lt (List.pairwise_iff_getElem.mp h t u ht hu y))
  ·have:u = t:=by exact as2 2 (.l Z0 Z1) (.l Z1 Z0) (.e Z1 Z0) [_,_] z y
   subst this; exact .inr (Nat.le_refl _)
noncomputable def flmJ2 (E:Nat→Nat→Bool) (alo blo i:Nat) (no dn g:Addr) (m:Lo) (H:Hp) (m2:Lo) (H2:Hp):Prop:=
 ∃ ep es bi bj bz,RowOk es (rowPrev E (i + 1))∧BestTo E alo blo (fun p q=>p < i + 1∧E p q = true) bi bj bz∧Less m2 H2 (("newj2len",.ref dn) :: ("nothing",.ref no) :: flmB bi bj bz m) ((dn,.dict ep es) :: H)
theorem row_full {E:Nat→Nat→Bool} {es:List (IS × V)} {i:Nat} {ps:List Nat} (h:RowOk es (flmF E i ps)) (hp:∀ j,E i j = true→j∈ps):RowOk es (rowPrev E (i + 1)):=h.congr fun j=>by
 show bk E i j = flmF E i ps j
 unfold flmF
 by_cases q:j∈ps
 ·rw [if_pos q]
 ·rw [if_neg q]; exact bk_zero (Bool.eq_false_iff.mpr fun r=>q (hp j r))
theorem best_full {E:Nat→Nat→Bool} {lo1 lo2 i bi bj bz:Nat} {ps:List Nat} (h:BestTo E lo1 lo2 (SeenTo E i ps) bi bj bz) (hp:∀ j,E i j = true→j∈ps):BestTo E lo1 lo2 (fun p q=>p < i + 1∧E p q = true) bi bj bz:=h.same fun p q=>by
 unfold SeenTo
 constructor
 ·rintro ⟨a,b⟩
  rcases Nat.lt_or_ge p i with r | r
  ·exact .inl ⟨r,b⟩
  ·have:p = i:=Nat.le_antisymm (Nat.le_of_lt_succ a) r
   subst this
   exact .inr ⟨rfl,hp q b,b⟩
 ·rintro (⟨a,b⟩ | ⟨a,_,b⟩)
  ·exact ⟨Nat.lt_succ_of_lt a,b⟩
  ·exact ⟨Nat.lt_succ_of_le (Nat.le_of_eq a),b⟩
theorem s_for_listJ {c:Ctx} {m:Lo} {H:Hp} {pos:Pos} {t iter:Expr} {b r:List Stmt} {Q:Fl→Lo→Hp→Prop}
  (h:WPe c iter m H fun u m1 H1=>∃ a xs,u = .ref a∧∃ (I:Nat→Lo→Hp→Prop) (J:Lo→Hp→Prop),I 0 m1 H1∧(∀ i m2 H2,I i m2 H2→Sees c H2 a (.list xs))∧(∀ i v m2 H2,xs[i]? = some v→I i m2 H2→Asg c t v m2 H2 fun m3 H3=>WPs c b m3 H3 fun f m4 H4=>
   match f with | .next | .cont=>I (i + 1) m4 H4 | .brk=>J m4 H4 | .ret v=>Q (.ret v) m4 H4)∧(∀ m2 H2,I xs.length m2 H2→J m2 H2)∧∀ m2 H2,J m2 H2→WPs c r m2 H2 Q)
  (ht:autoParam (isNameOrTuple t = true) auRfl) (hs:autoParam (∀ x,foldedSetIterable iter c.env x = pure x) auFun):WPs c (.For t iter b [] pos :: r) m H Q:=by
 refine s_for_list (h.mono ?_) ht hs
 rintro u m1 H1 ⟨a,xs,e,I,J,h0,h1,h2,h3,h4⟩
 refine ⟨a,xs,e,I,h0,h1,fun i v m2 H2 hv hI=>(h2 i v m2 H2 hv hI).mono fun _ m3 H3 q=>WPs.mono q fun f m4 H4 q=>?_,fun m2 H2 hI=>h4 m2 H2 (h3 m2 H2 hI)⟩
 cases f with
 | brk=>exact h4 m4 H4 q
 | next=>exact q
 | cont=>exact q
 | ret v=>exact q
theorem flmQ_iff {as bs:List Int} {i j:Nat}:flmQ as bs i j = true ↔ (as.getD i 0 == bs.getD j 0) = true:=by unfold flmQ; simp
noncomputable def GrW (C:Nat→Prop) (U:Nat→Lo) (H:Hp) (top r0:Nat) (n:Nat) (m2:Lo) (H2:Hp):Prop:=∃ r,n + r = top∧r0≤r∧(∀ t,r0≤t→t < r→C t)∧Less m2 H2 (U r) H
noncomputable def GrP (C:Nat→Prop) (U:Nat→Lo) (H:Hp) (r0:Nat) (m2:Lo) (H2:Hp):Prop:=∃ r,r0≤r∧(∀ t,r0≤t→t < r→C t)∧¬ C r∧Less m2 H2 (U r) H
theorem s1_grow {c:Ctx} {pos:Pos} {e:Expr} {b:List Stmt} {m:Lo} {H H1:Hp} {Q:Fl→Lo→Hp→Prop} {C:Nat→Prop} {U:Nat→Lo} {top r0:Nat} (hm:Less m H1 (U r0) H) (hr:r0≤top) (hC:∀ r,r0≤r→C r→r < top)
  (ht:∀ r,r0≤r→(∀ t,r0≤t→t < r→C t)→WPt c e (U r) H fun x m2 H2=>(x = true ↔ C r)∧m2 = U r∧H2 = H)
  (hb:∀ r,C r→r0≤r→∀ Q':Fl→Lo→Hp→Prop,(∀ m2 H2,Less m2 H2 (U (r + 1)) H→Q' .next m2 H2)→WPs c b (U r) H Q') (hQ:∀ m2 H2,GrP C U H r0 m2 H2→Q .next m2 H2):WP1 c (.While e b [] pos) m H1 Q:=by
 refine s1_while (GrW C U H top r0) (top - r0) ⟨r0,by exact as1 2 (.l Z0 Z1) (.e (.a (.s Z1 Z0) Z0) Z1) [_,_] hr,Nat.le_refl _,fun t a b=>absurd b (Nat.not_lt.mpr a),hm⟩ ?_
 rintro n m1 H1 ⟨r,hn,h0,hg,hl⟩
 refine WPt.less hl (WPt.mono (ht r h0 hg) ?_)
 rintro x m2 H2 ⟨hx,rfl,rfl⟩
 cases x with
 | true=>
  have hc:=hx.mp rfl
  refine hb r hc h0 _ fun m3 H3 l3=>⟨n - 1,?_,r + 1,?_,Nat.le_succ_of_le h0,fun t a b=>?_,l3⟩
  ·have:=hC r h0 hc; exact as2 3 (.e (.a Z0 Z1) Z2) (.t Z1 Z2) (.t (.s Z0 N1) Z0) [_,_,_] hn this
  ·have:=hC r h0 hc; exact as2 3 (.e (.a Z0 Z1) Z2) (.t Z1 Z2) (.e (.a (.s Z0 N1) (.a Z1 N1)) Z2) [_,_,_] hn this
  ·rcases Nat.lt_or_ge t r with q | q
   ·exact hg t a q
   ·have:t = r:=by exact as2 2 (.t Z0 (.a Z1 N1)) (.l Z1 Z0) (.e Z0 Z1) [_,_] b q
    subst this; exact hc
 | false=>exact hQ _ _ ⟨r,h0,hg,(fun q=>nomatch hx.mpr q),Less.refl _ _⟩
section
variable {f0 D rb ra:Addr} {bhi blo ahi alo:Nat} {i j z:Nat} {H:Hp}
theorem lk_i:(flmB i j z (flmM f0 D rb ra bhi blo ahi alo)).lookup ("besti":Str) = some (.int i):=by with_unfolding_all rfl
theorem lk_j:(flmB i j z (flmM f0 D rb ra bhi blo ahi alo)).lookup ("bestj":Str) = some (.int j):=by with_unfolding_all rfl
theorem lk_z:(flmB i j z (flmM f0 D rb ra bhi blo ahi alo)).lookup ("bestsize":Str) = some (.int z):=by with_unfolding_all rfl
theorem lk_is:(flmB i j z (flmM f0 D rb ra bhi blo ahi alo)).lookup ("isbjunk":Str) = some (.ref f0):=by with_unfolding_all rfl
theorem lk_b:(flmB i j z (flmM f0 D rb ra bhi blo ahi alo)).lookup ("b":Str) = some (.ref rb):=by with_unfolding_all rfl
theorem lk_a:(flmB i j z (flmM f0 D rb ra bhi blo ahi alo)).lookup ("a":Str) = some (.ref ra):=by with_unfolding_all rfl
theorem lk_bh:(flmB i j z (flmM f0 D rb ra bhi blo ahi alo)).lookup ("bhi":Str) = some (.int bhi):=by with_unfolding_all rfl
theorem lk_bl:(flmB i j z (flmM f0 D rb ra bhi blo ahi alo)).lookup ("blo":Str) = some (.int blo):=by with_unfolding_all rfl
theorem lk_ah:(flmB i j z (flmM f0 D rb ra bhi blo ahi alo)).lookup ("ahi":Str) = some (.int ahi):=by with_unfolding_all rfl
theorem lk_al:(flmB i j z (flmM f0 D rb ra bhi blo ahi alo)).lookup ("alo":Str) = some (.int alo):=by with_unfolding_all rfl
end
theorem left_iff {as bs:List Int} {ks:List IS} {alo blo bi bj l:Nat} {junk g:Bool} (hg:g = true ↔ decide (IS.i (bs.getD (bj - l - 1) 0)∈ks) = junk) :
  (decide (alo < bi - l) && decide (blo < bj - l) && g && (as.getD (bi - l - 1) 0 == bs.getD (bj - l - 1) 0)) = true ↔ (eqL (flmQ as bs) alo blo bi bj l = true∧flmD bs ks (bj - 1 - l) = junk):=by
 rw [eqL_iff,flmQ_iff,show bi - 1 - l = bi - l - 1 by exact as0 2 (.e (.s (.s Z0 N1) Z1) (.s (.s Z0 Z1) N1)) [_,_],show bj - 1 - l = bj - l - 1 by exact as0 2 (.e (.s (.s Z0 N1) Z1) (.s (.s Z0 Z1) N1)) [_,_]]
 simp only [Bool.and_eq_true,decide_eq_true_eq,hg]
 unfold flmD
 constructor
 ·rintro ⟨⟨⟨a,b⟩,d⟩,e⟩; exact ⟨⟨by exact as1 3 (.t Z0 (.s Z1 Z2)) (.t (.a Z0 Z2) Z1) [_,_,_] a,by exact as1 3 (.t Z0 (.s Z1 Z2)) (.t (.a Z0 Z2) Z1) [_,_,_] b,e⟩,d⟩
 ·rintro ⟨⟨a,b,e⟩,d⟩; exact ⟨⟨⟨by exact as1 3 (.t (.a Z0 Z1) Z2) (.t Z0 (.s Z2 Z1)) [_,_,_] a,by exact as1 3 (.t (.a Z0 Z1) Z2) (.t Z0 (.s Z2 Z1)) [_,_,_] b⟩,d⟩,e⟩
theorem right_iff {as bs:List Int} {ks:List IS} {ahi bhi ei ej l p q:Nat} {junk g:Bool} (hp:p = ei + l) (hq:q = ej + l) (hg:g = true ↔ decide (IS.i (bs.getD q 0)∈ks) = junk) :
  (decide (p < ahi) && decide (q < bhi) && g && (as.getD p 0 == bs.getD q 0)) = true ↔ (eqR (flmQ as bs) ahi bhi ei ej l = true∧flmD bs ks (ej + l) = junk):=by
 subst hp hq
 rw [eqR_iff,flmQ_iff]
 simp only [Bool.and_eq_true,decide_eq_true_eq,hg]
 unfold flmD
 constructor
 ·rintro ⟨⟨⟨a,b⟩,d⟩,e⟩; exact ⟨⟨a,b,e⟩,d⟩
 ·rintro ⟨⟨a,b,e⟩,d⟩; exact ⟨⟨⟨a,b⟩,d⟩,e⟩
theorem not_iff_false {b:Bool}:(!b) = true ↔ b = false:=by cases b <;> simp
theorem dpos {x a:Nat} (h:decide (x < a) = true):0 < a:=Nat.lt_of_le_of_lt (Nat.zero_le x) (of_decide_eq_true h)
theorem dlt {x a n:Nat} (h:decide (x < a) = true) (q:a≤n):x < n:=Nat.lt_of_lt_of_le (of_decide_eq_true h) q
theorem dpred {x a n:Nat} (h:decide (x < a) = true) (q:a≤n):a - 1 < n:=Nat.lt_of_lt_of_le (Nat.sub_lt (dpos h) Nat.one_pos) q
theorem grL_lt {q:Nat→Nat→Bool} {P:Nat→Prop} {alo blo bi bj r0:Nat} (r:Nat) (_:r0≤r) (h:eqL q alo blo bi bj r = true∧P r):r < bi:=by have:=eqL_iff.mp h.1; exact as1 3 (.t (.a Z0 Z1) Z2) (.t Z1 Z2) [_,_,_] this.1
theorem grR_lt {q:Nat→Nat→Bool} {P:Nat→Prop} {ahi bhi ei ej r0:Nat} (r:Nat) (_:r0≤r) (h:eqR q ahi bhi ei ej r = true∧P r):r < ahi:=by have:=eqR_iff.mp h.1; exact as1 3 (.t (.a Z0 Z1) Z2) (.t Z1 Z2) [_,_,_] this.1
theorem grL_le {q:Nat→Nat→Bool} {P:Nat→Prop} {alo blo bi bj r0 l:Nat} (h0:r0≤l) (h:∀ t,r0≤t→t < l→eqL q alo blo bi bj t = true∧P t) (h1:alo + r0≤bi) (h2:blo + r0≤bj):alo + l≤bi∧blo + l≤bj:=by
 rcases Nat.lt_or_ge r0 l with w | w
 ·have:=eqL_iff.mp (h (l - 1) (by exact as1 2 (.t Z0 Z1) (.l Z0 (.s Z1 N1)) [_,_] w) (by exact as1 2 (.t Z0 Z1) (.t (.s Z1 N1) Z1) [_,_] w)).1; exact as2 5 (.t (.a Z0 (.s Z1 N1)) Z2) (.t (.a Z3 (.s Z1 N1)) Z4) (.an (.l (.a Z0 Z1) Z2) (.l (.a Z3 Z1) Z4)) [_,_,_,_,_] this.1 this.2.1
 ·have:l = r0:=by exact as2 2 (.l Z0 Z1) (.l Z1 Z0) (.e Z1 Z0) [_,_] h0 w
  exact as3 6 (.l (.a Z0 Z1) Z2) (.l (.a Z3 Z1) Z4) (.l Z5 Z1) (.an (.l (.a Z0 Z5) Z2) (.l (.a Z3 Z5) Z4)) [_,_,_,_,_,_] h1 h2 w
theorem grR_le {q:Nat→Nat→Bool} {P:Nat→Prop} {ahi bhi ei ej r0 l:Nat} (h0:r0≤l) (h:∀ t,r0≤t→t < l→eqR q ahi bhi ei ej t = true∧P t) (h1:ei + r0≤ahi) (h2:ej + r0≤bhi):ei + l≤ahi∧ej + l≤bhi:=by
 rcases Nat.lt_or_ge r0 l with w | w
 ·have:=eqR_iff.mp (h (l - 1) (by exact as1 2 (.t Z0 Z1) (.l Z0 (.s Z1 N1)) [_,_] w) (by exact as1 2 (.t Z0 Z1) (.t (.s Z1 N1) Z1) [_,_] w)).1; exact as2 5 (.t (.a Z0 (.s Z1 N1)) Z2) (.t (.a Z3 (.s Z1 N1)) Z4) (.an (.l (.a Z0 Z1) Z2) (.l (.a Z3 Z1) Z4)) [_,_,_,_,_] this.1 this.2.1
 ·have:l = r0:=by exact as2 2 (.l Z0 Z1) (.l Z1 Z0) (.e Z1 Z0) [_,_] h0 w
  exact as3 6 (.l (.a Z0 Z1) Z2) (.l (.a Z3 Z1) Z4) (.l Z5 Z1) (.an (.l (.a Z0 Z5) Z2) (.l (.a Z3 Z5) Z4)) [_,_,_,_,_,_] h1 h2 w
section
variable {f0 D rb ra:Addr} {bhi blo ahi alo:Nat} {i j z i' j' z' i2 j2 z2:Nat} {H:Hp}
theorem flmB_sw (e1:i' = i2) (e2:j' = j2) (e3:z' = z2):Less (("besti",.int (i':Nat)) :: ("bestj",.int (j':Nat)) :: ("bestsize",.int (z':Nat)) :: flmB i j z (flmM f0 D rb ra bhi blo ahi alo)) H (flmB i2 j2 z2 (flmM f0 D rb ra bhi blo ahi alo)) H:=by
 subst e1 e2 e3
 exact less_m LessM.k
theorem flmB_z:Less (("bestsize",.int (z':Nat)) :: flmB i j z (flmM f0 D rb ra bhi blo ahi alo)) H (flmB i j z' (flmM f0 D rb ra bhi blo ahi alo)) H:=less_m LessM.k
end
theorem flm_tail (p:Params) (c:Ctx) {k:Nat} (hf:c.fuel = k + 1 + 1) (B:Base c (K06 p)) (hs:c.env.scope = (fdIn (K06 p) 196).scope) {H:Hp} {ra rb D S f0:Addr} {as bs:List Int} {z:Raw} {ks:List IS} {E:Nat→Nat→Bool} {alo ahi blo bhi bi bj bz:Nat} {Q0:Fl→Lo→Hp→Prop}
  (hra:(ra,O.list (as.map .int))∈H) (hrb:(rb,O.list (bs.map .int))∈H) (hks:(S,O.set z ks)∈H)
  (hbest:BestTo E alo blo (fun p q=>E p q = true) bi bj bz) (hbd:bi + bz≤ahi∧bj + bz≤bhi∧alo≤bi∧blo≤bj) (h2:ahi≤as.length) (h4:bhi≤bs.length) (h5:as.length≤1000) (h6:bs.length≤1000)
  (hQ0:∀ f m H2,(∃ i j k,f = .ret (.tup (some 135) [.int (i:Nat),.int (j:Nat),.int (k:Nat)])∧Less [] H2 [] H∧FlmR (flmQ as bs) E (flmD bs ks) alo ahi blo bhi i j k)→Q0 f m H2)
  :WPs c ((bodyIn (fdIn (K06 p) 196)).drop 8) (flmB bi bj bz (flmM f0 D rb ra bhi blo ahi alo)) ((f0,.obj (bndObj "set.__contains__" S)) :: H) Q0:=by
 have hn:=congrArg Scope.names hs
 conv at hn=>rhs; whnf
 have gm:Glob c "Match" (.ref 135):=B.glob (kind_of hn (by decide +kernel)) (by kernel_rfl) rfl
 have lI:Lc c "besti":=lc_of hn (by kernel_rfl)
 have lJ:Lc c "bestj":=lc_of hn (by kernel_rfl)
 have lZ:Lc c "bestsize":=lc_of hn (by kernel_rfl)
 have lIs:Lc c "isbjunk":=lc_of hn (by kernel_rfl)
 have lB:Lc c "b":=lc_of hn (by kernel_rfl)
 have lA:Lc c "a":=lc_of hn (by kernel_rfl)
 have lBh:Lc c "bhi":=lc_of hn (by kernel_rfl)
 have lBl:Lc c "blo":=lc_of hn (by kernel_rfl)
 have lAh:Lc c "ahi":=lc_of hn (by kernel_rfl)
 have lAl:Lc c "alo":=lc_of hn (by kernel_rfl)
 have sf:Sees c ((f0,.obj (bndObj "set.__contains__" S)) :: H) f0 (.obj (bndObj "set.__contains__" S)):=.mem mS
 have sa:Sees c ((f0,.obj (bndObj "set.__contains__" S)) :: H) ra (.list (as.map .int)):=.mem (mT hra)
 have sb:Sees c ((f0,.obj (bndObj "set.__contains__" S)) :: H) rb (.list (bs.map .int)):=.mem (mT hrb)
 have ss:Sees c ((f0,.obj (bndObj "set.__contains__" S)) :: H) S (.set z ks):=.mem (mT hks)
 obtain ⟨b1,b2,b3,b4⟩:=hbd
 refine s_join (GrP (fun t=>eqL (flmQ as bs) alo blo bi bj t = true∧flmD bs ks (bj - 1 - t) = false) (fun l=>flmB (bi - l) (bj - l) (bz + l) (flmM f0 D rb ra bhi blo ahi alo)) ((f0,.obj (bndObj "set.__contains__" S)) :: H) 0) (s1_grow (top:=bi) (r0:=0) (U:=fun l=>flmB (bi - l) (bj - l) (bz + l) (flmM f0 D rb ra bhi blo ahi alo)) (H:=((f0,.obj (bndObj "set.__contains__" S)) :: H)) (C:=fun t=>eqL (flmQ as bs) alo blo bi bj t = true∧flmD bs ks (bj - 1 - t) = false) (Less.refl _ _) (by exact as0 1 (.l (.n 0) Z0) [_]) grL_lt ?_ ?_ fun _ _ h=>h) ?_
 ·intro l hl0 hg
  obtain ⟨d1,d2⟩:=grL_le hl0 hg (by exact as1 2 (.l Z0 Z1) (.l (.a Z0 (.n 0)) Z1) [_,_] b3) (by exact as1 2 (.l Z0 Z1) (.l (.a Z0 (.n 0)) Z1) [_,_] b4)
  clear hg
  have g1:bj - l≤bs.length:=by exact as2 5 (.l Z0 Z1) (.l (.a Z2 Z3) Z0) (.l (.s Z2 Z4) Z1) [_,_,_,_,_] h4 b2
  have g2:bi - l≤as.length:=by exact as2 5 (.l Z0 Z1) (.l (.a Z2 Z3) Z0) (.l (.s Z2 Z4) Z1) [_,_,_,_,_] h2 b1
  exact PuT.and4 (.gtN (.nm lI lk_i) (.nm lAl lk_al)) (fun t1=>.gtN (.nm lJ lk_j) (.nm lBl lk_bl)) (fun t1 t2=>.not (.val (.has (k:=.i _) (.nm lIs lk_is) (.at (.nm lB lk_b) (.pred (.nm lJ lk_j) (dpos t2)) sb (dpred t2 g1) h6) sf ss (hE:=fun _ h=>e_call h)))) (fun t1 t2 _=>.eqI (.at (.nm lA lk_a) (.pred (.nm lI lk_i) (dpos t1)) sa (dpred t1 g2) h5) (.at (.nm lB lk_b) (.pred (.nm lJ lk_j) (dpos t2)) sb (dpred t2 g1) h6)) _ ⟨left_iff not_iff_false,rfl,rfl⟩
 ·intro l hc hl0 Q' hQ'
  have hb:=eqL_iff.mp hc.1
  refine s_cons (s1_swapP hn (by kernel_rfl) (.pred (.nm lI lk_i) (by exact as1 3 (.t (.a Z0 Z1) Z2) (.t (.n 0) (.s Z2 Z1)) [_,_,_] hb.1)) (.pred (.nm lJ lk_j) (by exact as1 3 (.t (.a Z0 Z1) Z2) (.t (.n 0) (.s Z2 Z1)) [_,_,_] hb.2.1)) (.succ (.nm lZ lk_z)) lI lJ lZ (s_nil (hQ' _ _ ?_)))
  exact flmB_sw (by exact as0 2 (.e (.s (.s Z0 Z1) N1) (.s Z0 (.a Z1 N1))) [_,_]) (by exact as0 2 (.e (.s (.s Z0 Z1) N1) (.s Z0 (.a Z1 N1))) [_,_]) (by exact as0 2 (.e (.a (.a Z0 Z1) N1) (.a Z0 (.a Z1 N1))) [_,_])
 rintro m1 H1 ⟨l1,k1,hg1,hs1,hl1⟩
 obtain ⟨u1,v1⟩:=grL_le k1 hg1 (by exact as1 2 (.l Z0 Z1) (.l (.a Z0 (.n 0)) Z1) [_,_] b3) (by exact as1 2 (.l Z0 Z1) (.l (.a Z0 (.n 0)) Z1) [_,_] b4)
 refine s_join (GrP (fun t=>eqR (flmQ as bs) ahi bhi (bi + bz) (bj + bz) t = true∧flmD bs ks (bj + bz + t) = false) (fun l=>flmB (bi - l1) (bj - l1) (bz + l1 + l) (flmM f0 D rb ra bhi blo ahi alo)) ((f0,.obj (bndObj "set.__contains__" S)) :: H) 0) (s1_grow (top:=ahi) (r0:=0) (U:=fun l=>flmB (bi - l1) (bj - l1) (bz + l1 + l) (flmM f0 D rb ra bhi blo ahi alo)) (H:=((f0,.obj (bndObj "set.__contains__" S)) :: H)) (C:=fun t=>eqR (flmQ as bs) ahi bhi (bi + bz) (bj + bz) t = true∧flmD bs ks (bj + bz + t) = false) hl1 (by exact as0 1 (.l (.n 0) Z0) [_]) grR_lt ?_ ?_ fun _ _ h=>h) ?_
 ·intro l hl0 hg
  obtain ⟨d1,d2⟩:=grR_le hl0 hg (by exact as1 3 (.l (.a Z0 Z1) Z2) (.l (.a (.a Z0 Z1) (.n 0)) Z2) [_,_,_] b1) (by exact as1 3 (.l (.a Z0 Z1) Z2) (.l (.a (.a Z0 Z1) (.n 0)) Z2) [_,_,_] b2)
  clear hg
  exact PuT.and4 (.ltN (.addN (.nm lI lk_i) (.nm lZ lk_z)) (.nm lAh lk_ah)) (fun t1=>.ltN (.addN (.nm lJ lk_j) (.nm lZ lk_z)) (.nm lBh lk_bh)) (fun t1 t2=>.not (.val (.has (k:=.i _) (.nm lIs lk_is) (.at (.nm lB lk_b) (.addN (.nm lJ lk_j) (.nm lZ lk_z)) sb (dlt t2 h4) h6) sf ss (hE:=fun _ h=>e_call h)))) (fun t1 t2 _=>.eqI (.at (.nm lA lk_a) (.addN (.nm lI lk_i) (.nm lZ lk_z)) sa (dlt t1 h2) h5) (.at (.nm lB lk_b) (.addN (.nm lJ lk_j) (.nm lZ lk_z)) sb (dlt t2 h4) h6)) _ ⟨right_iff (by exact as1 5 (.l (.a Z0 Z1) Z2) (.e (.a (.s Z2 Z1) (.a (.a Z3 Z1) Z4)) (.a (.a Z2 Z3) Z4)) [_,_,_,_,_] u1) (by exact as1 5 (.l (.a Z0 Z1) Z2) (.e (.a (.s Z2 Z1) (.a (.a Z3 Z1) Z4)) (.a (.a Z2 Z3) Z4)) [_,_,_,_,_] v1) not_iff_false,rfl,rfl⟩
 ·intro l hc hl0 Q' hQ'
  exact s_cons (s1_augP lZ lk_z .one (s_nil (hQ' _ _ flmB_z)))
 rintro m2 H2 ⟨r2,k2,hg2,hs2,hl2⟩
 obtain ⟨u2,v2⟩:=grR_le k2 hg2 (by exact as1 3 (.l (.a Z0 Z1) Z2) (.l (.a (.a Z0 Z1) (.n 0)) Z2) [_,_,_] b1) (by exact as1 3 (.l (.a Z0 Z1) Z2) (.l (.a (.a Z0 Z1) (.n 0)) Z2) [_,_,_] b2)
 refine s_join (GrP (fun t=>eqL (flmQ as bs) alo blo bi bj t = true∧flmD bs ks (bj - 1 - t) = true) (fun l=>flmB (bi - l) (bj - l) (bz + l + r2) (flmM f0 D rb ra bhi blo ahi alo)) ((f0,.obj (bndObj "set.__contains__" S)) :: H) l1) (s1_grow (top:=bi) (r0:=l1) (U:=fun l=>flmB (bi - l) (bj - l) (bz + l + r2) (flmM f0 D rb ra bhi blo ahi alo)) (H:=((f0,.obj (bndObj "set.__contains__" S)) :: H)) (C:=fun t=>eqL (flmQ as bs) alo blo bi bj t = true∧flmD bs ks (bj - 1 - t) = true) hl2 (by exact as1 3 (.l (.a Z0 Z1) Z2) (.l Z1 Z2) [_,_,_] u1) grL_lt ?_ ?_ fun _ _ h=>h) ?_
 ·intro l hl0 hg
  obtain ⟨d1,d2⟩:=grL_le hl0 hg (by exact as1 3 (.l (.a Z0 Z1) Z2) (.l (.a Z0 Z1) Z2) [_,_,_] u1) (by exact as1 3 (.l (.a Z0 Z1) Z2) (.l (.a Z0 Z1) Z2) [_,_,_] v1)
  clear hg
  have g1:bj - l≤bs.length:=by exact as2 5 (.l Z0 Z1) (.l (.a Z2 Z3) Z0) (.l (.s Z2 Z4) Z1) [_,_,_,_,_] h4 b2
  have g2:bi - l≤as.length:=by exact as2 5 (.l Z0 Z1) (.l (.a Z2 Z3) Z0) (.l (.s Z2 Z4) Z1) [_,_,_,_,_] h2 b1
  exact PuT.and4 (.gtN (.nm lI lk_i) (.nm lAl lk_al)) (fun t1=>.gtN (.nm lJ lk_j) (.nm lBl lk_bl)) (fun t1 t2=>.val (.has (k:=.i _) (.nm lIs lk_is) (.at (.nm lB lk_b) (.pred (.nm lJ lk_j) (dpos t2)) sb (dpred t2 g1) h6) sf ss (hE:=fun _ h=>e_call h))) (fun t1 t2 _=>.eqI (.at (.nm lA lk_a) (.pred (.nm lI lk_i) (dpos t1)) sa (dpred t1 g2) h5) (.at (.nm lB lk_b) (.pred (.nm lJ lk_j) (dpos t2)) sb (dpred t2 g1) h6)) _ ⟨left_iff Iff.rfl,rfl,rfl⟩
 ·intro l hc hl0 Q' hQ'
  have hb:=eqL_iff.mp hc.1
  refine s_cons (s1_swapP hn (by kernel_rfl) (.pred (.nm lI lk_i) (by exact as1 3 (.t (.a Z0 Z1) Z2) (.t (.n 0) (.s Z2 Z1)) [_,_,_] hb.1)) (.pred (.nm lJ lk_j) (by exact as1 3 (.t (.a Z0 Z1) Z2) (.t (.n 0) (.s Z2 Z1)) [_,_,_] hb.2.1)) (.succ (.nm lZ lk_z)) lI lJ lZ (s_nil (hQ' _ _ ?_)))
  exact flmB_sw (by exact as0 2 (.e (.s (.s Z0 Z1) N1) (.s Z0 (.a Z1 N1))) [_,_]) (by exact as0 2 (.e (.s (.s Z0 Z1) N1) (.s Z0 (.a Z1 N1))) [_,_]) (by exact as0 3 (.e (.a (.a (.a Z0 Z1) Z2) N1) (.a (.a Z0 (.a Z1 N1)) Z2)) [_,_,_])
 rintro m3 H3 ⟨l3,k3,hg3,hs3,hl3⟩
 obtain ⟨u3,v3⟩:=grL_le k3 hg3 (by exact as1 3 (.l (.a Z0 Z1) Z2) (.l (.a Z0 Z1) Z2) [_,_,_] u1) (by exact as1 3 (.l (.a Z0 Z1) Z2) (.l (.a Z0 Z1) Z2) [_,_,_] v1)
 refine s_join (GrP (fun t=>eqR (flmQ as bs) ahi bhi (bi + bz) (bj + bz) t = true∧flmD bs ks (bj + bz + t) = true) (fun l=>flmB (bi - l3) (bj - l3) (bz + l3 + l) (flmM f0 D rb ra bhi blo ahi alo)) ((f0,.obj (bndObj "set.__contains__" S)) :: H) r2) (s1_grow (top:=ahi) (r0:=r2) (U:=fun l=>flmB (bi - l3) (bj - l3) (bz + l3 + l) (flmM f0 D rb ra bhi blo ahi alo)) (H:=((f0,.obj (bndObj "set.__contains__" S)) :: H)) (C:=fun t=>eqR (flmQ as bs) ahi bhi (bi + bz) (bj + bz) t = true∧flmD bs ks (bj + bz + t) = true) hl3 (by exact as1 4 (.l (.a (.a Z0 Z1) Z2) Z3) (.l Z2 Z3) [_,_,_,_] u2) grR_lt ?_ ?_ fun _ _ h=>h) ?_
 ·intro l hl0 hg
  obtain ⟨d1,d2⟩:=grR_le hl0 hg (by exact as1 4 (.l (.a (.a Z0 Z1) Z2) Z3) (.l (.a (.a Z0 Z1) Z2) Z3) [_,_,_,_] u2) (by exact as1 4 (.l (.a (.a Z0 Z1) Z2) Z3) (.l (.a (.a Z0 Z1) Z2) Z3) [_,_,_,_] v2)
  clear hg
  exact PuT.and4 (.ltN (.addN (.nm lI lk_i) (.nm lZ lk_z)) (.nm lAh lk_ah)) (fun t1=>.ltN (.addN (.nm lJ lk_j) (.nm lZ lk_z)) (.nm lBh lk_bh)) (fun t1 t2=>.val (.has (k:=.i _) (.nm lIs lk_is) (.at (.nm lB lk_b) (.addN (.nm lJ lk_j) (.nm lZ lk_z)) sb (dlt t2 h4) h6) sf ss (hE:=fun _ h=>e_call h))) (fun t1 t2 _=>.eqI (.at (.nm lA lk_a) (.addN (.nm lI lk_i) (.nm lZ lk_z)) sa (dlt t1 h2) h5) (.at (.nm lB lk_b) (.addN (.nm lJ lk_j) (.nm lZ lk_z)) sb (dlt t2 h4) h6)) _ ⟨right_iff (by exact as1 5 (.l (.a Z0 Z1) Z2) (.e (.a (.s Z2 Z1) (.a (.a Z3 Z1) Z4)) (.a (.a Z2 Z3) Z4)) [_,_,_,_,_] u3) (by exact as1 5 (.l (.a Z0 Z1) Z2) (.e (.a (.s Z2 Z1) (.a (.a Z3 Z1) Z4)) (.a (.a Z2 Z3) Z4)) [_,_,_,_,_] v3) Iff.rfl,rfl,rfl⟩
 ·intro l hc hl0 Q' hQ'
  exact s_cons (s1_assignP lZ (.succ (.nm lZ lk_z)) (s_nil (hQ' _ _ flmB_z)))
 rintro m4 H4 ⟨r4,k4,hg4,hs4,hl4⟩
 obtain ⟨u4,v4⟩:=grR_le k4 hg4 (by exact as1 4 (.l (.a (.a Z0 Z1) Z2) Z3) (.l (.a (.a Z0 Z1) Z2) Z3) [_,_,_,_] u2) (by exact as1 4 (.l (.a (.a Z0 Z1) Z2) Z3) (.l (.a (.a Z0 Z1) Z2) Z3) [_,_,_,_] v2)
 refine WPs.less hl4 ?_
 refine s_cons (s1_return ?_)
 refine e_call (e_glob gm (items_cons (Pu.nm lI lk_i _ (items_cons (Pu.nm lJ lk_j _ (items_cons (Pu.nm lZ lk_z _ (items_nil ?_))))))))
 refine ⟨keep_K B (by kernel_rfl),(match_cal p hf B ?_).cal⟩
 refine hQ0 _ _ _ ⟨bi - l3,bj - l3,bz + l3 + r4,rfl,less_of LessM.nil (List.Sublist.cons _ (List.Sublist.refl _)),bi,bj,bz,l3,r4,hbest,?_,?_,rfl,rfl,by exact as0 3 (.e (.a (.a Z0 Z1) Z2) (.a (.a Z1 Z0) Z2)) [_,_,_]⟩
 ·exact grown_of k3 (fun t ht=>hg1 t (Nat.zero_le t) ht) hs1 hg3 hs3
 ·exact grown_of k4 (fun t ht=>hg2 t (Nat.zero_le t) ht) hs2 hg4 hs4
noncomputable abbrev flmN (f D rb ra:Addr) (bh:V) (blo:Nat) (ah:V) (alo:Nat):Lo:=[("isbjunk",.ref f),("b2j",.ref D),("b",.ref rb),("a",.ref ra),("bhi",bh),("blo",.int blo),("ahi",ah),("alo",.int alo)]
theorem beg_cast {i k:Nat} (h:k≤i + 1):(i:Int) - k + 1 = ((i + 1 - k:Nat):Int):=by omega
section
variable {f0 D rb ra dn g no x:Addr} {bhi blo ahi alo:Nat} {ah bh:V} {i j z i' j' k:Nat} {u v w:V} {H:Hp}
theorem ln_ah:(flmN f0 D rb ra bh blo ah alo).lookup ("ahi":Str) = some ah:=by with_unfolding_all rfl
theorem ln_bh:(flmN f0 D rb ra bh blo ah alo).lookup ("bhi":Str) = some bh:=by with_unfolding_all rfl
theorem ln_a:(flmN f0 D rb ra bh blo ah alo).lookup ("a":Str) = some (.ref ra):=by with_unfolding_all rfl
theorem ln_b:(flmN f0 D rb ra bh blo ah alo).lookup ("b":Str) = some (.ref rb):=by with_unfolding_all rfl
theorem ln_al:(flmN f0 D rb ra bh blo ah alo).lookup ("alo":Str) = some (.int alo):=by with_unfolding_all rfl
theorem ln_bl:(flmN f0 D rb ra bh blo ah alo).lookup ("blo":Str) = some (.int blo):=by with_unfolding_all rfl
theorem ln0:Less (("isbjunk",.ref f0) :: ("b2j",.ref D) :: ("b",.ref rb) :: ("a",.ref ra) :: [("bhi",bh),("blo",.int blo),("ahi",ah),("alo",.int alo),("self",.ref x)]) H (flmN f0 D rb ra bh blo ah alo) H:=
 less_m LessM.k
theorem ln1:Less (("ahi",u) :: flmN f0 D rb ra bh blo ah alo) H (flmN f0 D rb ra bh blo u alo) H:=less_m LessM.k
theorem ln2:Less (("bhi",u) :: flmN f0 D rb ra bh blo ah alo) H (flmN f0 D rb ra u blo ah alo) H:=less_m LessM.k
theorem ln3:Less (("nothing",u) :: ("j2len",v) :: ("besti",.int (i:Nat)) :: ("bestj",.int (j:Nat)) :: ("bestsize",.int (z:Nat)) :: flmM f0 D rb ra bhi blo ahi alo) H (("j2len",v) :: ("nothing",u) :: flmB i j z (flmM f0 D rb ra bhi blo ahi alo)) H:=less_m LessM.k
theorem ln4:Less (("newj2len",u) :: ("j2lenget",v) :: ("i",w) :: ("j2len",.ref x) :: ("nothing",.ref no) :: flmB i j z (flmM f0 D rb ra bhi blo ahi alo)) H (("i",w) :: ("newj2len",u) :: ("j2lenget",v) :: ("nothing",.ref no) :: flmB i j z (flmM f0 D rb ra bhi blo ahi alo)) H:=less_m LessM.k
theorem ln5:Less (("j",u) :: ("i",.int (i':Nat)) :: ("newj2len",.ref dn) :: ("j2lenget",.ref g) :: ("nothing",.ref no) :: flmB i j z (flmM f0 D rb ra bhi blo ahi alo)) H (("newj2len",.ref dn) :: ("nothing",.ref no) :: flmB i j z (flmM f0 D rb ra bhi blo ahi alo)) H:=less_m LessM.k
theorem ln5b:Less (("i",.int (i':Nat)) :: ("newj2len",.ref dn) :: ("j2lenget",.ref g) :: ("nothing",.ref no) :: flmB i j z (flmM f0 D rb ra bhi blo ahi alo)) H (("newj2len",.ref dn) :: ("nothing",.ref no) :: flmB i j z (flmM f0 D rb ra bhi blo ahi alo)) H:=less_m LessM.k
theorem ln6:Less (("j",u) :: ("i",.int (i':Nat)) :: ("newj2len",.ref dn) :: ("j2lenget",.ref g) :: ("nothing",.ref no) :: flmB i j z (flmM f0 D rb ra bhi blo ahi alo)) H (("i",.int (i':Nat)) :: ("newj2len",.ref dn) :: ("j2lenget",.ref g) :: ("nothing",.ref no) :: flmB i j z (flmM f0 D rb ra bhi blo ahi alo)) H:=less_m LessM.k
theorem ln7:Less (("k",v) :: ("j",u) :: ("i",.int (i':Nat)) :: ("newj2len",.ref dn) :: ("j2lenget",.ref g) :: ("nothing",.ref no) :: flmB i j z (flmM f0 D rb ra bhi blo ahi alo)) H (("i",.int (i':Nat)) :: ("newj2len",.ref dn) :: ("j2lenget",.ref g) :: ("nothing",.ref no) :: flmB i j z (flmM f0 D rb ra bhi blo ahi alo)) H:=less_m LessM.k
theorem ln8 {a b d:Nat}:Less (("besti",.int (a:Nat)) :: ("bestj",.int (b:Nat)) :: ("bestsize",.int (d:Nat)) :: ("k",v) :: ("j",u) :: ("i",.int (i':Nat)) :: ("newj2len",.ref dn) :: ("j2lenget",.ref g) :: ("nothing",.ref no) :: flmB i j z (flmM f0 D rb ra bhi blo ahi alo)) H (("i",.int (i':Nat)) :: ("newj2len",.ref dn) :: ("j2lenget",.ref g) :: ("nothing",.ref no) :: flmB a b d (flmM f0 D rb ra bhi blo ahi alo)) H:=less_m LessM.k
theorem ln9:Less (("j2len",.ref dn) :: ("newj2len",.ref dn) :: ("nothing",.ref no) :: flmB i j z (flmM f0 D rb ra bhi blo ahi alo)) H (("j2len",.ref dn) :: ("nothing",.ref no) :: flmB i j z (flmM f0 D rb ra bhi blo ahi alo)) H:=less_m LessM.k
theorem ln10:Less (("j2len",.ref dn) :: ("nothing",.ref no) :: flmB i j z (flmM f0 D rb ra bhi blo ahi alo)) H (flmB i j z (flmM f0 D rb ra bhi blo ahi alo)) H:=less_m LessM.k
end
theorem flm_ok (p:Params) (c:Ctx) {k:Nat} (hf:c.fuel = k + 1 + 1) (B:Base c (K06 p)) (hs:c.env.scope = (fdIn (K06 p) 196).scope) {H:Hp} {x d ra rb D S:Addr} {fs:List (Str × V)} {as bs:List Int} {ep:Nat} {es:List (IS × V)} {z:Raw} {ks:List IS} {idx:Int→List Nat} {ah bh:V} {alo ahi blo bhi:Nat}
  (hx:(x,O.inst 242 d)∈H) (hd:(d,O.ns fs)∈H) (ha:fs.lookup ("a":Str) = some (.ref ra)) (hb:fs.lookup ("b":Str) = some (.ref rb)) (hD:fs.lookup ("b2j":Str) = some (.ref D)) (hS:fs.lookup ("bjunk":Str) = some (.ref S))
  (hra:(ra,O.list (as.map .int))∈H) (hrb:(rb,O.list (bs.map .int))∈H) (hes:(D,O.dict ep es)∈H) (hks:(S,O.set z ks)∈H) (hidx:IdxOk H es idx) (hpw:∀ v,(idx v).Pairwise (· < ·)) (hpn:∀ v,(idx v).length≤1000)
  (hah:ah = .int ahi ∨ (ah = .none∧ahi = as.length)) (hbh:bh = .int bhi ∨ (bh = .none∧bhi = bs.length)) (h1:alo≤ahi) (h2:ahi≤as.length) (h3:blo≤bhi) (h4:bhi≤bs.length) (h5:as.length≤1000) (h6:bs.length≤1000)
  :WPs c (bodyIn (fdIn (K06 p) 196)) [("bhi",bh),("blo",.int blo),("ahi",ah),("alo",.int alo),("self",.ref x)] H
   fun f _ H'=>∃ i j k,f = .ret (.tup (some 135) [.int (i:Nat),.int (j:Nat),.int (k:Nat)])∧Less [] H' [] H∧FlmR (flmQ as bs) (flmE as idx alo ahi blo bhi) (flmD bs ks) alo ahi blo bhi i j k:=by
 have hn:=congrArg Scope.names hs
 conv at hn=>rhs; whnf
 refine WPs.cutk fun Q0 hQ0=>?_
 have hC:=cls02 p
 have gl:Glob c "len" (.bi "len"):=B.len hn (by kernel_rfl)
 have gr:Glob c "range" (.ty "range"):=B.range hn (by kernel_rfl)
 have lSe:Lc c "self":=lc_of hn (by kernel_rfl)
 have lI:Lc c "besti":=lc_of hn (by kernel_rfl)
 have lJ:Lc c "bestj":=lc_of hn (by kernel_rfl)
 have lZ:Lc c "bestsize":=lc_of hn (by kernel_rfl)
 have lIs:Lc c "isbjunk":=lc_of hn (by kernel_rfl)
 have lD:Lc c "b2j":=lc_of hn (by kernel_rfl)
 have lB:Lc c "b":=lc_of hn (by kernel_rfl)
 have lA:Lc c "a":=lc_of hn (by kernel_rfl)
 have lBh:Lc c "bhi":=lc_of hn (by kernel_rfl)
 have lBl:Lc c "blo":=lc_of hn (by kernel_rfl)
 have lAh:Lc c "ahi":=lc_of hn (by kernel_rfl)
 have lAl:Lc c "alo":=lc_of hn (by kernel_rfl)
 have lL:Lc c "j2len":=lc_of hn (by kernel_rfl)
 have lNo:Lc c "nothing":=lc_of hn (by kernel_rfl)
 have lNe:Lc c "newj2len":=lc_of hn (by kernel_rfl)
 have lGe:Lc c "j2lenget":=lc_of hn (by kernel_rfl)
 have li:Lc c "i":=lc_of hn (by kernel_rfl)
 have lj:Lc c "j":=lc_of hn (by kernel_rfl)
 have lk:Lc c "k":=lc_of hn (by kernel_rfl)
 have hz:sizeLine = 16777216:=rfl
 have sx:Sees c H x (.inst 242 d):=.mem hx
 have sd:Sees c H d (.ns fs):=.mem hd
 refine s_cons (s1_expr (e_str ?_))
 have ls:List.lookup ("self":Str) [("bhi",bh),("blo",.int blo),("ahi",ah),("alo",.int alo),("self",.ref x)] = some (.ref x):=by with_unfolding_all rfl
 refine s_cons (s1_unpack (e_tuple (items_cons ((Pu.attr B hC sx sd (by kernel_rfl) (.nm lSe ls) ha) _ (items_cons ((Pu.attr B hC sx sd (by kernel_rfl) (.nm lSe ls) hb) _ (items_cons ((Pu.attr B hC sx sd (by kernel_rfl) (.nm lSe ls) hD) _ (items_cons (e_attr ((Pu.attr B hC sx sd (by kernel_rfl) (.nm lSe ls) hS) _ (a_bnd_set (z:=z) (ks:=ks) bnd_set_has (.mem hks) (by decide) fun f0=>items_nil ?_))))))))))))
 refine ⟨[.ref ra,.ref rb,.ref D,.ref f0],rfl,Nat.le_of_ble_eq_true rfl,asg_tuple (asg_name (sto_local lA.1 (asg_name (sto_local lB.1 (asg_name (sto_local lD.1 (asg_name (sto_local lIs.1 ?_))))))))⟩
 show WPs c _ _ _ _
 refine WPs.less ln0 ?_
 have sa:Sees c ((f0,.obj (bndObj "set.__contains__" S)) :: H) ra (.list (as.map .int)):=.mem (mT hra)
 have sb:Sees c ((f0,.obj (bndObj "set.__contains__" S)) :: H) rb (.list (bs.map .int)):=.mem (mT hrb)
 refine s_to (flmN f0 D rb ra bh blo (.int ahi) alo) ((f0,.obj (bndObj "set.__contains__" S)) :: H) ?_ ?_
 ·rcases hah with rfl | ⟨rfl,rfl⟩
  ·exact s1_ifP (.isNone (.nm lAh ln_ah) .int) (fun h=>nomatch h) fun _=>s_nil (Less.refl _ _)
  ·exact s1_ifP (.isNone (.nm lAh ln_ah) .nn) (fun _=>s_cons (s1_assignP lAh (.len gl (.nm lA ln_a) sa (by rw [List.length_map]; exact as1 1 (.l Z0 (.n 1000)) (.l Z0 (.n 1000000)) [_] h5) (hE:=fun _ h=>e_call h)) (s_nil (by rw [List.length_map]; exact ln1)))) fun h=>nomatch h
 refine s_to (flmM f0 D rb ra bhi blo ahi alo) ((f0,.obj (bndObj "set.__contains__" S)) :: H) ?_ ?_
 ·rcases hbh with rfl | ⟨rfl,rfl⟩
  ·exact s1_ifP (.isNone (.nm lBh ln_bh) .int) (fun h=>nomatch h) fun _=>s_nil (Less.refl _ _)
  ·exact s1_ifP (.isNone (.nm lBh ln_bh) .nn) (fun _=>s_cons (s1_assignP lBh (.len gl (.nm lB ln_b) sb (by rw [List.length_map]; exact as1 1 (.l Z0 (.n 1000)) (.l Z0 (.n 1000000)) [_] h6) (hE:=fun _ h=>e_call h)) (s_nil (by rw [List.length_map]; exact ln2)))) fun h=>nomatch h
 refine s_cons (s1_swapP hn (by kernel_rfl) (.nm lAl ln_al) (.nm lBl ln_bl) .one lI lJ lZ ?_)
 refine s_cons (s1_assign (e_dict B fun dj=>sto_local lL.1 ?_))
 refine s_cons (s1_assign (e_list (items_nil ⟨Nat.le_of_ble_eq_true rfl,fun no=>sto_local lNo.1 ?_⟩)))
 refine s_for_range (e_call (e_glob gr (items_cons ((Pu.n lAl) _ (items_cons ((Pu.n lAh) _ (items_nil ⟨keep_ty,k_range2 fun rr=>?_⟩)))))))
 have hE:∀ i j,flmE as idx alo ahi blo bhi i j = true ↔ (alo≤i∧i < ahi∧blo≤j∧j < bhi∧j∈idx (as.getD i 0)):=fun i j=>by rw [winE_iff,decide_eq_true_eq]
 generalize flmE as idx alo ahi blo bhi = E at hE hQ0
 refine ⟨rr,alo,ahi,rfl,.mem mS,in_rng (Nat.le_trans (Nat.le_trans h1 (Nat.le_trans h2 h5)) (by decide)),in_rng (Nat.le_trans (Nat.le_trans h2 h5) (by decide)),fun n m2 H2=>flmI1 E alo blo no (flmM f0 D rb ra bhi blo ahi alo) ((no,.list []) :: (f0,.obj (bndObj "set.__contains__" S)) :: H) (alo + n) m2 H2,?_,?_,?_⟩
 ·refine ⟨dj,0,[],alo,blo,0,RowOk.nil.congr fun j=>?_,(BestTo.start E alo blo).same fun p q=>⟨fun h=>?_,fun h=>h.elim⟩,Less.trans ln3 (Less.trans (Less.heap (.cons _ (.refl _))) Less.swap)⟩
  ·cases alo with
   | zero=>rfl
   | succ a=>
    refine bk_zero (Bool.eq_false_iff.mpr fun h=>?_)
    have:=((hE _ _).mp h).1
    exact as1 1 (.l (.a Z0 N1) Z0) .f [_] this
  ·have:=((hE _ _).mp h.2).1
   exact as2 2 (.t Z0 (.a Z1 (.n 0))) (.l Z1 Z0) .f [_,_] h.1 this
 ·rintro n m2 H2 hn2 ⟨dj,ep1,es1,bi,bj,bz,hrow,hbest,hl⟩
  refine On1.less hl (asg_name ?_)
  have ei:(alo:Int) + n = ((alo + n:Nat):Int):=rfl
  have hi1:alo + n < ahi:=Int.ofNat_lt.mp (show ((alo + n:Nat):Int) < (ahi:Nat) from hn2)
  rw [ei]
  have hi0:alo≤alo + n:=Nat.le_add_right _ _
  refine sto_local li.1 ?_
  refine WPs.cutk fun Q1 hQ1=>?_
  replace hQ1:∀ m H2,flmI1 E alo blo no (flmM f0 D rb ra bhi blo ahi alo) ((no,.list []) :: (f0,.obj (bndObj "set.__contains__" S)) :: H) (alo + n + 1) m H2→Q1 .next m H2:=fun m H2 q=>hQ1 .next m H2 q
  generalize alo + n = i at *
  clear ei hn2
  have hil:i < as.length:=Nat.lt_of_lt_of_le hi1 h2
  refine s_cons (s1_assign (e_attr ((Pu.n lL) _ (a_bnd_dict (ep:=ep1) (es:=es1) bnd_dict_get (.mem mS) (by decide) fun g=>sto_local lGe.1 ?_))))
  refine s_cons (s1_assign (e_dict B fun dn=>sto_local lNe.1 ?_))
  obtain ⟨q,hq,hqs⟩:∃ q,(dictAt es (.i (as.getD i 0))).getD (.ref no) = .ref q∧(q,O.list ((idx (as.getD i 0)).map fun j=>V.int (j:Nat)))∈(no,O.list []) :: (f0,O.obj (bndObj "set.__contains__" S)) :: H:=by
   rcases hidx (as.getD i 0) with ⟨a1,a2⟩ | ⟨q,a1,a2⟩
   ·exact ⟨no,by rw [a1]; rfl,by rw [a2]; exact mS⟩
   ·exact ⟨q,by rw [a1]; rfl,mT (mT a2)⟩
  have hpi:=hpw (as.getD i 0)
  have hpl:=hpn (as.getD i 0)
  have hup:∀ {p1 p2 p3 p4:Addr × O} {a:Addr × O},a∈H→a∈p1 :: p2 :: p3 :: p4 :: (f0,O.obj (bndObj "set.__contains__" S)) :: H:=fun h=>mT (mT (mT (mT (mT h))))
  refine s_for_listJ (e_method ((Pu.n lD) _ ⟨_,_,gm_dict (ep:=ep) (es:=es) (.mem (hup hes)) PySem.F.slot_dict_get PySem.F.type_dict_get,items_cons ((Pu.at (.n lA) (.n li) (.mem (hup hra)) hil h5) _ (items_cons ((Pu.n lNo) _ (items_nil ⟨keep_bi,k_get (ep:=ep) (es:=es) (k:=.i (as.getD i 0)) (.mem (hup hes)) ?_⟩))))⟩))
  rw [hq]
  generalize hps:idx (as.getD i 0) = ps at *
  refine ⟨q,ps.map fun j=>V.int (j:Nat),rfl,flmI2 E alo blo i ps no dn g (flmM f0 D rb ra bhi blo ahi alo) ((g,.obj (bndObj "dict.get" dj)) :: (dj,.dict ep1 es1) :: (no,.list []) :: (f0,.obj (bndObj "set.__contains__" S)) :: H),
   flmJ2 E alo blo i no dn g (flmM f0 D rb ra bhi blo ahi alo) ((g,.obj (bndObj "dict.get" dj)) :: (dj,.dict ep1 es1) :: (no,.list []) :: (f0,.obj (bndObj "set.__contains__" S)) :: H),?_,?_,?_,?_,?_⟩
  ·exact ⟨0,[],bi,bj,bz,RowOk.nil.congr fun j=>rfl,Nat.le_refl _,hbest.same fun p q=>by unfold SeenTo; simp,ln4⟩
  ·rintro t m2 H2 ⟨ep2,es2,bi,bj,bz,a1,a2,a3,l2⟩
   exact Sees.less l2 (mT (mT (mT hqs)))
  ·rintro t v m2 H2 hv ⟨ep2,es2,bi,bj,bz,hr2,hz2,hb2,l2⟩
   obtain ⟨j,hj,rfl⟩:∃ j,ps[t]? = some j∧v = .int (j:Nat):=by
    rw [List.getElem?_map] at hv
    cases q:ps[t]? with
    | none=>rw [q] at hv; cases hv
    | some j=>rw [q] at hv; cases hv; exact ⟨j,rfl,rfl⟩
   refine On1.less l2 (asg_name (sto_local lj.1 ?_))
   clear hl hbest l2 hv
   have htk:ps.take (t + 1) = ps.take t ++ [j]:=by rw [List.take_add_one,hj]; rfl
   have hjm:j∈ps:=List.mem_of_getElem? hj
   refine WPs.cutk fun Q2 hQ2=>?_
   refine s_cons (s1_ifP (.ltN (.n lj) (.n lBl)) (fun hb1=>?_) (fun hb1=>s_nil ?_))
   ·have hb1:=of_decide_eq_true hb1
    have he:E i j = false:=Bool.eq_false_iff.mpr fun h=>absurd hb1 (Nat.not_lt.mpr ((hE i j).mp h).2.2.1)
    refine s_cons (s1_continue (hQ2 .cont _ _ ?_))
    refine ⟨ep2,es2,bi,bj,bz,?_,Nat.le_succ_of_le hz2,?_,ln6⟩
    ·rw [htk]; exact hr2.congr (flmF_skip he)
    ·rw [htk]; exact hb2.same (seen_skip he)
   have hb1:=of_decide_eq_false hb1
   refine s_cons (s1_ifP (.geN (.n lj) (.n lBh)) (fun hb3=>?_) (fun hb3=>s_nil ?_))
   ·have hb3:=of_decide_eq_true hb3
    refine s_cons (s1_break (hQ2 .brk _ _ ?_))
    have hfull:∀ q,E i q = true→q∈ps.take t:=fun q hq=>by
     have:=(hE i q).mp hq
     rw [hps] at this
     rcases pair_drop hpi hj q this.2.2.2.2 with z | z
     ·exact z
     ·exact absurd this.2.2.2.1 (Nat.not_lt.mpr (Nat.le_trans hb3 z))
    exact ⟨ep2,es2,bi,bj,bz,row_full hr2 hfull,best_full hb2 hfull,ln5⟩
   have hb3:=of_decide_eq_false hb3
   have he:E i j = true:=(hE i j).mpr ⟨hi0,hi1,Nat.not_lt.mp hb1,Nat.not_le.mp hb3,by rw [hps]; exact hjm⟩
   obtain ⟨kk,hk1,hk2⟩:=row_step hrow he
   have hk3:(kk:Int) + 1 = ((bk E i j:Nat):Int):=by rw [← hk2]; rfl
   have kget:∀ Q,Q (.int kk) (("j",.int (j:Nat)) :: ("i",.int (i:Nat)) :: ("newj2len",.ref dn) :: ("j2lenget",.ref g) :: ("nothing",.ref no) :: flmB bi bj bz (flmM f0 D rb ra bhi blo ahi alo)) ((dn,.dict ep2 es2) :: (g,.obj (bndObj "dict.get" dj)) :: (dj,.dict ep1 es1) :: (no,.list []) :: (f0,.obj (bndObj "set.__contains__" S)) :: H) →
     Cal c (.ref g) [.int ((j:Int) - 1),.int 0] (("j",.int (j:Nat)) :: ("i",.int (i:Nat)) :: ("newj2len",.ref dn) :: ("j2lenget",.ref g) :: ("nothing",.ref no) :: flmB bi bj bz (flmM f0 D rb ra bhi blo ahi alo)) ((dn,.dict ep2 es2) :: (g,.obj (bndObj "dict.get" dj)) :: (dj,.dict ep1 es1) :: (no,.list []) :: (f0,.obj (bndObj "set.__contains__" S)) :: H) Q:=fun Q h=>
    cal_bnd_get (k:=.i ((j:Int) - 1)) (.mem (mT mS)) (.mem (mT (mT mS))) (by rw [hk1]; exact h)
   refine s_cons (s1_to2 ((Pu.add (.call2 (.n lGe) (.sub (.n lj) .one) .one (keep_bnd (.mem (mT mS))) kget (hE:=fun _ h=>e_call h)) .one) _ ?_))
   rw [hk3]
   refine asg_name (sto_local lk.1 (asg_sub ((Pu.n lNe) _ ((Pu.n lj) _ ?_))))
   refine seti_dict (d:=dn) (ep:=ep2) (es:=es2) (k:=.i j) (.head _) (fun ep3=>?_) (Nat.le_trans hz2 (Nat.le_trans (Nat.le_of_lt (List.getElem?_eq_some_iff.mp hj).1) (Nat.le_trans hpl (by decide))))
   have hrow3:RowOk (dictPut es2 (.i j) (.int (bk E i j:Nat))) (flmF E i (ps.take (t + 1))):=by
    rw [htk]; exact hr2.put (flmF_snoc E i _ j)
   have hlen3:(dictPut es2 (.i j) (.int (bk E i j:Nat))).length≤t + 1:=Nat.le_trans dictPut_len (Nat.succ_le_succ hz2)
   have hseen:∀ p q,SeenTo E i (ps.take (t + 1)) p q ↔ (SeenTo E i (ps.take t) p q ∨ (p = i∧q = j)):=by rw [htk]; exact seen_snoc he
   show WPs c _ _ _ _
   refine s_cons (s1_ifP (.gtN (.n lk) (.n lZ)) (fun hb4=>?_) (fun hb4=>?_))
   ·obtain ⟨hk4,hk5,_⟩:=bk_run E i j
    have x1:(i:Int) - (bk E i j:Nat) + 1 = ((i + 1 - bk E i j:Nat):Int):=beg_cast hk4
    have x2:(j:Int) - (bk E i j:Nat) + 1 = ((j + 1 - bk E i j:Nat):Int):=beg_cast hk5
    refine s_cons (s1_swapP hn (by kernel_rfl) (.add (.sub (.n li) (.n lk)) .one) (.add (.sub (.n lj) (.n lk)) .one) (.n lk) lI lJ lZ (s_nil (s_nil (hQ2 .next _ _ ?_))))
    rw [x1,x2]
    exact ⟨ep3,_,_,_,_,hrow3,hlen3,(hb2.grow (of_decide_eq_true hb4)).same hseen,ln8⟩
   ·refine s_nil (s_nil (hQ2 .next _ _ ?_))
    exact ⟨ep3,_,_,_,_,hrow3,hlen3,(hb2.keep (Nat.not_lt.mp (of_decide_eq_false hb4)) (fun p q h=>seen_lex (pair_take hpi hj) h)).same hseen,ln7⟩
  ·rintro m2 H2 ⟨ep2,es2,bi,bj,bz,hr2,hz2,hb2,l2⟩
   rw [List.length_map,List.take_length] at hr2 hb2
   have hfull:∀ q,E i q = true→q∈ps:=fun q hq=>hps ▸ ((hE i q).mp hq).2.2.2.2
   exact ⟨ep2,es2,bi,bj,bz,row_full hr2 hfull,best_full hb2 hfull,Less.trans l2 ln5b⟩
  ·rintro m2 H2 ⟨ep2,es2,bi,bj,bz,hr2,hb2,l2⟩
   refine WPs.less l2 ?_
   exact s_cons (s1_assignP lL (.n lNe) (s_nil (hQ1 _ _ ⟨dn,ep2,es2,bi,bj,bz,hr2,hb2,Less.trans ln9 (Less.heap (.cons_cons _ (.cons _ (.cons _ (.refl _)))))⟩)))
 ·rintro m2 H2 ⟨dj,ep1,es1,bi,bj,bz,_,hbest,hl⟩
  have hx:alo + ((ahi:Int) - alo).toNat = ahi:=in_to h1
  rw [hx] at hbest
  have hbest:BestTo E alo blo (fun p q=>E p q = true) bi bj bz:=hbest.same fun p q=>⟨fun h=>⟨((hE p q).mp h).2.1,h⟩,fun h=>h.2⟩
  have hbj:bi + bz≤ahi∧bj + bz≤bhi∧alo≤bi∧blo≤bj:=by
   rcases Nat.eq_zero_or_pos bz with z | z
   ·obtain ⟨rfl,rfl⟩:=hbest.zero z; exact as3 6 (.e Z0 (.n 0)) (.e (.a Z1 Z2) Z3) (.l Z4 Z5) (.an (.l (.a Z1 Z0) Z3) (.an (.l (.a Z4 Z0) Z5) (.an (.l Z1 Z1) (.l Z4 Z4)))) [_,_,_,_,_,_] z hx h3
   ·have a1:=(hE _ _).mp (hbest.run 0 z)
    have a2:=(hE _ _).mp (hbest.seen z)
    exact as4 7 (.l Z0 (.a Z1 (.n 0))) (.l Z2 (.a Z3 (.n 0))) (.t (.s (.a Z1 Z4) N1) Z5) (.t (.s (.a Z3 Z4) N1) Z6) (.an (.l (.a Z1 Z4) Z5) (.an (.l (.a Z3 Z4) Z6) (.an (.l Z0 Z1) (.l Z2 Z3)))) [_,_,_,_,_,_,_] a1.1 a1.2.2.1 a2.2.1 a2.2.2.2.1
  clear hE
  refine WPs.less (Less.trans hl (Less.trans ln10 (Less.heap (.cons _ (.cons _ (.refl _)))))) ?_
  exact flm_tail p c hf B hs hra hrb hks hbest hbj h2 h4 h5 h6 hQ0
noncomputable def NotSame (ra:Addr) (ua:At) (H:Hp):Prop:=∀ (c:Ctx) (m:Lo) (H':Hp) (Q:V→Lo→Hp→Prop),(∀ q∈H,q∈H')→Q (.bool false) m H'→Cmp c .Is (.ref ra) (.at ua) m H' Q
theorem NotSame.at {ra:Addr} {ua:At} {H:Hp} (h:IsAt (.ref ra) ua false):NotSame ra ua H:=fun c m H' Q _ q=>c_is h q
theorem NotSame.lists {ra rb:Addr} {xs ys:List V} {H:Hp} (h1:(ra,O.list xs)∈H) (h2:(rb,O.list ys)∈H) (hne:ra≠rb):NotSame ra (.ref rb) H:=fun c m H' Q sub q s va vb R r1 r2=>by
 cases (r1:va = _); cases (r2:vb = _)
 obtain ⟨i1,n1,l1,_⟩:=O.list_get (R.obj _ _ (sub _ h1))
 obtain ⟨i2,n2,l2,_⟩:=O.list_get (R.obj _ _ (sub _ h2))
 refine .val R q fun P k=>?_
 show c.wp (do return .bool (← isSame (.ref ra) (.ref rb))) P s
 exact wpAny_bind (wpAny_isSame_ref_other hne l1 l2 (show Value.type "list"≠Value.type "tuple" by decide) (wpAny_pure (k _ s.toks rfl)))
section
variable {c:Ctx} {m:Lo} {H:Hp} {Q:V→Lo→Hp→Prop}
theorem Cal.nodup {f:V} {vs:List V} (h:(dom H).Nodup→Cal c f vs m H Q):Cal c f vs m H Q:=fun s vf vvs R=>h R.nd s vf vvs R
theorem nd_ne {a b:Addr} {o o':O} {H:Hp} (nd:(dom ((a,o) :: H)).Nodup) (h:(b,o')∈H):a≠b:=fun e=>by
 have:a∉dom H:=(List.nodup_cons.mp nd).1
 exact this (e ▸ List.mem_map.mpr ⟨_,h,rfl⟩)
end
noncomputable def JunkIn (c:Ctx) (k:Nat) (J:V) (jk:IS→Bool) (W:Hp):Prop:=∀ c2:Ctx,c2.fuel = k→c2.prog = c.prog→c2.w = c.w→(∀ P,c.Knows P→c2.Knows P)→JunkOk c2 J jk W
theorem JunkIn.called {c c2:Ctx} {k:Nat} {J:V} {jk:IS→Bool} {W:Hp} {fd:FuncData} {L:Addr} (h:JunkIn c k J jk W) (hc:Called c fd L c2):JunkIn c2 k J jk W:=
 fun c3 e1 e2 e3 e4=>h c3 e1 (e2.trans hc.prog) (e3.trans hc.w) fun P q=>e4 P (hc.knows P q)
theorem JunkIn.made {c c2:Ctx} {k:Nat} {J:V} {jk:IS→Bool} {W:Hp} (h:JunkIn c k J jk W) (hc:Made c c2):JunkIn c2 k J jk W:=
 fun c3 e1 e2 e3 e4=>h c3 e1 (e2.trans hc.prog) (e3.trans hc.w) fun P q=>e4 P (fun h hh=>q h (fun b o e=>hh b o (hc.G ▸ e)))
theorem seq1_ok (p:Params) (c:Ctx) (B:Base c (K06 p)) (hs:c.env.scope = (fdIn (K06 p) 174).scope) {H:Hp} {x d ra:Addr} {fs:List (Str × V)} {ua:At} (hfa:fs.lookup ("a":Str) = some (.at ua)) (hua:(V.at ua).notBi = true) (hne:NotSame ra ua H) (hz:fs.length≤100)
  :WPs c (bodyIn (fdIn (K06 p) 174)) [("a",.ref ra),("self",.ref x)] ((x,.inst 242 d) :: (d,.ns fs) :: H)
   fun f _ H'=>f.val = .none∧Less [] H' [] ((x,.inst 242 d) :: (d,.ns (("opcodes",.none) :: ("matching_blocks",.none) :: ("a",.ref ra) :: fs)) :: H):=by
 have hn:=congrArg Scope.names hs
 conv at hn=>rhs; whnf
 have hC:=cls02 p
 refine s_cons (s1_expr ?_)
 with_reducible refine e_str ?_
 with_reducible refine s_if ?_
 refine t_cmp ?_ (by with_unfolding_all rfl)
 refine e_loc (by with_reducible assumption) (by decide +kernel) (Loc.head _) ?_
 refine e_attr ?_
 refine e_loc (by with_reducible assumption) (by decide +kernel) (Loc.tail (by decide) (Loc.head _)) ?_
 refine a_inst B hC (by kernel_rfl) (Sees.mem mS) (Sees.mem (mT mS)) hfa ?_ hua
 refine hne _ _ _ _ (fun q hq=>mT (mT hq)) ?_
 with_reducible refine tru_bool ?_
 refine if_b (fun h=>nomatch h) (fun _=>?_)
 with_reducible refine s_nil ?_
 refine s_cons (s1_to ?_)
 refine e_loc (by with_reducible assumption) (by decide +kernel) (Loc.head _) ?_
 refine asg_attr ?_
 refine e_loc (by with_reducible assumption) (by decide +kernel) (Loc.tail (by decide) (Loc.head _)) ?_
 refine set_inst B hC (by kernel_rfl) (Sees.mem mS) (Upd.tail (Upd.head _)) ?_ (by (exact as1 1 (.l Z0 (.n 100)) (.l Z0 (.n 1000)) [_] hz))
 refine s_cons (s1_to2 ?_)
 with_reducible refine e_none ?_
 refine asg_attr ?_
 refine e_loc (by with_reducible assumption) (by decide +kernel) (Loc.tail (by decide) (Loc.head _)) ?_
 refine set_inst B hC (by kernel_rfl) (Sees.mem mS) (Upd.tail (Upd.head _)) ?_ (by simp; (exact as1 1 (.l Z0 (.n 100)) (.l Z0 (.n 999)) [_] hz))
 refine asg_attr ?_
 refine e_loc (by with_reducible assumption) (by decide +kernel) (Loc.tail (by decide) (Loc.head _)) ?_
 refine set_inst B hC (by kernel_rfl) (Sees.mem mS) (Upd.tail (Upd.head _)) ?_ (by simp; (exact as1 1 (.l Z0 (.n 100)) (.l Z0 (.n 998)) [_] hz))
 refine s_nil ⟨rfl,?_⟩
 exact (less_of LessM.nil (List.Sublist.refl _))
theorem bind1 {fd:FuncData} {ns:List Str} (h:∀ a0,bindArgs fd { pos:=[a0] } = pure (ns.zip [a0])) (l:List Value) (e:l.length = 1):bindArgs fd { pos:=l } = pure (ns.zip l):=by
 obtain ⟨a0,l0,rfl,e0⟩:=len_cons e
 cases List.length_eq_zero_iff.mp e0
 exact h a0
theorem bind2 {fd:FuncData} {ns:List Str} (h:∀ a0 a1,bindArgs fd { pos:=[a0,a1] } = pure (ns.zip [a0,a1])) (l:List Value) (e:l.length = 2):bindArgs fd { pos:=l } = pure (ns.zip l):=by
 obtain ⟨a0,l0,rfl,e0⟩:=len_cons e
 obtain ⟨a1,l1,rfl,e1⟩:=len_cons e0
 cases List.length_eq_zero_iff.mp e1
 exact h a0 a1
theorem bind3 {fd:FuncData} {ns:List Str} (h:∀ a0 a1 a2,bindArgs fd { pos:=[a0,a1,a2] } = pure (ns.zip [a0,a1,a2])) (l:List Value) (e:l.length = 3):bindArgs fd { pos:=l } = pure (ns.zip l):=by
 obtain ⟨a0,l0,rfl,e0⟩:=len_cons e
 obtain ⟨a1,l1,rfl,e1⟩:=len_cons e0
 obtain ⟨a2,l2,rfl,e2⟩:=len_cons e1
 cases List.length_eq_zero_iff.mp e2
 exact h a0 a1 a2
theorem vals4 {P:List Value→Prop} (h:∀ a0 a1 a2 a3,P [a0,a1,a2,a3]) (l:List Value) (e:l.length = 4):P l:=by
 obtain ⟨a0,l0,rfl,e0⟩:=len_cons e
 obtain ⟨a1,l1,rfl,e1⟩:=len_cons e0
 obtain ⟨a2,l2,rfl,e2⟩:=len_cons e1
 obtain ⟨a3,l3,rfl,e3⟩:=len_cons e2
 cases List.length_eq_zero_iff.mp e3
 exact h a0 a1 a2 a3
theorem vals5 {P:List Value→Prop} (h:∀ a0 a1 a2 a3 a4,P [a0,a1,a2,a3,a4]) (l:List Value) (e:l.length = 5):P l:=by
 obtain ⟨a0,l0,rfl,e0⟩:=len_cons e
 obtain ⟨a1,l1,rfl,e1⟩:=len_cons e0
 obtain ⟨a2,l2,rfl,e2⟩:=len_cons e1
 obtain ⟨a3,l3,rfl,e3⟩:=len_cons e2
 obtain ⟨a4,l4,rfl,e4⟩:=len_cons e3
 cases List.length_eq_zero_iff.mp e4
 exact h a0 a1 a2 a3 a4
theorem chain_cal (p:Params) {c:Ctx} {k:Nat} (hf:c.fuel = k + 1) (B:Base c (K06 p)) {m:Lo} {Q:V→Lo→Hp→Prop} {H:Hp} {x d rb:Addr} {fs:List (Str × V)} {bs:List IS} {J:V} {on:Bool} (hfb:fs.lookup ("b":Str) = some (.ref rb)) (hfj:fs.lookup ("isjunk":Str) = some J) (hfa:fs.lookup ("autojunk":Str) = some (.bool on)) (hJb:J.notBi = true) {jk:IS→Bool} {W:Hp} (hJ:JunkIn c k J jk W) (hW:∀ p∈W,p∈H) (hrb:(rb,O.list (bs.map IS.v))∈H) (hfz:fs.length≤100) (hbz:bs.length≤1000)
  (h:∀ D S S2 z1 z2 ep G,gP G = grp bs→Q .none m ((S2,.set z2 (((G.filter fun e=>!jk e.1).filter (chPop bs.length on)).map (·.1))) :: (S,.set z1 ((G.map (·.1)).filter jk)) :: (D,.dict ep (gD ((G.filter fun e=>!jk e.1).filter fun e=>!chPop bs.length on e))) :: (x,.inst 242 d) :: (d,.ns (("bpopular",.ref S2) :: ("bjunk",.ref S) :: ("b2j",.ref D) :: fs)) :: (gL G ++ H))) :
  CalC c (.ref 188) [.ref x] m ((x,.inst 242 d) :: (d,.ns fs) :: H) Q:=by
 refine cal_K (fd:=fdIn (K06 p) 188) (bs:=List.zip [("self":Str)] [V.ref x]) B hf (fnOk_of (by kernel_rfl)) (by kernel_rfl) (by kernel_rfl) (fun s vvs X r=>binds_plain rfl (fun vvs hl=>?_) s vvs X r) fun L c2 hc hk B2=>?_
 ·exact bind1 (fun v0=>by kernel_rfl) vvs hl
 ·have e1:locOf (fdIn (K06 p) 188).scope.names (List.zip [("self":Str)] [V.ref x]) = [(("self":Str),V.ref x)]:=by kernel_rfl
  have e2:cellsAt L (fdIn (K06 p) 188) (List.zip [("self":Str)] [V.ref x]) = []:=by kernel_rfl
  rw [e1,e2]
  refine WPs.post (WPs.mono (chain_ok p c2 B2 hc.scope hfb hfj hfa hJb (hJ c2 hk hc.prog hc.w hc.knows) hW hrb hfz hbz) ?_)
  rintro f m' H' ⟨hv,D,S,S2,z1,z2,ep,G,hG,hl⟩
  refine ⟨[],_,⟨(fun _ _ e=>nomatch e),hl.2⟩,?_⟩
  rw [hv]
  exact h D S S2 z1 z2 ep G hG
theorem seq1_cal (p:Params) {c:Ctx} {k:Nat} (hf:c.fuel = k + 1) (B:Base c (K06 p)) {m:Lo} {Q:V→Lo→Hp→Prop} {H:Hp} {x d ra:Addr} {fs:List (Str × V)} {ua:At} (hfa:fs.lookup ("a":Str) = some (.at ua)) (hua:(V.at ua).notBi = true) (hne:NotSame ra ua H) (hz:fs.length≤100)
  (h:Q .none m ((x,.inst 242 d) :: (d,.ns (("opcodes",.none) :: ("matching_blocks",.none) :: ("a",.ref ra) :: fs)) :: H)):CalC c (.ref 174) [.ref x,.ref ra] m ((x,.inst 242 d) :: (d,.ns fs) :: H) Q:=by
 refine cal_K (fd:=fdIn (K06 p) 174) (bs:=List.zip [("self":Str),"a"] [V.ref x,V.ref ra]) B hf (fnOk_of (by kernel_rfl)) (by kernel_rfl) (by kernel_rfl) (fun s vvs X r=>binds_plain rfl (fun vvs hl=>?_) s vvs X r) fun L c2 hc hk B2=>?_
 ·exact bind2 (fun v0 v1=>by kernel_rfl) vvs hl
 ·have e1:locOf (fdIn (K06 p) 174).scope.names (List.zip [("self":Str),"a"] [V.ref x,V.ref ra]) = [(("a":Str),V.ref ra),("self",V.ref x)]:=by kernel_rfl
  have e2:cellsAt L (fdIn (K06 p) 174) (List.zip [("self":Str),"a"] [V.ref x,V.ref ra]) = []:=by kernel_rfl
  rw [e1,e2]
  refine WPs.post (WPs.mono (seq1_ok p c2 B2 hc.scope hfa hua hne hz) ?_)
  rintro f m' H' ⟨hv,hl⟩
  refine ⟨[],_,⟨(fun _ _ e=>nomatch e),hl.2⟩,?_⟩
  rw [hv]
  exact h
theorem seq2_ok (p:Params) (c:Ctx) {k:Nat} (hf:c.fuel = k + 1) (B:Base c (K06 p)) (hs:c.env.scope = (fdIn (K06 p) 181).scope) {H:Hp} {x d rb:Addr} {fs:List (Str × V)} {ub:At} (hfb:fs.lookup ("b":Str) = some (.at ub)) (hub:(V.at ub).notBi = true) (hne:NotSame rb ub H)
  {bs:List IS} {J:V} {on:Bool} (hfj:fs.lookup ("isjunk":Str) = some J) (hfa:fs.lookup ("autojunk":Str) = some (.bool on)) (hJb:J.notBi = true) {jk:IS→Bool} {W:Hp} (hJ:JunkIn c k J jk W) (hW:∀ p∈W,p∈H) (hrb:(rb,O.list (bs.map IS.v))∈H) (hfc:fs.lookup ("_SequenceMatcher__chain_b":Str) = .none) (hz:fs.length≤90) (hbz:bs.length≤1000)
  :WPs c (bodyIn (fdIn (K06 p) 181)) [("b",.ref rb),("self",.ref x)] ((x,.inst 242 d) :: (d,.ns fs) :: H)
   fun f _ H'=>f.val = .none∧∃ D S S2 z1 z2 ep G,gP G = grp bs∧Less [] H' [] ((S2,.set z2 (((G.filter fun e=>!jk e.1).filter (chPop bs.length on)).map (·.1))) :: (S,.set z1 ((G.map (·.1)).filter jk)) :: (D,.dict ep (gD ((G.filter fun e=>!jk e.1).filter fun e=>!chPop bs.length on e))) :: (x,.inst 242 d) :: (d,.ns (("bpopular",.ref S2) :: ("bjunk",.ref S) :: ("b2j",.ref D) :: ("fullbcount",.none) :: ("opcodes",.none) :: ("matching_blocks",.none) :: ("b",.ref rb) :: fs)) :: (gL G ++ H)):=by
 have hn:=congrArg Scope.names hs
 conv at hn=>rhs; whnf
 have hC:=cls02 p
 refine s_cons (s1_expr ?_)
 with_reducible refine e_str ?_
 with_reducible refine s_if ?_
 refine t_cmp ?_ (by with_unfolding_all rfl)
 refine e_loc (by with_reducible assumption) (by decide +kernel) (Loc.head _) ?_
 refine e_attr ?_
 refine e_loc (by with_reducible assumption) (by decide +kernel) (Loc.tail (by decide) (Loc.head _)) ?_
 refine a_inst B hC (by kernel_rfl) (Sees.mem mS) (Sees.mem (mT mS)) hfb ?_ hub
 refine hne _ _ _ _ (fun q hq=>mT (mT hq)) ?_
 with_reducible refine tru_bool ?_
 refine if_b (fun h=>nomatch h) (fun _=>?_)
 with_reducible refine s_nil ?_
 refine s_cons (s1_to ?_)
 refine e_loc (by with_reducible assumption) (by decide +kernel) (Loc.head _) ?_
 refine asg_attr ?_
 refine e_loc (by with_reducible assumption) (by decide +kernel) (Loc.tail (by decide) (Loc.head _)) ?_
 refine set_inst B hC (by kernel_rfl) (Sees.mem mS) (Upd.tail (Upd.head _)) ?_ (by (exact as1 1 (.l Z0 (.n 90)) (.l Z0 (.n 1000)) [_] hz))
 refine s_cons (s1_to2 ?_)
 with_reducible refine e_none ?_
 refine asg_attr ?_
 refine e_loc (by with_reducible assumption) (by decide +kernel) (Loc.tail (by decide) (Loc.head _)) ?_
 refine set_inst B hC (by kernel_rfl) (Sees.mem mS) (Upd.tail (Upd.head _)) ?_ (by simp; (exact as1 1 (.l Z0 (.n 90)) (.l Z0 (.n 999)) [_] hz))
 refine asg_attr ?_
 refine e_loc (by with_reducible assumption) (by decide +kernel) (Loc.tail (by decide) (Loc.head _)) ?_
 refine set_inst B hC (by kernel_rfl) (Sees.mem mS) (Upd.tail (Upd.head _)) ?_ (by simp; (exact as1 1 (.l Z0 (.n 90)) (.l Z0 (.n 998)) [_] hz))
 refine s_cons (s1_to ?_)
 with_reducible refine e_none ?_
 refine asg_attr ?_
 refine e_loc (by with_reducible assumption) (by decide +kernel) (Loc.tail (by decide) (Loc.head _)) ?_
 refine set_inst B hC (by kernel_rfl) (Sees.mem mS) (Upd.tail (Upd.head _)) ?_ (by simp; (exact as1 1 (.l Z0 (.n 90)) (.l Z0 (.n 997)) [_] hz))
 ((with_reducible refine s_cons ?_); refine s1_expr ?_)
 refine e_method ?_
 refine e_loc (by with_reducible assumption) (by decide +kernel) (Loc.tail (by decide) (Loc.head _)) ?_
 refine ⟨_,_,gm_inst (K:=K06 p) (C:=242) (f:=188) B hC (by kernel_rfl) (by kernel_rfl) (Sees.mem mS) (Sees.mem (mT mS)) ?_,?_⟩
 ·rw [look_skip (by decide),look_skip (by decide),look_skip (by decide),look_skip (by decide)]; exact hfc
 with_reducible refine items_nil ?_
 refine ⟨keep_K B (by kernel_rfl),CalC.cal (chain_cal p hf B (on:=on) (fs:=("fullbcount",.none) :: ("opcodes",.none) :: ("matching_blocks",.none) :: ("b",.ref rb) :: fs) rfl ?_ ?_ hJb hJ hW hrb (by simp; (exact as1 1 (.l Z0 (.n 90)) (.l Z0 (.n 96)) [_] hz)) hbz ?_)⟩
 ·rw [look_skip (by decide),look_skip (by decide),look_skip (by decide),look_skip (by decide)]; exact hfj
 ·rw [look_skip (by decide),look_skip (by decide),look_skip (by decide),look_skip (by decide)]; exact hfa
 intro D S S2 z1 z2 ep G hG
 with_reducible refine s_nil ?_
 exact ⟨rfl,D,S,S2,z1,z2,ep,G,hG,by exact (less_of LessM.nil (List.Sublist.refl _))⟩
theorem seq2_cal (p:Params) {c:Ctx} {k:Nat} (hf:c.fuel = k + 1 + 1) (B:Base c (K06 p)) {m:Lo} {Q:V→Lo→Hp→Prop} {H:Hp} {x d rb:Addr} {fs:List (Str × V)} {ub:At} (hfb:fs.lookup ("b":Str) = some (.at ub)) (hub:(V.at ub).notBi = true) (hne:NotSame rb ub H)
  {bs:List IS} {J:V} {on:Bool} (hfj:fs.lookup ("isjunk":Str) = some J) (hfa:fs.lookup ("autojunk":Str) = some (.bool on)) (hJb:J.notBi = true) {jk:IS→Bool} {W:Hp} (hJ:JunkIn c k J jk W) (hW:∀ p∈W,p∈H) (hrb:(rb,O.list (bs.map IS.v))∈H) (hfc:fs.lookup ("_SequenceMatcher__chain_b":Str) = .none) (hz:fs.length≤90) (hbz:bs.length≤1000)
  (h:∀ D S S2 z1 z2 ep G,gP G = grp bs→Q .none m ((S2,.set z2 (((G.filter fun e=>!jk e.1).filter (chPop bs.length on)).map (·.1))) :: (S,.set z1 ((G.map (·.1)).filter jk)) :: (D,.dict ep (gD ((G.filter fun e=>!jk e.1).filter fun e=>!chPop bs.length on e))) :: (x,.inst 242 d) :: (d,.ns (("bpopular",.ref S2) :: ("bjunk",.ref S) :: ("b2j",.ref D) :: ("fullbcount",.none) :: ("opcodes",.none) :: ("matching_blocks",.none) :: ("b",.ref rb) :: fs)) :: (gL G ++ H))):CalC c (.ref 181) [.ref x,.ref rb] m ((x,.inst 242 d) :: (d,.ns fs) :: H) Q:=by
 refine cal_K (fd:=fdIn (K06 p) 181) (bs:=List.zip [("self":Str),"b"] [V.ref x,V.ref rb]) B hf (fnOk_of (by kernel_rfl)) (by kernel_rfl) (by kernel_rfl) (fun s vvs X r=>binds_plain rfl (fun vvs hl=>?_) s vvs X r) fun L c2 hc hk B2=>?_
 ·exact bind2 (fun v0 v1=>by kernel_rfl) vvs hl
 ·have e1:locOf (fdIn (K06 p) 181).scope.names (List.zip [("self":Str),"b"] [V.ref x,V.ref rb]) = [(("b":Str),V.ref rb),("self",V.ref x)]:=by kernel_rfl
  have e2:cellsAt L (fdIn (K06 p) 181) (List.zip [("self":Str),"b"] [V.ref x,V.ref rb]) = []:=by kernel_rfl
  rw [e1,e2]
  refine WPs.post (WPs.mono (seq2_ok p c2 hk B2 hc.scope hfb hub hne hfj hfa hJb (hJ.called hc) hW hrb hfc hz hbz) ?_)
  rintro f m' H' ⟨hv,D,S,S2,z1,z2,ep,G,hG,hl⟩
  refine ⟨[],_,⟨(fun _ _ e=>nomatch e),hl.2⟩,?_⟩
  rw [hv]
  exact h D S S2 z1 z2 ep G hG
noncomputable abbrev fs0 (J:V) (on:Bool):List (Str × V):=[("autojunk",.bool on),("b",.none),("a",.none),("isjunk",J)]
noncomputable abbrev fsA (J:V) (on:Bool) (ra:Addr):List (Str × V):=("opcodes",.none) :: ("matching_blocks",.none) :: ("a",.ref ra) :: fs0 J on
noncomputable abbrev fsB (J:V) (on:Bool) (ra rb D S S2:Addr):List (Str × V):=("bpopular",.ref S2) :: ("bjunk",.ref S) :: ("b2j",.ref D) :: ("fullbcount",.none) :: ("opcodes",.none) :: ("matching_blocks",.none) :: ("b",.ref rb) :: fsA J on ra
noncomputable abbrev mkH (x d ra rb D S S2:Addr) (z1 z2:Raw) (ep:Nat) (G:GL) (bs:List IS) (J:V) (jk:IS→Bool) (on:Bool) (H:Hp):Hp:=
 (S2,.set z2 (((G.filter fun e=>!jk e.1).filter (chPop bs.length on)).map (·.1))) :: (S,.set z1 ((G.map (·.1)).filter jk)) :: (D,.dict ep (gD ((G.filter fun e=>!jk e.1).filter fun e=>!chPop bs.length on e))) :: (x,.inst 242 d) :: (d,.ns (fsB J on ra rb D S S2)) :: (gL G ++ H)
theorem seqs_ok (p:Params) (c:Ctx) {k:Nat} (hf:c.fuel = k + 1 + 1) (B:Base c (K06 p)) (hs:c.env.scope = (fdIn (K06 p) 167).scope) {H:Hp} {x d ra rb:Addr} {bs:List IS} {J:V} {on:Bool} (hJb:J.notBi = true) {jk:IS→Bool} {W:Hp} (hJ:JunkIn c k J jk W) (hW:∀ p∈W,p∈H) (hrb:(rb,O.list (bs.map IS.v))∈H) (hbz:bs.length≤1000)
  :WPs c (bodyIn (fdIn (K06 p) 167)) [("b",.ref rb),("a",.ref ra),("self",.ref x)] ((x,.inst 242 d) :: (d,.ns (fs0 J on)) :: H)
   fun f _ H'=>f.val = .none∧∃ D S S2 z1 z2 ep G,gP G = grp bs∧Less [] H' [] (mkH x d ra rb D S S2 z1 z2 ep G bs J jk on H):=by
 have hn:=congrArg Scope.names hs
 conv at hn=>rhs; whnf
 have hC:=cls02 p
 refine s_cons (s1_expr ?_)
 with_reducible refine e_str ?_
 ((with_reducible refine s_cons ?_); refine s1_expr ?_)
 refine e_method ?_
 refine e_loc (by with_reducible assumption) (by decide +kernel) (Loc.tail (by decide) (Loc.tail (by decide) (Loc.head _))) ?_
 refine ⟨_,_,gm_inst (K:=K06 p) (C:=242) (f:=174) B hC (by kernel_rfl) (by kernel_rfl) (Sees.mem mS) (Sees.mem (mT mS)) rfl,?_⟩
 refine items_cons ?_
 refine e_loc (by with_reducible assumption) (by decide +kernel) (Loc.tail (by decide) (Loc.head _)) ?_
 with_reducible refine items_nil ?_
 refine ⟨keep_K B (by kernel_rfl),CalC.cal (seq1_cal p hf B (fs:=fs0 J on) (ua:=.none) rfl rfl (.at .ref) (by simp) ?_)⟩
 ((with_reducible refine s_cons ?_); refine s1_expr ?_)
 refine e_method ?_
 refine e_loc (by with_reducible assumption) (by decide +kernel) (Loc.tail (by decide) (Loc.tail (by decide) (Loc.head _))) ?_
 refine ⟨_,_,gm_inst (K:=K06 p) (C:=242) (f:=181) B hC (by kernel_rfl) (by kernel_rfl) (Sees.mem mS) (Sees.mem (mT mS)) rfl,?_⟩
 refine items_cons ?_
 refine e_loc (by with_reducible assumption) (by decide +kernel) (Loc.head _) ?_
 with_reducible refine items_nil ?_
 refine ⟨keep_K B (by kernel_rfl),CalC.cal (seq2_cal p hf B (on:=on) (fs:=fsA J on ra) (ub:=.none) rfl rfl (.at .ref) rfl rfl hJb hJ hW hrb rfl (by simp) hbz ?_)⟩
 intro D S S2 z1 z2 ep G hG
 with_reducible refine s_nil ?_
 exact ⟨rfl,D,S,S2,z1,z2,ep,G,hG,by exact (less_of LessM.nil (List.Sublist.refl _))⟩
theorem seqs_cal (p:Params) {c:Ctx} {k:Nat} (hf:c.fuel = k + 1 + 1 + 1) (B:Base c (K06 p)) {m:Lo} {Q:V→Lo→Hp→Prop} {H:Hp} {x d ra rb:Addr}
  {bs:List IS} {J:V} {on:Bool} (hJb:J.notBi = true) {jk:IS→Bool} {W:Hp} (hJ:JunkIn c k J jk W) (hW:∀ p∈W,p∈H) (hrb:(rb,O.list (bs.map IS.v))∈H) (hbz:bs.length≤1000)
  (h:∀ D S S2 z1 z2 ep G,gP G = grp bs→Q .none m (mkH x d ra rb D S S2 z1 z2 ep G bs J jk on H)):CalC c (.ref 167) [.ref x,.ref ra,.ref rb] m ((x,.inst 242 d) :: (d,.ns (fs0 J on)) :: H) Q:=by
 refine cal_K (fd:=fdIn (K06 p) 167) (bs:=List.zip [("self":Str),"a","b"] [V.ref x,V.ref ra,V.ref rb]) B hf (fnOk_of (by kernel_rfl)) (by kernel_rfl) (by kernel_rfl) (fun s vvs X r=>binds_plain rfl (fun vvs hl=>?_) s vvs X r) fun L c2 hc hk B2=>?_
 ·exact bind3 (fun v0 v1 v2=>by kernel_rfl) vvs hl
 ·have e1:locOf (fdIn (K06 p) 167).scope.names (List.zip [("self":Str),"a","b"] [V.ref x,V.ref ra,V.ref rb]) = [(("b":Str),V.ref rb),("a",V.ref ra),("self",V.ref x)]:=by kernel_rfl
  have e2:cellsAt L (fdIn (K06 p) 167) (List.zip [("self":Str),"a","b"] [V.ref x,V.ref ra,V.ref rb]) = []:=by kernel_rfl
  rw [e1,e2]
  refine WPs.post (WPs.mono (seqs_ok p c2 hk B2 hc.scope hJb (hJ.called hc) hW hrb hbz) ?_)
  rintro f m' H' ⟨hv,D,S,S2,z1,z2,ep,G,hG,hl⟩
  refine ⟨[],_,⟨(fun _ _ e=>nomatch e),hl.2⟩,?_⟩
  rw [hv]
  exact h D S S2 z1 z2 ep G hG
theorem init_ok (p:Params) (c:Ctx) {k:Nat} (hf:c.fuel = k + 1 + 1 + 1) (B:Base c (K06 p)) (hs:c.env.scope = (fdIn (K06 p) 160).scope) {H:Hp} {x d ra rb:Addr} {bs:List IS} {J:V} {on:Bool} (hJb:J.notBi = true) {jk:IS→Bool} {W:Hp} (hJ:JunkIn c k J jk W) (hW:∀ p∈W,p∈H) (hrb:(rb,O.list (bs.map IS.v))∈H) (hbz:bs.length≤1000)
  :WPs c (bodyIn (fdIn (K06 p) 160)) [("autojunk",.bool on),("b",.ref rb),("a",.ref ra),("isjunk",J),("self",.ref x)] ((x,.inst 242 d) :: (d,.ns []) :: H)
   fun f _ H'=>f.val = .none∧∃ D S S2 z1 z2 ep G,gP G = grp bs∧Less [] H' [] (mkH x d ra rb D S S2 z1 z2 ep G bs J jk on H):=by
 have hn:=congrArg Scope.names hs
 conv at hn=>rhs; whnf
 have hC:=cls02 p
 refine s_cons (s1_expr ?_)
 with_reducible refine e_str ?_
 refine s_cons (s1_to ?_)
 refine e_loc (by with_reducible assumption) (by decide +kernel) (Loc.tail (by decide) (Loc.tail (by decide) (Loc.tail (by decide) (Loc.head _)))) ?_
 refine asg_attr ?_
 refine e_loc (by with_reducible assumption) (by decide +kernel) (Loc.tail (by decide) (Loc.tail (by decide) (Loc.tail (by decide) (Loc.tail (by decide) (Loc.head _))))) ?_
 refine set_inst B hC (by kernel_rfl) (Sees.mem mS) (Upd.tail (Upd.head _)) ?_ (by decide)
 refine s_cons (s1_to2 ?_)
 with_reducible refine e_none ?_
 refine asg_attr ?_
 refine e_loc (by with_reducible assumption) (by decide +kernel) (Loc.tail (by decide) (Loc.tail (by decide) (Loc.tail (by decide) (Loc.tail (by decide) (Loc.head _))))) ?_
 refine set_inst B hC (by kernel_rfl) (Sees.mem mS) (Upd.tail (Upd.head _)) ?_ (by simp)
 refine asg_attr ?_
 refine e_loc (by with_reducible assumption) (by decide +kernel) (Loc.tail (by decide) (Loc.tail (by decide) (Loc.tail (by decide) (Loc.tail (by decide) (Loc.head _))))) ?_
 refine set_inst B hC (by kernel_rfl) (Sees.mem mS) (Upd.tail (Upd.head _)) ?_ (by simp)
 refine s_cons (s1_to ?_)
 refine e_loc (by with_reducible assumption) (by decide +kernel) (Loc.head _) ?_
 refine asg_attr ?_
 refine e_loc (by with_reducible assumption) (by decide +kernel) (Loc.tail (by decide) (Loc.tail (by decide) (Loc.tail (by decide) (Loc.tail (by decide) (Loc.head _))))) ?_
 refine set_inst B hC (by kernel_rfl) (Sees.mem mS) (Upd.tail (Upd.head _)) ?_ (by simp)
 refine s_cons (s1_expr ?_)
 refine e_method ?_
 refine e_loc (by with_reducible assumption) (by decide +kernel) (Loc.tail (by decide) (Loc.tail (by decide) (Loc.tail (by decide) (Loc.tail (by decide) (Loc.head _))))) ?_
 refine ⟨_,_,gm_inst (K:=K06 p) (C:=242) (f:=167) B hC (by kernel_rfl) (by kernel_rfl) (Sees.mem mS) (Sees.mem (mT mS)) rfl,?_⟩
 refine items_cons ?_
 refine e_loc (by with_reducible assumption) (by decide +kernel) (Loc.tail (by decide) (Loc.tail (by decide) (Loc.head _))) ?_
 refine items_cons ?_
 refine e_loc (by with_reducible assumption) (by decide +kernel) (Loc.tail (by decide) (Loc.head _)) ?_
 with_reducible refine items_nil ?_
 refine ⟨keep_K B (by kernel_rfl),CalC.cal (seqs_cal p hf B (on:=on) hJb hJ hW hrb hbz ?_)⟩
 intro D S S2 z1 z2 ep G hG
 with_reducible refine s_nil ?_
 exact ⟨rfl,D,S,S2,z1,z2,ep,G,hG,by exact (less_of LessM.nil (List.Sublist.refl _))⟩
theorem dfl_look (p:Params):(K06 p).lookup 153 = some { cls:=Value.type "tuple",data:=Data.seq #[Value.none,Value.str (Str.ofString "") 404,Value.str (Str.ofString "") 405,Value.bool true] 0 }:=by kernel_rfl
noncomputable def initParams:Arguments:=⟨[],[⟨Str.ofString "self",none,⟨145,17,145,21⟩⟩,⟨Str.ofString "isjunk",none,⟨145,23,145,29⟩⟩,⟨Str.ofString "a",none,⟨145,36,145,37⟩⟩,⟨Str.ofString "b",none,⟨145,42,145,43⟩⟩,⟨Str.ofString "autojunk",none,⟨145,48,145,56⟩⟩],
 none,[],[],none,
  [Expr.Constant Const.none 0 ⟨145,30,145,34⟩,Expr.Constant (Const.str (Str.ofString "")) 0 ⟨145,38,145,40⟩,Expr.Constant (Const.str (Str.ofString "")) 0 ⟨145,44,145,46⟩,Expr.Constant (Const.bool true) 0 ⟨145,57,145,61⟩]⟩
theorem bi5 {fd:FuncData} {T:Addr} {s:Shared} {o:Obj} {d1 d2 d3 d4:Value} {n:Nat} (hp:fd.params = initParams) (hd:fd.defaults = .ref T) (ho:s.heap.get? T = some o) (hs:o.data = .seq #[d1,d2,d3,d4] n) (v0 v1 v2 v3 v4:Value) :
  BindsTo s fd ⟨[v0,v1,v2,v3,v4],[]⟩ (List.zip [("self":Str),"isjunk","a","b","autojunk"] [v0,v1,v2,v3,v4]):=by
 cases fd
 dsimp only at hp hd
 subst hp hd
 exact BindsTo.of_defaults rfl ho hs rfl rfl
theorem bi4 {fd:FuncData} {T:Addr} {s:Shared} {o:Obj} {d1 d2 d3 d4:Value} {n:Nat} (hp:fd.params = initParams) (hd:fd.defaults = .ref T) (ho:s.heap.get? T = some o) (hs:o.data = .seq #[d1,d2,d3,d4] n) (v0 v1 v2 v3:Value) :
  BindsTo s fd ⟨[v0,v1,v2,v3],[]⟩ (List.zip [("self":Str),"isjunk","a","b","autojunk"] [v0,v1,v2,v3,d4]):=by
 cases fd
 dsimp only at hp hd
 subst hp hd
 exact BindsTo.of_defaults rfl ho hs rfl rfl
theorem binds_init5 (p:Params) (s:Shared) (X:(K06 p).In s.heap) (v0 v1 v2 v3 v4:Value):BindsTo s (fdIn (K06 p) 160) ⟨[v0,v1,v2,v3,v4],[]⟩ (List.zip [("self":Str),"isjunk","a","b","autojunk"] [v0,v1,v2,v3,v4]):=
 bi5 (by kernel_rfl) (by kernel_rfl) (X _ _ (dfl_look p)) rfl _ _ _ _ _
theorem binds_init4 (p:Params) (s:Shared) (X:(K06 p).In s.heap) (v0 v1 v2 v3:Value):BindsTo s (fdIn (K06 p) 160) ⟨[v0,v1,v2,v3],[]⟩ (List.zip [("self":Str),"isjunk","a","b","autojunk"] [v0,v1,v2,v3,.bool true]):=
 bi4 (by kernel_rfl) (by kernel_rfl) (X _ _ (dfl_look p)) rfl _ _ _ _
theorem init_cal (p:Params) {c:Ctx} {k:Nat} (hf:c.fuel = k + 1 + 1 + 1 + 1) (B:Base c (K06 p)) {m:Lo} {Q:V→Lo→Hp→Prop} {H:Hp} {x d ra rb:Addr}
  {bs:List IS} {J:V} {on:Bool} {more:List V} (hmore:more = [.bool on] ∨ (more = []∧on = true)) (hJb:J.notBi = true) {jk:IS→Bool} {W:Hp} (hJ:JunkIn c k J jk W) (hW:∀ p∈W,p∈H) (hrb:(rb,O.list (bs.map IS.v))∈H) (hbz:bs.length≤1000)
  (h:∀ D S S2 z1 z2 ep G,gP G = grp bs→Q .none m (mkH x d ra rb D S S2 z1 z2 ep G bs J jk on H)):CalC c (.ref 160) (.ref x :: J :: .ref ra :: .ref rb :: more) m ((x,.inst 242 d) :: (d,.ns []) :: H) Q:=by
 refine cal_K (fd:=fdIn (K06 p) 160) (bs:=List.zip [("self":Str),"isjunk","a","b","autojunk"] [V.ref x,J,V.ref ra,V.ref rb,.bool on]) B hf (fnOk_of (by kernel_rfl)) (by kernel_rfl) (by kernel_rfl) ?_ fun L c2 hc hk B2=>?_
 ·intro s vvs X r
  rcases hmore with rfl | ⟨rfl,rfl⟩
  ·revert r
   refine fun r=>vals5 (P:=fun l=>Reps s.heap _ l→∃ binds,BindsTo s _ ⟨l,[]⟩ binds∧BRep s.heap _ binds) (fun v0 v1 v2 v3 v4 r=>?_) vvs r.length r
   exact ⟨_,binds_init5 p s X v0 v1 v2 v3 v4,rfl,r⟩
  ·revert r
   refine fun r=>vals4 (P:=fun l=>Reps s.heap _ l→∃ binds,BindsTo s _ ⟨l,[]⟩ binds∧BRep s.heap _ binds) (fun v0 v1 v2 v3 r=>?_) vvs r.length r
   exact ⟨_,binds_init4 p s X v0 v1 v2 v3,rfl,Reps.append (ys:=[V.bool true]) (ws:=[Value.bool true]) r (Reps.one (x:=V.bool true) rfl)⟩
 ·have e1:locOf (fdIn (K06 p) 160).scope.names (List.zip [("self":Str),"isjunk","a","b","autojunk"] [V.ref x,J,V.ref ra,V.ref rb,.bool on]) = [(("autojunk":Str),V.bool on),("b",.ref rb),("a",.ref ra),("isjunk",J),("self",V.ref x)]:=by kernel_rfl
  have e2:cellsAt L (fdIn (K06 p) 160) (List.zip [("self":Str),"isjunk","a","b","autojunk"] [V.ref x,J,V.ref ra,V.ref rb,.bool on]) = []:=by kernel_rfl
  rw [e1,e2]
  refine WPs.post (WPs.mono (init_ok p c2 hk B2 hc.scope hJb (hJ.called hc) hW hrb hbz) ?_)
  rintro f m' H' ⟨hv,D,S,S2,z1,z2,ep,G,hG,hl⟩
  refine ⟨[],_,⟨(fun _ _ e=>nomatch e),hl.2⟩,?_⟩
  rw [hv]
  exact h D S S2 z1 z2 ep G hG
theorem class_cal (p:Params) {c:Ctx} {k:Nat} (hf:c.fuel = k + 1 + 1 + 1 + 1 + 1) (B:Base c (K06 p)) {m:Lo} {Q:V→Lo→Hp→Prop} {H:Hp} {ra rb:Addr}
  {bs:List IS} {J:V} {on:Bool} {more:List V} (hmore:more = [.bool on] ∨ (more = []∧on = true)) (hJb:J.notBi = true) {jk:IS→Bool} {W:Hp} (hJ:JunkIn c k J jk W) (hW:∀ p∈W,p∈H) (hrb:(rb,O.list (bs.map IS.v))∈H) (hbz:bs.length≤1000)
  (h:∀ x d D S S2 z1 z2 ep G,gP G = grp bs→Q (.ref x) m (mkH x d ra rb D S S2 z1 z2 ep G bs J jk on H)):CalC c (.ref 242) (J :: .ref ra :: .ref rb :: more) m H Q:=by
 refine cal_class B hf (fI:=160) (by kernel_rfl) (by kernel_rfl) (by kernel_rfl) fun c2 x d hc hk B2=>?_
 exact init_cal p hk B2 hmore hJb (hJ.made hc) hW hrb hbz fun D S S2 z1 z2 ep G hG=>⟨rfl,h x d D S S2 z1 z2 ep G hG⟩
theorem match_tupX (p:Params):tupXIn (K06 p) 135 = true:=by kernel_rfl
theorem hTm (p:Params) (M:Model):∀ h,(K06 p).In h→TupX M h 135:=fun _ X=>tupX_of X (match_tupX p)
theorem make_ok (p:Params) (c:Ctx) (B:Base c (K06 p)) (hs:c.env.scope = (fdIn (K06 p) 89).scope) {H:Hp} {x y z:At}
  :WPs c (bodyIn (fdIn (K06 p) 89)) [("iterable",.tup .none [x,y,z]),("cls",.ref 135)] H fun f m' H'=>f = .ret (.tup (some 135) [x,y,z])∧H' = H:=by
 have hn:=congrArg Scope.names hs
 conv at hn=>rhs; whnf
 have gt:Glob c "tuple" (.ty "tuple"):=B.tuple hn (by kernel_rfl)
 have gl:Glob c "len" (.bi "len"):=B.len hn (by kernel_rfl)
 have lC:Lc c "cls":=lc_of hn (by kernel_rfl)
 have lI:Lc c "iterable":=lc_of hn (by kernel_rfl)
 have lR:Lc c "result":=lc_of hn (by kernel_rfl)
 refine s_cons (s1_expr (e_str ?_))
 refine s_cons (s1_assign (e_method (e_glob gt ⟨_,_,gm_type B ty_tuple opq_tuple (k_ga p) (k_ty p) (k_tn p) h_tn,items_cons ((Pu.n lC) _ (items_cons ((Pu.n lI) _ (items_nil ⟨keep_bi,k_tuple_new (fun h X=>tupC_of X (match_new p) (match_tup p)) B (Nat.le_of_ble_eq_true rfl) (sto_local lR.1 ?_)⟩))))⟩)))
 refine s_cons (s1_if (t_cmp (e_call (e_glob gl (items_cons ((Pu.n lR) _ (items_nil ⟨keep_bi,k_len_tupC (hTm p _) B (Nat.le_of_ble_eq_true rfl) (e_int (c_ne (tru_bool ?_)))⟩))))) (by with_unfolding_all rfl)))
 exact s_nil (s_cons (s1_return ((Pu.n lR) _ ⟨rfl,rfl⟩)))
theorem make_cal (p:Params) {c:Ctx} {k:Nat} (hf:c.fuel = k + 1) (B:Base c (K06 p)) {m:Lo} {Q:V→Lo→Hp→Prop} {H:Hp} {x y z:At} (h:Q (.tup (some 135) [x,y,z]) m H):CalC c (.ref 89) [.ref 135,.tup .none [x,y,z]] m H Q:=by
 refine cal_K (fd:=fdIn (K06 p) 89) (bs:=List.zip [("cls":Str),"iterable"] [V.ref 135,.tup .none [x,y,z]]) B hf (fnOk_of (by kernel_rfl)) (by kernel_rfl) (by kernel_rfl) (fun s vvs X r=>binds_plain rfl (fun vvs hl=>?_) s vvs X r) fun L c2 hc hk B2=>?_
 ·exact bind2 (fun v0 v1=>by kernel_rfl) vvs hl
 ·have e1:locOf (fdIn (K06 p) 89).scope.names (List.zip [("cls":Str),"iterable"] [V.ref 135,.tup .none [x,y,z]]) = [(("iterable":Str),.tup .none [x,y,z]),("cls",.ref 135)]:=by kernel_rfl
  have e2:cellsAt L (fdIn (K06 p) 89) (List.zip [("cls":Str),"iterable"] [V.ref 135,.tup .none [x,y,z]]) = []:=by kernel_rfl
  rw [e1,e2]
  refine WPs.post (WPs.mono (make_ok p c2 B2 hc.scope) ?_)
  rintro f m' H' ⟨rfl,rfl⟩
  exact ⟨[],_,⟨(fun _ _ e=>nomatch e),fun _ h=>h,id⟩,h⟩
theorem flm_dfl (p:Params):(K06 p).lookup 189 = some { cls:=Value.type "tuple",data:=Data.seq #[Value.int 0 464,Value.none,Value.int 0 465,Value.none] }:=by kernel_rfl
noncomputable def flmParams:Arguments:=⟨[],[⟨Str.ofString "self",none,⟨260,27,260,31⟩⟩,⟨Str.ofString "alo",none,⟨260,33,260,36⟩⟩,⟨Str.ofString "ahi",none,⟨260,40,260,43⟩⟩,⟨Str.ofString "blo",none,⟨260,50,260,53⟩⟩,⟨Str.ofString "bhi",none,⟨260,57,260,60⟩⟩],
 none,[],[],none,[Expr.Constant (Const.int 0) 0 ⟨260,37,260,38⟩,Expr.Constant Const.none 0 ⟨260,44,260,48⟩,Expr.Constant (Const.int 0) 0 ⟨260,54,260,55⟩,Expr.Constant Const.none 0 ⟨260,61,260,65⟩]⟩
theorem flm_b5 {fd:FuncData} {T:Addr} {s:Shared} {o:Obj} {d1 d2 d3 d4:Value} {n:Nat} (hp:fd.params = flmParams) (hd:fd.defaults = .ref T) (ho:s.heap.get? T = some o) (hs:o.data = .seq #[d1,d2,d3,d4] n) (v0 v1 v2 v3 v4:Value) :
  BindsTo s fd ⟨[v0,v1,v2,v3,v4],[]⟩ (List.zip [("self":Str),"alo","ahi","blo","bhi"] [v0,v1,v2,v3,v4]):=by
 cases fd
 dsimp only at hp hd
 subst hp hd
 exact BindsTo.of_defaults rfl ho hs rfl rfl
theorem flm_cal (p:Params) {c:Ctx} {k:Nat} (hf:c.fuel = k + 1 + 1 + 1) (B:Base c (K06 p)) {m:Lo} {Q:V→Lo→Hp→Prop} {H:Hp} {x d ra rb D S:Addr} {fs:List (Str × V)} {as bs:List Int} {ep:Nat} {es:List (IS × V)} {z:Raw} {ks:List IS} {idx:Int→List Nat} {alo ahi blo bhi:Nat}
  (hx:(x,O.inst 242 d)∈H) (hd:(d,O.ns fs)∈H) (ha:fs.lookup ("a":Str) = some (.ref ra)) (hb:fs.lookup ("b":Str) = some (.ref rb)) (hD:fs.lookup ("b2j":Str) = some (.ref D)) (hS:fs.lookup ("bjunk":Str) = some (.ref S))
  (hra:(ra,O.list (as.map .int))∈H) (hrb:(rb,O.list (bs.map .int))∈H) (hes:(D,O.dict ep es)∈H) (hks:(S,O.set z ks)∈H) (hidx:IdxOk H es idx) (hpw:∀ v,(idx v).Pairwise (· < ·)) (hpn:∀ v,(idx v).length≤1000)
  (h1:alo≤ahi) (h2:ahi≤as.length) (h3:blo≤bhi) (h4:bhi≤bs.length) (h5:as.length≤1000) (h6:bs.length≤1000)
  (h:∀ i j k,FlmR (flmQ as bs) (flmE as idx alo ahi blo bhi) (flmD bs ks) alo ahi blo bhi i j k→Q (.tup (some 135) [.int (i:Nat),.int (j:Nat),.int (k:Nat)]) m H):CalC c (.ref 196) [.ref x,.int alo,.int ahi,.int blo,.int bhi] m H Q:=by
 refine cal_K (fd:=fdIn (K06 p) 196) (bs:=List.zip [("self":Str),"alo","ahi","blo","bhi"] [V.ref x,.int alo,.int ahi,.int blo,.int bhi]) B hf (fnOk_of (by kernel_rfl)) (by kernel_rfl) (by kernel_rfl) ?_ fun L c2 hc hk B2=>?_
 ·intro s vvs X r
  revert r
  refine fun r=>vals5 (P:=fun l=>Reps s.heap _ l→∃ binds,BindsTo s _ ⟨l,[]⟩ binds∧BRep s.heap _ binds) (fun v0 v1 v2 v3 v4 r=>?_) vvs r.length r
  exact ⟨_,flm_b5 (by kernel_rfl) (by kernel_rfl) (X _ _ (flm_dfl p)) rfl v0 v1 v2 v3 v4,rfl,r⟩
 ·have e1:locOf (fdIn (K06 p) 196).scope.names (List.zip [("self":Str),"alo","ahi","blo","bhi"] [V.ref x,.int alo,.int ahi,.int blo,.int bhi]) = [(("bhi":Str),.int bhi),("blo",.int blo),("ahi",.int ahi),("alo",.int alo),("self",V.ref x)]:=by kernel_rfl
  have e2:cellsAt L (fdIn (K06 p) 196) (List.zip [("self":Str),"alo","ahi","blo","bhi"] [V.ref x,.int alo,.int ahi,.int blo,.int bhi]) = []:=by kernel_rfl
  rw [e1,e2]
  refine WPs.post (WPs.mono (flm_ok p c2 hk B2 hc.scope hx hd ha hb hD hS hra hrb hes hks hidx hpw hpn (.inl rfl) (.inl rfl) h1 h2 h3 h4 h5 h6) ?_)
  rintro f m' H' ⟨i,j,k,rfl,hl,hr⟩
  exact ⟨[],_,⟨(fun _ _ e=>nomatch e),hl.2⟩,h i j k hr⟩
noncomputable abbrev idxE (as:List Int) (idx:Int→List Nat) (i j:Nat):Bool:=decide (j∈idx (as.getD i 0))
noncomputable abbrev winV (w:Win):V:=.tup .none [.int (w.1:Nat),.int (w.2.1:Nat),.int (w.2.2.1:Nat),.int (w.2.2.2:Nat)]
noncomputable def winOk (la lb:Nat) (w:Win):Prop:=w.1≤w.2.1∧w.2.1≤la∧w.2.2.1≤w.2.2.2∧w.2.2.2≤lb
theorem IdxOk.mono {H H':Hp} {es:List (IS × V)} {idx:Int→List Nat} (h:IdxOk H es idx) (hH:∀ p∈H,p∈H'):IdxOk H' es idx:=fun v=>(h v).imp id fun ⟨q,a,b⟩=>⟨q,a,hH _ b⟩
noncomputable abbrev gmbM (mb qu x:Addr) (la lb:Nat):Lo:=[("matching_blocks",.ref mb),("queue",.ref qu),("lb",.int lb),("la",.int la),("self",.ref x)]
noncomputable abbrev gmbH (mb qu x d:Addr) (fs:List (Str × V)) (H:Hp) (ms:List Tri) (ws:List Win):Hp:=(mb,.list (ms.map (triV 135))) :: (qu,.list (ws.map winV)) :: (x,.inst 242 d) :: (d,.ns fs) :: H
noncomputable def gmbI (q E:Nat→Nat→Bool) (dj:Nat→Bool) (la lb:Nat) (mb qu x d:Addr) (fs:List (Str × V)) (H:Hp) (n:Nat) (m2:Lo) (H2:Hp):Prop:=
 ∃ ws ms,n = todoN ws∧ms.length + todoN ws≤2 * la + 1∧(∀ w∈ws,winOk la lb w)∧Todo q E dj la lb ws ms∧Less m2 H2 (gmbM mb qu x la lb) (gmbH mb qu x d fs H ms ws)
theorem mem_side {b:Bool} {w w':Win} (h:w'∈sideW b w):w' = w:=by
 unfold sideW at h
 cases b with
 | true=>exact List.mem_singleton.mp h
 | false=>cases h
theorem gmb_queue (p:Params) (c:Ctx) {k:Nat} (hf:c.fuel = k + 1 + 1 + 1) (B:Base c (K06 p)) (hs:c.env.scope = (fdIn (K06 p) 203).scope) {H:Hp} {x d ra rb D S mb qu:Addr} {fs:List (Str × V)} {as bs:List Int} {ep:Nat} {es:List (IS × V)} {z:Raw} {ks:List IS} {idx:Int→List Nat} {Q:Fl→Lo→Hp→Prop}
  (hfm:fs.lookup ("find_longest_match":Str) = .none) (ha:fs.lookup ("a":Str) = some (.ref ra)) (hb:fs.lookup ("b":Str) = some (.ref rb)) (hD:fs.lookup ("b2j":Str) = some (.ref D)) (hS:fs.lookup ("bjunk":Str) = some (.ref S))
  (hra:(ra,O.list (as.map .int))∈H) (hrb:(rb,O.list (bs.map .int))∈H) (hes:(D,O.dict ep es)∈H) (hks:(S,O.set z ks)∈H) (hidx:IdxOk H es idx) (hpw:∀ v,(idx v).Pairwise (· < ·)) (hpn:∀ v,(idx v).length≤1000) (h5:as.length≤1000) (h6:bs.length≤1000)
  (hQ:∀ ms m H2,Todo (flmQ as bs) (idxE as idx) (flmD bs ks) as.length bs.length [] ms→Less m H2 (gmbM mb qu x as.length bs.length) (gmbH mb qu x d fs H ms [])→WPs c ((bodyIn (fdIn (K06 p) 203)).drop 6) m H2 Q) :
  WPs c ((bodyIn (fdIn (K06 p) 203)).drop 5) (gmbM mb qu x as.length bs.length) (gmbH mb qu x d fs H [] [(0,as.length,0,bs.length)]) Q:=by
 have hn:=congrArg Scope.names hs
 conv at hn=>rhs; whnf
 have hC:=cls02 p
 have lSe:Lc c "self":=lc_of hn (by kernel_rfl)
 have lQ:Lc c "queue":=lc_of hn (by kernel_rfl)
 have lM:Lc c "matching_blocks":=lc_of hn (by kernel_rfl)
 have lAl:Lc c "alo":=lc_of hn (by kernel_rfl)
 have lAh:Lc c "ahi":=lc_of hn (by kernel_rfl)
 have lBl:Lc c "blo":=lc_of hn (by kernel_rfl)
 have lBh:Lc c "bhi":=lc_of hn (by kernel_rfl)
 have lI:Lc c "i":=lc_of hn (by kernel_rfl)
 have lJ:Lc c "j":=lc_of hn (by kernel_rfl)
 have lK:Lc c "k":=lc_of hn (by kernel_rfl)
 have lX:Lc c "x":=lc_of hn (by kernel_rfl)
 refine s_join (fun m2 H2=>∃ ms,Todo (flmQ as bs) (idxE as idx) (flmD bs ks) as.length bs.length [] ms∧Less m2 H2 (gmbM mb qu x as.length bs.length) (gmbH mb qu x d fs H ms [])) (s1_while (gmbI (flmQ as bs) (idxE as idx) (flmD bs ks) as.length bs.length mb qu x d fs H) (2 * as.length + 1) ?_ ?_) ?_
 ·refine ⟨[(0,as.length,0,bs.length)],[],?_,?_,fun w hw=>?_,Todo.start,Less.refl _ _⟩
  ·simp [todoN]
  ·simp [todoN]
  ·rw [List.mem_singleton.mp hw]; exact ⟨Nat.zero_le _,Nat.le_refl _,Nat.zero_le _,Nat.le_refl _⟩
 ·rintro n m1 H1 ⟨ws,ms,rfl,hsum,hok,htd,hl⟩
  have hwl:ws.length≤2 * as.length + 1:=Nat.le_trans (todoN_len ws) (by exact as1 3 (.l (.a Z0 Z1) (.a (.m 2 Z2) N1)) (.l Z1 (.a (.m 2 Z2) N1)) [_,_,_] hsum)
  refine WPt.less hl (t_value ((Pu.n lQ) _ (tru_list (xs:=ws.map winV) (.mem (mT mS)) (by rw [List.length_map]; exact as2 2 (.l Z0 (.n 1000)) (.l Z1 (.a (.m 2 Z0) N1)) (.l Z1 (.n 1000000)) [_,_] h5 hwl) ?_)) (by intro _; rfl))
  rcases List.eq_nil_or_concat ws with rfl | ⟨ws,⟨alo,ahi,blo,bhi⟩,rfl⟩
  ·exact ⟨ms,htd,Less.refl _ _⟩
  ·rw [List.concat_eq_append] at *
   rw [show (!((ws ++ [(alo,ahi,blo,bhi)]).map winV).isEmpty) = true by simp]
   rw [if_pos rfl]
   obtain ⟨w1,w2,w3,w4⟩:=hok (alo,ahi,blo,bhi) (by simp)
   dsimp only at w1 w2 w3 w4
   refine WPs.cutk fun Q1 hQ1=>?_
   show WPs c _ _ ((mb,.list (ms.map (triV 135))) :: (qu,.list ((ws ++ [(alo,ahi,blo,bhi)]).map winV)) :: (x,.inst 242 d) :: (d,.ns fs) :: H) _
   rw [show (ws ++ [(alo,ahi,blo,bhi)]).map winV = ws.map winV ++ [winV (alo,ahi,blo,bhi)] by simp]
   refine s_cons (s1_unpack (e_method ((Pu.n lQ) _ ⟨_,_,gm_list (.mem (mT mS)) PySem.F.slot_list_pop PySem.F.type_list_pop,items_nil ⟨keep_bi,k_pop (xs:=ws.map winV) (.tail (.head _)) (by rw [List.length_map]; rw [List.length_append] at hwl; exact as2 3 (.l Z0 (.n 1000)) (.l (.a Z1 Z2) (.a (.m 2 Z0) N1)) (.l Z1 (.n 1000000)) [_,_,_] h5 hwl) ?_⟩⟩)))
   refine asg_tuple (xs:=[.int (alo:Nat),.int (ahi:Nat),.int (blo:Nat),.int (bhi:Nat)]) (asg_name (sto_local lAl.1 (asg_name (sto_local lAh.1 (asg_name (sto_local lBl.1 (asg_name (sto_local lBh.1 ?_))))))))
   show WPs c _ _ _ _
   have up:∀ {P1 P2 P3 P4:Addr × O} {a:Addr × O},a∈H→a∈P1 :: P2 :: P3 :: P4 :: H:=fun h=>mT (mT (mT (mT h)))
   refine s_cons (s1_to2 (e_method ((Pu.n lSe) _ ⟨_,_,gm_inst (K:=K06 p) (C:=242) (f:=196) B hC (by kernel_rfl) (by kernel_rfl) (.mem (mT (mT mS))) (.mem (mT (mT (mT mS)))) hfm,
    items_cons ((Pu.n lAl) _ (items_cons ((Pu.n lAh) _ (items_cons ((Pu.n lBl) _ (items_cons ((Pu.n lBh) _ (items_nil ⟨keep_K B (by kernel_rfl),CalC.cal (flm_cal p hf B (mT (mT mS)) (mT (mT (mT mS))) ha hb hD hS (up hra) (up hrb) (up hes) (up hks) (hidx.mono fun _ h=>up h) hpw hpn w1 w2 w3 w4 h5 h6 fun i j k hr=>?_)⟩))))))))⟩)))
   obtain ⟨r1,r2,r3,r4⟩:=flmR_in w1 w3 hr
   refine asg_tupC (hTm p _) B (xs:=[.int (i:Nat),.int (j:Nat),.int (k:Nat)]) (asg_name (sto_local lI.1 (asg_name (sto_local lJ.1 (asg_name (sto_local lK.1 (asg_name (sto_local lX.1 ?_))))))))
   show WPs c _ _ _ _
   refine s_cons (s1_if (t_value ((Pu.n lK) _ (tru_int ?_)) (by intro _; rfl)))
   have hs1:∀ w:Win,w.1≤w.2.1→todoN (ws ++ [w]) = todoN ws + (2 * (w.2.1 - w.1) + 1):=fun w _=>by rw [todoN_append]; rfl
   have hn0:=hs1 (alo,ahi,blo,bhi) w1
   dsimp only at hn0
   have hmx:todoN ws + (2 * (ahi - alo) + 1) + ms.length≤2 * as.length + 1:=by rw [hn0] at hsum; exact as1 5 (.l (.a Z0 (.a Z1 (.a (.m 2 (.s Z2 Z3)) N1))) (.a (.m 2 Z4) N1)) (.l (.a (.a Z1 (.a (.m 2 (.s Z2 Z3)) N1)) Z0) (.a (.m 2 Z4) N1)) [_,_,_,_,_] hsum
   refine if_b (fun hk=>?_) (fun hk=>?_)
   ·have hk0:0 < k:=Nat.pos_of_ne_zero fun e=>by subst e; cases hk
    refine s_cons (s1_append (Pu.n lM) (Pu.n lX) (.mem mS) (.head _) (by rw [List.length_map]; exact as2 3 (.l Z0 (.n 1000)) (.l (.a Z1 Z2) (.a (.m 2 Z0) N1)) (.l Z1 (.n 1000000)) [_,_,_] h5 hsum) ?_ (hE:=fun _ h=>e_method h))
    rw [show ms.map (triV 135) ++ [V.tup (some 135) [.int (i:Nat),.int (j:Nat),.int (k:Nat)]] = (ms ++ [(i,j,k)]).map (triV 135) by rw [List.map_append]; rfl]
    refine s_to (("x",.tup (some 135) [.int (i:Nat),.int (j:Nat),.int (k:Nat)]) :: ("k",.int (k:Nat)) :: ("j",.int (j:Nat)) :: ("i",.int (i:Nat)) :: ("bhi",.int (bhi:Nat)) :: ("blo",.int (blo:Nat)) :: ("ahi",.int (ahi:Nat)) :: ("alo",.int (alo:Nat)) :: gmbM mb qu x as.length bs.length) (gmbH mb qu x d fs H (ms ++ [(i,j,k)]) (ws ++ sideW (decide (alo < i) && decide (blo < j)) (alo,i,blo,j))) ?_ ?_
    ·refine s1_ifP (.and2 (.ltN (.n lAl) (.n lI)) fun _=>.ltN (.n lBl) (.n lJ)) (fun h=>?_) (fun h=>?_)
     ·refine s_cons (s1_append (Pu.n lQ) (.tup (xs:=[.int (alo:Nat),.int (i:Nat),.int (blo:Nat),.int (j:Nat)]) (.cons (.n lAl) (.cons (.n lI) (.cons (.n lBl) (.cons (.n lJ) .nil)))) (by simp)) (.mem (mT mS)) (.tail (.head _)) (by rw [List.length_map]; have:=todoN_len ws; exact as4 7 (.l Z0 (.n 1000)) (.l (.a Z1 Z2) (.a (.m 2 Z0) N1)) (.e Z2 (.a Z3 (.a (.m 2 (.s Z4 Z5)) N1))) (.l Z6 Z3) (.l Z6 (.n 1000000)) [_,_,_,_,_,_,_] h5 hsum hn0 this) (s_nil ?_) (hE:=fun _ h=>e_method h))
      rw [h,show ws.map winV ++ [V.tup .none [.int (alo:Nat),.int (i:Nat),.int (blo:Nat),.int (j:Nat)]] = (ws ++ sideW true (alo,i,blo,j)).map winV by rw [List.map_append]; rfl]
      exact Less.refl _ _
     ·rw [h,show ws ++ sideW false (alo,i,blo,j) = ws by unfold sideW; simp]
      exact s_nil (Less.refl _ _)
    generalize hw1:ws ++ sideW (decide (alo < i) && decide (blo < j)) (alo,i,blo,j) = ws1
    refine s_to (("x",.tup (some 135) [.int (i:Nat),.int (j:Nat),.int (k:Nat)]) :: ("k",.int (k:Nat)) :: ("j",.int (j:Nat)) :: ("i",.int (i:Nat)) :: ("bhi",.int (bhi:Nat)) :: ("blo",.int (blo:Nat)) :: ("ahi",.int (ahi:Nat)) :: ("alo",.int (alo:Nat)) :: gmbM mb qu x as.length bs.length) (gmbH mb qu x d fs H (ms ++ [(i,j,k)]) (ws1 ++ sideW (decide (i + k < ahi) && decide (j + k < bhi)) (i + k,ahi,j + k,bhi))) ?_ ?_
    ·have hl1:ws1.length≤todoN ws + 1:=by rw [← hw1,List.length_append]; have:=todoN_len ws; unfold sideW; split <;> simp <;> (first | exact as1 2 (.l Z0 Z1) (.l Z0 Z1) [_,_] this | exact as1 2 (.l Z0 Z1) (.l Z0 (.a Z1 N1)) [_,_] this)
     refine s1_ifP (.and2 (.ltN (.addN (.n lI) (.n lK)) (.n lAh)) fun _=>.ltN (.addN (.n lJ) (.n lK)) (.n lBh)) (fun h=>?_) (fun h=>?_)
     ·refine s_cons (s1_append (Pu.n lQ) (.tup (xs:=[.int ((i + k:Nat):Int),.int (ahi:Nat),.int ((j + k:Nat):Int),.int (bhi:Nat)]) (.cons (.addN (.n lI) (.n lK)) (.cons (.n lAh) (.cons (.addN (.n lJ) (.n lK)) (.cons (.n lBh) .nil)))) (by simp)) (.mem (mT mS)) (.tail (.head _)) (by rw [List.length_map]; exact as4 7 (.l Z0 (.n 1000)) (.l (.a Z1 Z2) (.a (.m 2 Z0) N1)) (.e Z2 (.a Z3 (.a (.m 2 (.s Z4 Z5)) N1))) (.l Z6 (.a Z3 N1)) (.l Z6 (.n 1000000)) [_,_,_,_,_,_,_] h5 hsum hn0 hl1) (s_nil ?_) (hE:=fun _ h=>e_method h))
      rw [h,show ws1.map winV ++ [V.tup .none [.int ((i + k:Nat):Int),.int (ahi:Nat),.int ((j + k:Nat):Int),.int (bhi:Nat)]] = (ws1 ++ sideW true (i + k,ahi,j + k,bhi)).map winV by rw [List.map_append]; rfl]
      exact Less.refl _ _
     ·rw [h,show ws1 ++ sideW false (i + k,ahi,j + k,bhi) = ws1 by unfold sideW; simp]
      exact s_nil (Less.refl _ _)
    subst hw1
    have t1:=todoN_side (decide (alo < i) && decide (blo < j)) (alo,i,blo,j)
    have t2:=todoN_side (decide (i + k < ahi) && decide (j + k < bhi)) (i + k,ahi,j + k,bhi)
    dsimp only at t1 t2
    refine s_nil (s_nil (hQ1 .next _ _ ⟨_,?_,_,_,rfl,?_,fun w hw=>?_,htd.turn hr hk0,less_m LessM.k⟩))
    ·rw [todoN_append,todoN_append,hn0]; exact as5 7 (.l Z0 Z1) (.l (.a Z1 Z2) Z3) (.t (.n 0) Z2) (.l Z4 (.a (.m 2 (.s Z1 Z0)) N1)) (.l Z5 (.a (.m 2 (.s Z3 (.a Z1 Z2))) N1)) (.t (.a (.a Z6 Z4) Z5) (.a Z6 (.a (.m 2 (.s Z3 Z0)) N1))) [_,_,_,_,_,_,_] r1 r2 hk0 t1 t2
    ·rw [todoN_append,todoN_append,List.length_append]; simp only [List.length_cons,List.length_nil]; exact as7 10 (.l (.a Z0 Z1) (.a (.m 2 Z2) N1)) (.l Z3 Z4) (.l (.a Z4 Z5) Z6) (.e Z1 (.a Z7 (.a (.m 2 (.s Z6 Z3)) N1))) (.t (.n 0) Z5) (.l Z8 (.a (.m 2 (.s Z4 Z3)) N1)) (.l Z9 (.a (.m 2 (.s Z6 (.a Z4 Z5))) N1)) (.l (.a (.a Z0 (.a (.n 0) N1)) (.a (.a Z7 Z8) Z9)) (.a (.m 2 Z2) N1)) [_,_,_,_,_,_,_,_,_,_] hsum r1 r2 hn0 hk0 t1 t2
    ·rcases List.mem_append.mp hw with hw | hw
     ·rcases List.mem_append.mp hw with hw | hw
      ·exact hok w (List.mem_append_left _ hw)
      ·rw [mem_side hw]; exact ⟨r1,show i≤as.length by exact as2 4 (.l Z0 Z1) (.l (.a Z2 Z3) Z0) (.l Z2 Z1) [_,_,_,_] w2 r2,r3,show j≤bs.length by exact as2 4 (.l Z0 Z1) (.l (.a Z2 Z3) Z0) (.l Z2 Z1) [_,_,_,_] w4 r4⟩
     ·rw [mem_side hw]; exact ⟨r2,w2,r4,w4⟩
   ·have hk0:k = 0:=by simpa using hk
    subst hk0
    refine s_nil (s_nil (hQ1 .next _ _ ⟨todoN ws,?_,ws,ms,rfl,?_,fun w hw=>hok w (List.mem_append_left _ hw),htd.skip hr,less_m LessM.k⟩))
    ·rw [hn0]; exact as0 3 (.t Z0 (.a Z0 (.a (.m 2 (.s Z1 Z2)) N1))) [_,_,_]
    ·exact as2 6 (.l (.a Z0 Z1) (.a (.m 2 Z2) N1)) (.e Z1 (.a Z3 (.a (.m 2 (.s Z4 Z5)) N1))) (.l (.a Z0 Z3) (.a (.m 2 Z2) N1)) [_,_,_,_,_,_] hsum hn0
 ·rintro m1 H1 ⟨ms,h1,h2⟩
  exact hQ ms m1 H1 h1 h2
section
open PySem.SeqAt
noncomputable def EqF (c:Ctx) {α:Type} [DecidableEq α] (f:α→V):Prop:=∀ (s:Shared) x y vx vy,(f x).rep s.heap vx→(f y).rep s.heap vy→EqAt c.A.in1 s vx vy (decide (x = y))
theorem all_eq {α:Type} [DecidableEq α]:∀ (xs ys:List α),xs.length = ys.length→∀ e:Nat→Bool,(∀ j (h1:j < xs.length) (h2:j < ys.length),e j = decide (xs[j] = ys[j]))→(List.range xs.length).all e = decide (xs = ys):=fun xs ys hl e he=>by
 rw [Bool.eq_iff_iff,List.all_eq_true,decide_eq_true_eq]
 constructor
 ·intro h
  refine List.ext_getElem hl fun j h1 h2=>?_
  have:=h j (List.mem_range.mpr h1)
  rw [he j h1 h2] at this
  exact of_decide_eq_true this
 ·rintro rfl j hj
  have h1:=List.mem_range.mp hj
  rw [he j h1 h1]
  exact decide_eq_true rfl
section
variable {c:Ctx} {m:Lo} {H:Hp} {pos:Pos} {Q:V→Lo→Hp→Prop}
theorem eqF_int:EqF c V.int:=fun s x y vx vy hx hy=>by
 obtain ⟨t,rfl⟩:=hx
 obtain ⟨u,rfl⟩:=hy
 have:=EqAt.int_int (A:=c.A.in1) (s:=s) x t y u
 rwa [show (x == y) = decide (x = y) by by_cases e:x = y <;> simp [e]] at this
theorem reps_at {α:Type} {f:α→V} {h:Heap} {xs:List α} {items:Array Value} (r:Reps h (xs.map f) items.toList) {j:Nat} (hj:j < xs.length) (h1:j < items.size):(f xs[j]).rep h items[j]:=by
 obtain ⟨v,hv,rv⟩:=r.get (show (xs.map f)[j]? = some (f xs[j]) by simp [hj])
 rw [Array.getElem?_toList] at hv
 obtain ⟨_,e⟩:=Array.getElem?_eq_some_iff.mp hv
 rw [e]; exact rv
theorem c_eqG {α:Type} [DecidableEq α] {f:α→V} (hf:EqF c f) {a b:Addr} {xs ys:List α} (ha:Sees c H a (.list (xs.map f))) (hb:Sees c H b (.list (ys.map f))) (h:Q (.bool (decide (xs = ys))) m H):Cmp c .Eq (.ref a) (.ref b) m H Q:=fun s va vb R ra rb=>by
 cases (ra:va = _); cases (rb:vb = _)
 obtain ⟨i1,n1,l1,r1⟩:=O.list_get (ha m s R)
 obtain ⟨i2,n2,l2,r2⟩:=O.list_get (hb m s R)
 have z1:i1.size = xs.length:=by simpa using r1.length
 have z2:i2.size = ys.length:=by simpa using r2.length
 refine .val R h fun P k=>?_
 by_cases e:xs.length = ys.length
 ·refine eq_listAt (IsL.isList l1) (IsL.isList l2) (by rw [z1,z2,e]) c.hu0 (e:=fun j=>if h:j < xs.length∧j < ys.length then decide (xs[j] = ys[j]) else true) (fun j h1 h2=>?_) (k _ s.toks ?_)
  ·rw [dif_pos ⟨z1 ▸ h1,z2 ▸ h2⟩]
   exact hf s _ _ _ _ (reps_at r1 (z1 ▸ h1) h1) (reps_at r2 (z2 ▸ h2) h2)
  ·show _ = _
   rw [z1,all_eq xs ys e _ fun j h1 h2=>dif_pos ⟨h1,h2⟩]
 ·have:decide (xs = ys) = false:=decide_eq_false fun q=>e (by rw [q])
  rw [this] at k
  exact eq_list_lengthsAt (IsL.isList l1) (IsL.isList l2) (by simpa [z1,z2] using e) c.hu0 (k _ s.toks rfl)
theorem c_neG {α:Type} [DecidableEq α] {f:α→V} (hf:EqF c f) {a b:Addr} {xs ys:List α} (ha:Sees c H a (.list (xs.map f))) (hb:Sees c H b (.list (ys.map f))) (h:Q (.bool (!decide (xs = ys))) m H):Cmp c .NotEq (.ref a) (.ref b) m H Q:=fun s va vb R ra rb=>by
 cases (ra:va = _); cases (rb:vb = _)
 obtain ⟨i1,n1,l1,r1⟩:=O.list_get (ha m s R)
 obtain ⟨i2,n2,l2,r2⟩:=O.list_get (hb m s R)
 have z1:i1.size = xs.length:=by simpa using r1.length
 have z2:i2.size = ys.length:=by simpa using r2.length
 refine .val R h fun P k=>cmp_ofNotEq ?_
 by_cases e:xs.length = ys.length
 ·refine RcNeAt.lists (IsL.isList l1) (IsL.isList l2) (by rw [z1,z2,e]) c.hu0 (e:=fun j=>if h:j < xs.length∧j < ys.length then decide (xs[j] = ys[j]) else true) (fun j h1 h2=>?_) _ _ _ _ (k _ s.toks ?_)
  ·rw [dif_pos ⟨z1 ▸ h1,z2 ▸ h2⟩]
   exact hf s _ _ _ _ (reps_at r1 (z1 ▸ h1) h1) (reps_at r2 (z2 ▸ h2) h2)
  ·show _ = _
   rw [z1,all_eq xs ys e _ fun j h1 h2=>dif_pos ⟨h1,h2⟩]
 ·have:decide (xs = ys) = false:=decide_eq_false fun q=>e (by rw [q])
  rw [this] at k
  exact RcNeAt.lists_lengths (IsL.isList l1) (IsL.isList l2) (by simpa [z1,z2] using e) c.hu0 _ _ _ _ (k _ s.toks rfl)
noncomputable abbrev naV (x:Tri):V:=.tup .none (triA x)
end
end
theorem PuT.eqN {c:Ctx} {m:Lo} {H:Hp} {pos:Pos} {l r:Expr} {a b:Nat} (h1:Pu c l m H (.int a)) (h2:Pu c r m H (.int b)) (hm:autoParam (behindInMarks .Eq r = false) auAll):PuT c (.Compare l [.Eq] [r] pos) m H (decide (a = b)):=fun _ h=>
 t_cmp (h1 _ (h2 _ (c_eq (tru_bool (by rw [in_neq]; exact h))))) hm
theorem PuT.nat {c:Ctx} {m:Lo} {H:Hp} {x:Str} {p:Pos} {a:Nat} (lx:Lc c x) (hv:m.lookup x = some (.int a)):PuT c (.Name x p) m H (decide (a≠0)):=fun _ h=>
 t_value (Pu.nm lx hv _ (tru_int (by rw [show ((a:Int) != 0) = decide (a≠0) by by_cases e:a = 0 <;> simp [e]]; exact h))) (by intro _; rfl)
theorem match_cmr (p:Params):recIn (K06 p) 91 "classmethod" = some [.ref 89,.bool false]:=by kernel_rfl
noncomputable def asMatch:V→V
 | .tup _ xs=>.tup (some 135) xs
 | v=>v
noncomputable abbrev naM (na mb x:Addr) (la lb i1 j1 k1:Nat):Lo:=[("non_adjacent",.ref na),("i1",.int i1),("j1",.int j1),("k1",.int k1),("matching_blocks",.ref mb),("lb",.int lb),("la",.int la),("self",.ref x)]
noncomputable abbrev naH (na mb x d:Addr) (fs:List (Str × V)) (H:Hp) (out L:List Tri):Hp:=(na,.list (out.map naV)) :: (mb,.list (L.map (triV 135))) :: (x,.inst 242 d) :: (d,.ns fs) :: H
noncomputable def naI (la lb:Nat) (na mb x d:Addr) (fs:List (Str × V)) (H:Hp) (L:List Tri) (t:Nat) (m2:Lo) (H2:Hp):Prop:=
 ∃ i1 j1 k1 out,out ++ mrg (i1,j1,k1) (L.drop t) = mrg (0,0,0) L∧out.length≤t∧Less m2 H2 (naM na mb x la lb i1 j1 k1) (naH na mb x d fs H out L)
theorem gmb_merge (p:Params) (c:Ctx) {k:Nat} (hf:c.fuel = k + 1 + 1 + 1) (B:Base c (K06 p)) (hs:c.env.scope = (fdIn (K06 p) 203).scope) {H:Hp} {x d mb qu:Addr} {fs:List (Str × V)} {la lb:Nat} {ms L:List Tri} (hzf:fs.length≤90)
  (hp:List.Perm ms L) (ha:L.Pairwise Ahead) (hpos:∀ x∈L,0 < x.2.2) (hz:L.length < 64) :
  WPs c ((bodyIn (fdIn (K06 p) 203)).drop 6) (gmbM mb qu x la lb) (gmbH mb qu x d fs H ms []) fun f _ H'=>∃ r,f = .ret (.ref r)∧Less [] H' [] ((r,.list ((mrg (0,0,0) L ++ [(la,lb,0)]).map (triV 135))) :: (x,.inst 242 d) :: (d,.ns (("matching_blocks",.ref r) :: fs)) :: H):=by
 have hn:=congrArg Scope.names hs
 conv at hn=>rhs; whnf
 refine WPs.cutk fun Q0 hQ0=>?_
 have hC:=cls02 p
 have gM:Glob c "Match" (.ref 135):=B.glob (kind_of hn (by decide +kernel)) (by kernel_rfl) rfl
 have gl:Glob c "list" (.ty "list"):=B.list hn (by kernel_rfl)
 have gm:Glob c "map" (.ty "map"):=B.map hn (by kernel_rfl)
 have lSe:Lc c "self":=lc_of hn (by kernel_rfl)
 have lM:Lc c "matching_blocks":=lc_of hn (by kernel_rfl)
 have lN:Lc c "non_adjacent":=lc_of hn (by kernel_rfl)
 have lI1:Lc c "i1":=lc_of hn (by kernel_rfl)
 have lJ1:Lc c "j1":=lc_of hn (by kernel_rfl)
 have lK1:Lc c "k1":=lc_of hn (by kernel_rfl)
 have lI2:Lc c "i2":=lc_of hn (by kernel_rfl)
 have lJ2:Lc c "j2":=lc_of hn (by kernel_rfl)
 have lK2:Lc c "k2":=lc_of hn (by kernel_rfl)
 have lLa:Lc c "la":=lc_of hn (by kernel_rfl)
 have lLb:Lc c "lb":=lc_of hn (by kernel_rfl)
 have hfi:=ahead_first ha hpos
 refine s_cons (s1_expr (e_method ((Pu.n lM) _ ⟨_,_,gm_list (.mem mS) PySem.F.slot_list_sort PySem.F.type_list_sort,items_nil ⟨keep_bi,k_sort_tri (hTm p _) B (.head _) (by rw [hp.length_eq]; exact hz) (fun x hx y hy=>hfi x (hp.subset hx) y (hp.subset hy)) fun L' q1 q2=>?_⟩⟩)))
 rw [sorted_same ha hpos (q1.trans hp) q2]
 clear q1 q2 hfi
 refine s_cons (s1_to3 (e_int (asg_name (sto_local lI1.1 (asg_name (sto_local lJ1.1 (asg_name (sto_local lK1.1 ?_))))))))
 refine s_cons (s1_assign (e_list (items_nil ⟨Nat.le_of_ble_eq_true rfl,fun na=>sto_local lN.1 ?_⟩)))
 refine s_for_list ((Pu.n lM) _ ⟨mb,L.map (triV 135),rfl,naI la lb na mb x d fs H L,?_,?_,?_,?_⟩)
 ·exact ⟨0,0,0,[],rfl,Nat.le_refl _,Less.trans (less_m (m':=naM na mb x la lb 0 0 0) LessM.k) (Less.heap (.cons_cons _ (.cons_cons _ (.cons _ (.refl _)))))⟩
 ·rintro t m2 H2 ⟨i1,j1,k1,out,_,_,hl⟩
  exact Sees.less hl (mT mS)
 ·rintro t v m2 H2 hv ⟨i1,j1,k1,out,he,hlen,hl⟩
  obtain ⟨⟨i2,j2,k2⟩,hx,rfl⟩:∃ x,L[t]? = some x∧v = triV 135 x:=by
   rw [List.getElem?_map] at hv
   cases q:L[t]? with
   | none=>rw [q] at hv; cases hv
   | some x=>rw [q] at hv; cases hv; exact ⟨x,rfl,rfl⟩
  have htl:t < L.length:=(List.getElem?_eq_some_iff.mp hx).1
  have hdr:L.drop t = (i2,j2,k2) :: L.drop (t + 1):=by
   rw [List.drop_eq_getElem_cons htl,(List.getElem?_eq_some_iff.mp hx).2]
  rw [hdr] at he
  refine On1.less hl (asg_tupC (hTm p _) B (xs:=[.int (i2:Nat),.int (j2:Nat),.int (k2:Nat)]) (asg_name (sto_local lI2.1 (asg_name (sto_local lJ2.1 (asg_name (sto_local lK2.1 ?_)))))))
  show WPs c _ _ _ _
  refine WPs.cutk fun Q1 hQ1=>?_
  refine s_cons (s1_ifP (.and2 (.eqN (.addN (.n lI1) (.n lK1)) (.n lI2)) fun _=>.eqN (.addN (.n lJ1) (.n lK1)) (.n lJ2)) (fun h=>?_) (fun h=>?_))
  ·rw [Bool.and_eq_true,decide_eq_true_eq,decide_eq_true_eq] at h
   refine s_cons (s1_augP lK1 (by with_unfolding_all rfl) (.n lK2) (s_nil (s_nil (hQ1 .next _ _ ⟨i1,j1,k1 + k2,out,?_,Nat.le_succ_of_le hlen,less_m LessM.k⟩))))
   rw [mrg_cons,if_pos h] at he
   exact he
  ·have h':¬ (i1 + k1 = i2∧j1 + k1 = j2):=fun q=>by rw [decide_eq_true q.1,decide_eq_true q.2] at h; cases h
   rw [mrg_cons,if_neg h',← List.append_assoc] at he
   refine s_to (("k2",.int (k2:Nat)) :: ("j2",.int (j2:Nat)) :: ("i2",.int (i2:Nat)) :: naM na mb x la lb i1 j1 k1) (naH na mb x d fs H (out ++ if k1 = 0 then [] else [(i1,j1,k1)]) L) ?_ ?_
   ·refine s1_ifP (.nat lK1 (by with_unfolding_all rfl)) (fun g=>?_) (fun g=>?_)
    ·rw [if_neg (of_decide_eq_true g)]
     refine s_cons (s1_append (Pu.n lN) (.tup (xs:=[.int (i1:Nat),.int (j1:Nat),.int (k1:Nat)]) (.cons (.n lI1) (.cons (.n lJ1) (.cons (.n lK1) .nil))) (by simp)) (.mem mS) (.head _) (by rw [List.length_map]; exact as3 3 (.t Z0 (.n 64)) (.l Z1 Z2) (.t Z2 Z0) (.l Z1 (.n 1000000)) [_,_,_] hz hlen htl) (s_nil ?_) (hE:=fun _ h=>e_method h))
     rw [show out.map naV ++ [V.tup .none [.int (i1:Nat),.int (j1:Nat),.int (k1:Nat)]] = (out ++ [(i1,j1,k1)]).map naV by rw [List.map_append]; rfl]
     exact Less.refl _ _
    ·have g':=of_decide_eq_false g
     rw [if_pos (Decidable.not_not.mp g'),List.append_nil]
     exact s_nil (Less.refl _ _)
   refine s_cons (s1_swapP hn (by kernel_rfl) (.n lI2) (.n lJ2) (.n lK2) lI1 lJ1 lK1 (s_nil (s_nil (hQ1 .next _ _ ⟨i2,j2,k2,_,he,?_,less_m LessM.k⟩))))
   rw [List.length_append]; split <;> simp <;> (first | exact as1 2 (.l Z0 Z1) (.l Z0 (.a Z1 N1)) [_,_] hlen | exact as1 2 (.l Z0 Z1) (.l Z0 Z1) [_,_] hlen)
 ·rintro m2 H2 ⟨i1,j1,k1,out,he,hlen,hl⟩
  rw [List.length_map,List.drop_length,mrg_nil] at he
  refine WPs.less hl ?_
  rw [List.length_map] at hlen
  refine s_to (naM na mb x la lb i1 j1 k1) (naH na mb x d fs H (mrg (0,0,0) L) L) ?_ ?_
  ·rw [← he]
   refine s1_ifP (.nat lK1 (by with_unfolding_all rfl)) (fun g=>?_) (fun g=>?_)
   ·rw [if_neg (of_decide_eq_true g)]
    refine s_cons (s1_append (Pu.n lN) (.tup (xs:=[.int (i1:Nat),.int (j1:Nat),.int (k1:Nat)]) (.cons (.n lI1) (.cons (.n lJ1) (.cons (.n lK1) .nil))) (by simp)) (.mem mS) (.head _) (by rw [List.length_map]; exact as2 2 (.t Z0 (.n 64)) (.l Z1 Z0) (.l Z1 (.n 1000000)) [_,_] hz hlen) (s_nil ?_) (hE:=fun _ h=>e_method h))
    rw [show out.map naV ++ [V.tup .none [.int (i1:Nat),.int (j1:Nat),.int (k1:Nat)]] = (out ++ [(i1,j1,k1)]).map naV by rw [List.map_append]; rfl]
    exact Less.refl _ _
   ·have g':=of_decide_eq_false g
    rw [if_pos (Decidable.not_not.mp g'),List.append_nil]
    exact s_nil (Less.refl _ _)
  have hml:=mrg_len L (0,0,0)
  generalize mrg (0,0,0) L = M at hml hQ0
  clear he hlen hl
  refine s_cons (s1_append (Pu.n lN) (.tup (xs:=[.int (la:Nat),.int (lb:Nat),.int ((0:Nat):Int)]) (.cons (.n lLa) (.cons (.n lLb) (.cons .one .nil))) (by simp)) (.mem mS) (.head _) (by rw [List.length_map]; exact as2 2 (.t Z0 (.n 64)) (.l Z1 (.a Z0 N1)) (.l Z1 (.n 1000000)) [_,_] hz hml) ?_ (hE:=fun _ h=>e_method h))
  rw [show M.map naV ++ [V.tup .none [.int (la:Nat),.int (lb:Nat),.int ((0:Nat):Int)]] = (M ++ [(la,lb,0)]).map naV by rw [List.map_append]; rfl]
  refine s_cons (s1_to (e_list_map hf gl gm (e_attr (e_glob gM (a_cls_cm B (mc:=.type "type") (match_reads p) (match_cm p) (match_cmr p) fun f=>?_)))))
  refine (Pu.n lN) _ ⟨.ref f,na,(M ++ [(la,lb,0)]).map naV,asMatch,rfl,rfl,.mem (mT mS),?_,fun c2 M2 hk2 v hv Q hQ=>?_,fun r=>?_⟩
  ·rw [List.length_map,List.length_append,List.length_singleton]; exact as2 2 (.t Z0 (.n 64)) (.l Z1 (.a Z0 N1)) (.l (.a Z1 N1) (.n 1000)) [_,_] hz hml
  ·obtain ⟨x,_,rfl⟩:=List.mem_map.mp hv
   exact (cal_meth (.mem mS) (make_cal p hk2 (M2.base B) hQ)).cal
  rw [List.map_map]
  refine asg_attr ((Pu.n lSe) _ (set_inst B hC (by kernel_rfl) (.mem (mT (mT (mT (mT mS))))) (.tail (.tail (.tail (.tail (.tail (.head _)))))) ?_ (by exact as1 1 (.l Z0 (.n 90)) (.l Z0 (.n 1000)) [_] hzf)))
  refine s_cons (s1_return ((Pu.attr B hC (.mem (mT (mT (mT (mT mS))))) (.mem (mT (mT (mT (mT (mT mS)))))) (by kernel_rfl) (.n lSe) rfl) _ ?_))
  exact hQ0 _ _ _ ⟨r,rfl,less_of LessM.nil (.cons_cons _ (.cons _ (.cons _ (.cons _ (.cons_cons _ (.cons_cons _ (.refl _)))))))⟩
theorem s1_swapP2 {c:Ctx} {m:Lo} {H:Hp} {pos:Pos} {ns:List (Str × NameKind)} {ts:List Expr} {e1 e2:Expr} {k1 k2:Nat} {p p2:Pos} {x y:Str} {a b:At} {Q:Fl→Lo→Hp→Prop} (hn:c.env.scope.names = ns) (hb:swappedStores [.Tuple ts k1 p] (.Tuple [e1,e2] k2 p2) (nsEnv ns) = pure (some [x,y]))
  (h1:Pu c e1 m H (.at a)) (h2:Pu c e2 m H (.at b)) (lx:Lc c x) (ly:Lc c y) (h:Q .next ((x,.at a) :: (y,.at b) :: m) H)
  (hs:autoParam (swapsWithSole [.Tuple ts k1 p] (.Tuple [e1,e2] k2 p2) pos.line c.env = pure false) auRfl)
  (s1:autoParam (starEach [e1,e2] c.env = (false,eval e1 c.env) :: starEach [e2] c.env) auRfl) (s2:autoParam (starEach [e2] c.env = (false,eval e2 c.env) :: starEach [] c.env) auRfl):WP1 c (.Assign [.Tuple ts k1 p] (.Tuple [e1,e2] k2 p2) pos) m H Q:=
 s1_swap2 hn hb (e_tuple (items_cons (h1 _ (items_cons (h2 _ (items_nil ⟨[a,b],rfl,Nat.le_of_ble_eq_true rfl,a,b,rfl,sto_local ly.1 (sto_local lx.1 h)⟩)) s2)) s1)) hs
theorem gmb_ok (p:Params) (c:Ctx) {k:Nat} (hf:c.fuel = k + 1 + 1 + 1) (B:Base c (K06 p)) (hs:c.env.scope = (fdIn (K06 p) 203).scope) {H:Hp} {x d ra rb D S:Addr} {fs:List (Str × V)} {as bs:List Int} {ep:Nat} {es:List (IS × V)} {z:Raw} {ks:List IS} {idx:Int→List Nat}
  (hm:fs.lookup ("matching_blocks":Str) = some .none) (hfm:fs.lookup ("find_longest_match":Str) = .none) (ha:fs.lookup ("a":Str) = some (.ref ra)) (hb:fs.lookup ("b":Str) = some (.ref rb)) (hD:fs.lookup ("b2j":Str) = some (.ref D)) (hS:fs.lookup ("bjunk":Str) = some (.ref S))
  (hra:(ra,O.list (as.map .int))∈H) (hrb:(rb,O.list (bs.map .int))∈H) (hes:(D,O.dict ep es)∈H) (hks:(S,O.set z ks)∈H) (hidx:IdxOk H es idx) (hpw:∀ v,(idx v).Pairwise (· < ·)) (hpn:∀ v,(idx v).length≤1000) (h5:as.length≤1000) (h6:bs.length≤1000) (hmin:as.length < 64 ∨ bs.length < 64) (hzf:fs.length≤90) :
  WPs c (bodyIn (fdIn (K06 p) 203)) [("self",.ref x)] ((x,.inst 242 d) :: (d,.ns fs) :: H)
   fun f _ H'=>∃ r L,f = .ret (.ref r)∧Blk (flmQ as bs) (idxE as idx) (flmD bs ks) 0 as.length 0 bs.length L∧Less [] H' [] ((r,.list ((mrg (0,0,0) L ++ [(as.length,bs.length,0)]).map (triV 135))) :: (x,.inst 242 d) :: (d,.ns (("matching_blocks",.ref r) :: fs)) :: H):=by
 have hn:=congrArg Scope.names hs
 conv at hn=>rhs; whnf
 refine WPs.cutk fun Q0 hQ0=>?_
 have hC:=cls02 p
 have gl:Glob c "len" (.bi "len"):=B.len hn (by kernel_rfl)
 have lSe:Lc c "self":=lc_of hn (by kernel_rfl)
 have lLa:Lc c "la":=lc_of hn (by kernel_rfl)
 have lLb:Lc c "lb":=lc_of hn (by kernel_rfl)
 have lQ:Lc c "queue":=lc_of hn (by kernel_rfl)
 have lM:Lc c "matching_blocks":=lc_of hn (by kernel_rfl)
 have sx:Sees c ((x,.inst 242 d) :: (d,.ns fs) :: H) x (.inst 242 d):=.mem mS
 have sd:Sees c ((x,.inst 242 d) :: (d,.ns fs) :: H) d (.ns fs):=.mem (mT mS)
 refine s_cons (s1_expr (e_str ?_))
 refine s_cons (s1_ifP (.isntNone (Pu.attr B hC sx sd (by kernel_rfl) (.n lSe) hm) .nn) (fun h=>nomatch h) fun _=>s_nil ?_)
 refine s_cons (s1_swapP2 hn (by kernel_rfl) (.len gl (Pu.attr B hC sx sd (by kernel_rfl) (.n lSe) ha) (.mem (mT (mT hra))) (by rw [List.length_map]; exact as1 1 (.l Z0 (.n 1000)) (.l Z0 (.n 1000000)) [_] h5) (hE:=fun _ h=>e_call h)) (.len gl (Pu.attr B hC sx sd (by kernel_rfl) (.n lSe) hb) (.mem (mT (mT hrb))) (by rw [List.length_map]; exact as1 1 (.l Z0 (.n 1000)) (.l Z0 (.n 1000000)) [_] h6) (hE:=fun _ h=>e_call h)) lLa lLb ?_)
 rw [List.length_map,List.length_map]
 refine s_cons (s1_assign (e_list (items_cons (Pu.tup (xs:=[.int 0,.int (as.length:Nat),.int 0,.int (bs.length:Nat)]) (.cons .one (.cons (.n lLa) (.cons .one (.cons (.n lLb) .nil)))) (by simp) _ (items_nil ⟨Nat.le_of_ble_eq_true rfl,fun qu=>sto_local lQ.1 ?_⟩)))))
 refine s_cons (s1_assign (e_list (items_nil ⟨Nat.le_of_ble_eq_true rfl,fun mb=>sto_local lM.1 ?_⟩)))
 refine WPs.less (less_m (m':=gmbM mb qu x as.length bs.length) LessM.k) ?_
 refine gmb_queue p c hf B hs hfm ha hb hD hS hra hrb hes hks hidx hpw hpn h5 h6 fun ms m H2 htd hl=>?_
 obtain ⟨L,hL,hp⟩:=htd.done
 obtain ⟨p1,p2,p3,p4⟩:=hL.props (Nat.zero_le _) (Nat.zero_le _)
 refine WPs.less hl (WPs.mono (gmb_merge p c hf B hs hzf hp p2 (fun x hx=>(p1 x hx).2.2.2.2) (by exact as3 3 (.o (.t Z0 (.n 64)) (.t Z1 (.n 64))) (.l Z2 (.s Z0 (.n 0))) (.l Z2 (.s Z1 (.n 0))) (.t Z2 (.n 64)) [_,_,_] hmin p3 p4)) ?_)
 rintro f m' H' ⟨r,rfl,hl2⟩
 exact hQ0 _ _ _ ⟨r,L,rfl,hL,hl2⟩
theorem gmb_cal (p:Params) {c:Ctx} {k:Nat} (hf:c.fuel = k + 1 + 1 + 1 + 1) (B:Base c (K06 p)) {m:Lo} {Q:V→Lo→Hp→Prop} {H:Hp} {x d ra rb D S:Addr} {fs:List (Str × V)} {as bs:List Int} {ep:Nat} {es:List (IS × V)} {z:Raw} {ks:List IS} {idx:Int→List Nat}
  (hm:fs.lookup ("matching_blocks":Str) = some .none) (hfm:fs.lookup ("find_longest_match":Str) = .none) (ha:fs.lookup ("a":Str) = some (.ref ra)) (hb:fs.lookup ("b":Str) = some (.ref rb)) (hD:fs.lookup ("b2j":Str) = some (.ref D)) (hS:fs.lookup ("bjunk":Str) = some (.ref S))
  (hra:(ra,O.list (as.map .int))∈H) (hrb:(rb,O.list (bs.map .int))∈H) (hes:(D,O.dict ep es)∈H) (hks:(S,O.set z ks)∈H) (hidx:IdxOk H es idx) (hpw:∀ v,(idx v).Pairwise (· < ·)) (hpn:∀ v,(idx v).length≤1000) (h5:as.length≤1000) (h6:bs.length≤1000) (hmin:as.length < 64 ∨ bs.length < 64) (hzf:fs.length≤90)
  (h:∀ r L,Blk (flmQ as bs) (idxE as idx) (flmD bs ks) 0 as.length 0 bs.length L→Q (.ref r) m ((r,.list ((mrg (0,0,0) L ++ [(as.length,bs.length,0)]).map (triV 135))) :: (x,.inst 242 d) :: (d,.ns (("matching_blocks",.ref r) :: fs)) :: H)):CalC c (.ref 203) [.ref x] m ((x,.inst 242 d) :: (d,.ns fs) :: H) Q:=by
 refine cal_K (fd:=fdIn (K06 p) 203) (bs:=List.zip [("self":Str)] [V.ref x]) B hf (fnOk_of (by kernel_rfl)) (by kernel_rfl) (by kernel_rfl) (fun s vvs X r=>binds_plain rfl (fun vvs hl=>?_) s vvs X r) fun L c2 hc hk B2=>?_
 ·exact bind1 (fun v0=>by kernel_rfl) vvs hl
 ·have e1:locOf (fdIn (K06 p) 203).scope.names (List.zip [("self":Str)] [V.ref x]) = [(("self":Str),V.ref x)]:=by kernel_rfl
  have e2:cellsAt L (fdIn (K06 p) 203) (List.zip [("self":Str)] [V.ref x]) = []:=by kernel_rfl
  rw [e1,e2]
  refine WPs.post (WPs.mono (gmb_ok p c2 hk B2 hc.scope hm hfm ha hb hD hS hra hrb hes hks hidx hpw hpn h5 h6 hmin hzf) ?_)
  rintro f m' H' ⟨r,L,rfl,hL,hl⟩
  exact ⟨[],_,⟨(fun _ _ e=>nomatch e),hl.2⟩,h r L hL⟩
section
open PySem PySem.W PyProof.Rows
open Float64
theorem log2_scale {n:Nat} (h:n≠0):∀ x:Nat,(n * 2 ^ x).log2 = n.log2 + x
 | 0=>by rw [Nat.pow_zero,Nat.mul_one,Nat.add_zero]
 | x + 1=>by
  rw [Nat.pow_succ,← Nat.mul_assoc,Nat.mul_comm,Nat.log2_two_mul (Nat.mul_ne_zero h (Nat.ne_of_gt (Nat.two_pow_pos x))),log2_scale h x]; rfl
theorem shift_scale (n d x:Nat) (k:Int):shift (n * 2 ^ x) (d * 2 ^ x) k = ((shift n d k).1 * 2 ^ x,(shift n d k).2 * 2 ^ x):=by
 unfold shift
 split
 ·exact Prod.ext (Nat.mul_right_comm _ _ _) rfl
 ·exact Prod.ext rfl (Nat.mul_right_comm _ _ _)
theorem halfEven_scale (n d x:Nat):halfEven (n * 2 ^ x) (d * 2 ^ x) = halfEven n d:=by
 have hp:=Nat.two_pow_pos x
 unfold halfEven
 rw [Nat.mul_div_mul_right _ _ hp,Nat.mul_mod_mul_right]
 dsimp only
 rw [← Nat.mul_assoc]
 have e1:(2 * (n % d) * 2 ^ x > d * 2 ^ x) = (2 * (n % d) > d):=propext (Nat.mul_lt_mul_right hp)
 have e2:(2 * (n % d) * 2 ^ x == d * 2 ^ x) = (2 * (n % d) == d):=by
  rw [Bool.eq_iff_iff,beq_iff_eq,beq_iff_eq]; exact Nat.mul_left_inj (Nat.ne_of_gt hp)
 rw [e2]
 simp only [e1]
theorem roundMag_scale {n d:Nat} (hn:n≠0) (hd:d≠0) (x:Nat):roundMag (n * 2 ^ x) (d * 2 ^ x) = roundMag n d:=by
 have hp:=Nat.two_pow_pos x
 unfold roundMag
 rw [log2_scale hn,log2_scale hd,if_neg (fun e=>Nat.mul_ne_zero hn (Nat.ne_of_gt hp) (beq_iff_eq.mp e)),if_neg (fun e=>hn (beq_iff_eq.mp e))]
 have el:(((n.log2 + x:Nat):Int) - ((d.log2 + x:Nat):Int)) = (n.log2:Int) - (d.log2:Int):=by rw [Int.natCast_add,Int.natCast_add]; exact Int.add_sub_add_right _ _ _
 rw [el]
 simp only [shift_scale,halfEven_scale]
 have eg:∀ a b:Nat,(a * 2 ^ x ≥ b * 2 ^ x) = (a ≥ b):=fun a b=>propext (Nat.mul_le_mul_right_iff hp)
 simp only [eg]
noncomputable def flChk (m:Nat):Bool:=match decode (ofInt (m:Nat)) with
 | .fin false k e=>k == m * 2 ^ (52 - m.log2) && e == -((52 - m.log2:Nat):Int)
 | _=>false
theorem flChk_all:(List.range 256).all (fun m=>m == 0 || flChk m) = true:=by kernel_rfl
theorem fl_dec {m:Nat} (h0:m≠0) (h:m < 256):decode (ofInt (m:Nat)) = .fin false (m * 2 ^ (52 - m.log2)) (-((52 - m.log2:Nat):Int)):=by
 have c:=List.all_eq_true.mp flChk_all m (List.mem_range.mpr h)
 rw [Bool.or_eq_true] at c
 have c:=c.resolve_left (by simpa using h0)
 unfold flChk at c
 generalize decode (ofInt (m:Nat)) = q at c
 cases q with
 | nan=>cases c
 | inf _=>cases c
 | fin s k e=>
  cases s with
  | true=>cases c
  | false=>
   rw [Bool.and_eq_true,beq_iff_eq,beq_iff_eq] at c
   rw [c.1,c.2]
theorem fl_mulAll:(List.range 128).all (fun m=>mul 0x4000000000000000 (ofInt (m:Nat)) == ofInt ((2 * m:Nat):Nat)) = true:=by kernel_rfl
theorem fl_mul {m:Nat} (h:m < 128):mul 0x4000000000000000 (ofInt (m:Nat)) = ofInt ((2 * m:Nat):Nat):=beq_iff_eq.mp (List.all_eq_true.mp fl_mulAll m (List.mem_range.mpr h))
theorem fl_zero:decode (ofInt (0:Nat)) = .fin false 0 (-1074):=by kernel_rfl
theorem round_zero (d:Nat):roundMag 0 d = 0:=by unfold roundMag; rfl
theorem fl_div {a n:Nat} (ha:a < 256) (h0:n≠0) (hn:n < 256):Float64.div (ofInt (a:Nat)) (ofInt (n:Nat)) = ofFrac false a n:=by
 unfold Float64.div
 rw [fl_dec h0 hn]
 have hk:n * 2 ^ (52 - n.log2)≠0:=Nat.mul_ne_zero h0 (Nat.ne_of_gt (Nat.two_pow_pos _))
 by_cases z:a = 0
 ·subst z
  rw [fl_zero]
  simp only [beq_eq_false_iff_ne.mpr hk,Bool.false_eq_true,if_false]
  unfold shift ofFrac
  split
  ·simp only [Nat.zero_mul,round_zero]; rfl
  ·simp only [round_zero]; rfl
 ·rw [fl_dec z ha]
  simp only [beq_eq_false_iff_ne.mpr hk,Bool.false_eq_true,if_false]
  unfold shift ofFrac
  split
  ·rename_i q
   dsimp only
   rw [show (false != false) = false from rfl]
   have e:(-((52 - a.log2:Nat):Int) - -((52 - n.log2:Nat):Int)).toNat + (52 - a.log2) = 52 - n.log2:=by omega
   rw [Nat.mul_assoc,← Nat.pow_add,Nat.add_comm,e,roundMag_scale z h0]
  ·rename_i q
   dsimp only
   rw [show (false != false) = false from rfl]
   have e:(-(-((52 - a.log2:Nat):Int) - -((52 - n.log2:Nat):Int))).toNat + (52 - n.log2) = 52 - a.log2:=by omega
   rw [Nat.mul_assoc,← Nat.pow_add,Nat.add_comm,e,roundMag_scale z h0]
theorem fl_infAll:(List.range 256).all (fun m=>!isInf (ofInt (m:Nat)) && (m == 0 || !isZero (ofInt (m:Nat)))) = true:=by kernel_rfl
theorem fl_inf {m:Nat} (h:m < 256):¬ isInf (ofInt (m:Nat)) = true:=by
 have c:=List.all_eq_true.mp fl_infAll m (List.mem_range.mpr h)
 rw [Bool.and_eq_true,Bool.not_eq_true'] at c
 rw [c.1]; decide
theorem fl_nz {m:Nat} (h0:m≠0) (h:m < 256):¬ isZero (ofInt (m:Nat)) = true:=by
 have c:=List.all_eq_true.mp fl_infAll m (List.mem_range.mpr h)
 rw [Bool.and_eq_true,Bool.or_eq_true,Bool.not_eq_true',Bool.not_eq_true'] at c
 rw [c.2.resolve_left (by simpa using h0)]; decide
noncomputable def ratF (m n:Nat):UInt64:=ofFrac false (2 * m) n
theorem fl_ratio {m n:Nat} (hm:m < 128) (h0:n≠0) (hn:n < 256):Float64.div (mul 0x4000000000000000 (ofInt (m:Nat))) (ofInt (n:Nat)) = ratF m n:=by
 rw [fl_mul hm,fl_div (Nat.lt_of_lt_of_le (Nat.mul_lt_mul_of_pos_left hm (by decide)) (by decide)) h0 hn]; rfl
end
theorem ratF_small {a n:Nat} (ha:a < 256) (h0:n≠0):Float64.isInf (Float64.ofFrac false a n) = false:=by
 have h1:Float64.roundMag a n≠Float64.infMag:=fun e=>by
  have q:=(Float64.roundMag_over (Nat.pos_of_ne_zero h0)).mp e
  have a1:1 * ((2 ^ 54 - 1) * 2 ^ 2045)≤n * ((2 ^ 54 - 1) * 2 ^ 2045):=Nat.mul_le_mul_right _ (Nat.pos_of_ne_zero h0)
  have a2:2 * (a * 2 ^ 1074)≤2 * (256 * 2 ^ 1074):=Nat.mul_le_mul_left _ (Nat.mul_le_mul_right _ (Nat.le_of_lt ha))
  exact absurd (Nat.le_trans (Nat.le_trans a1 q) a2) (by decide +kernel)
 have hl:=PySem.W.roundMag_le a n
 have h2:Float64.roundMag a n < 2047 * 2 ^ 52:=Nat.lt_of_le_of_ne hl h1
 unfold Float64.ofFrac Float64.pack Float64.isInf Float64.decode
 generalize Float64.roundMag a n = r at h2
 have e:((if false = true then 2 ^ 63 else 0) + r).toUInt64.toNat = r:=by
  rw [if_neg (by decide),Nat.zero_add]
  exact Nat.mod_eq_of_lt (Nat.lt_trans h2 (by decide +kernel))
 rw [e]
 have d:(r / 2 ^ 52 % 2048 == 2047) = false:=by
  rw [beq_eq_false_iff_ne]
  intro q
  have:r / 2 ^ 52 < 2047:=Nat.div_lt_of_lt_mul (by rw [Nat.mul_comm]; exact h2)
  rw [Nat.mod_eq_of_lt (Nat.lt_trans this (by decide))] at q
  exact Nat.ne_of_lt this q
 simp only [d,Bool.false_eq_true,if_false]
 by_cases z:(r / 2 ^ 52 % 2048 == 0) = true
 ·rw [if_pos z]
 ·rw [if_neg z]
theorem cmp_int (x:Int):compare x x = Ordering.eq:=by
 show compareOfLessAndEq x x = _
 unfold compareOfLessAndEq
 rw [if_neg (Int.lt_irrefl x),if_pos rfl]
theorem cmp_ratF (m n:Nat):Float64.cmp (ratF m n) (ratF m n) = some .eq:=by
 have h:Float64.isNaN (ratF m n) = false:=by unfold ratF Float64.ofFrac; exact PySem.W.isNaN_pack _ (PySem.W.roundMag_le _ _)
 unfold Float64.isNaN at h
 unfold Float64.cmp
 generalize Float64.decode (ratF m n) = q at h
 cases q with
 | nan=>cases h
 | inf a=>cases a <;> rfl
 | fin a k e=>
  dsimp only
  unfold Float64.align
  rw [cmp_int]
section
variable {c:Ctx} {m:Lo} {H:Hp} {pos p1 p2:Pos} {Q:V→Lo→Hp→Prop}
theorem Pu.flo {f:UInt64} {k:Nat}:Pu c (.Constant (.float f) k pos) m H (.float f):=fun Q h s R=>.val R h fun P k=>wpAny_Constant_float (k _ _ ⟨_,rfl⟩)
theorem o_mulF {f:UInt64} {b:Int} (h:Q (.float (Float64.mul f (Float64.ofInt b))) m H) (h0:¬ Float64.isInf (Float64.ofInt b) = true):Op2 c .Mult (.float f) (.int b) m H Q:=fun s va vb R ra rb=>by
 obtain ⟨t,rfl⟩:=ra; obtain ⟨u,rfl⟩:=rb
 exact .val R h fun P k=>AutoFloatOps.mul_fi_1 h0 (k _ _ ⟨_,rfl⟩)
theorem o_divF {f:UInt64} {b:Int} (h:Q (.float (Float64.div f (Float64.ofInt b))) m H) (h0:¬ Float64.isInf (Float64.ofInt b) = true) (h1:¬ Float64.isZero (Float64.ofInt b) = true):Op2 c .Div (.float f) (.int b) m H Q:=fun s va vb R ra rb=>by
 obtain ⟨t,rfl⟩:=ra; obtain ⟨u,rfl⟩:=rb
 exact .val R h fun P k=>AutoFloatOps.truediv_fi_2 h0 h1 (k _ _ ⟨_,rfl⟩)
theorem o_divN {a n:Nat} (h:Q (.float (Float64.ofFrac false a n)) m H) (ha:a < 256) (h0:n≠0):Op2 c .Div (.int a) (.int n) m H Q:=fun s va vb R ra rb=>by
 obtain ⟨t,rfl⟩:=ra; obtain ⟨u,rfl⟩:=rb
 have e:(decide ((a:Int) < 0) != decide ((n:Int) < 0)) = false:=by
  rw [decide_eq_false (Int.not_lt.mpr (Int.natCast_nonneg a)),decide_eq_false (Int.not_lt.mpr (Int.natCast_nonneg n))]; rfl
 refine .val R h fun P k=>AutoIntOps.truediv_2 (by simpa using h0) ?_ ?_
 ·rw [e,Int.natAbs_natCast,Int.natAbs_natCast,ratF_small ha h0]; decide
 ·rw [e,Int.natAbs_natCast,Int.natAbs_natCast]; exact k _ _ ⟨_,rfl⟩
theorem c_neF {f g:UInt64} (h:Q (.bool (Float64.cmp f g != some .eq)) m H):Cmp c .NotEq (.float f) (.float g) m H Q:=fun s va vb R ra rb=>by
 obtain ⟨t,rfl⟩:=ra; obtain ⟨u,rfl⟩:=rb
 exact .val R h fun P k=>AutoFloatOps.ne_0 (k _ _ rfl)
theorem Pu.divN {l r:Expr} {a n:Nat} (h1:Pu c l m H (.int a)) (h2:Pu c r m H (.int n)) (ha:a < 256) (h0:n≠0):Pu c (.BinOp l .Div r pos) m H (.float (Float64.ofFrac false a n)):=fun _ h=>e_binop (h1 _ (h2 _ (o_divN h ha h0)))
noncomputable def ratV (m n:Nat):UInt64:=if n = 0 then 0x3ff0000000000000 else ratF m n
end
theorem ratio_ok (p:Params) (c:Ctx) (hs:c.env.scope = (fdIn (K06 p) 145).scope) {H:Hp} {m n:Nat} (hm:m < 128) (hn2:n < 256)
  :WPs c (bodyIn (fdIn (K06 p) 145)) [("length",.int n),("matches",.int m)] H fun f m' H'=>f = .ret (.float (ratV m n))∧H' = H:=by
 have hn:=congrArg Scope.names hs
 conv at hn=>rhs; whnf
 have lL:Lc c "length":=lc_of hn (by kernel_rfl)
 have lM:Lc c "matches":=lc_of hn (by kernel_rfl)
 unfold ratV
 refine s_cons (s1_if (t_value ((Pu.n lL) _ (tru_int (if_b (fun h=>?_) fun h=>?_))) (by intro _; rfl)))
 ·have h0:n≠0:=fun e=>by subst e; cases h
  rw [if_neg h0,← fl_ratio hm h0 hn2]
  exact s_cons (s1_return (e_binop (e_binop (Pu.flo _ ((Pu.n lM) _ (o_mulF ((Pu.n lL) _ (o_divF ⟨rfl,rfl⟩ (fl_inf hn2) (fl_nz h0 hn2))) (fl_inf (Nat.lt_trans hm (by decide)))))))))
 ·have h0:n = 0:=by simpa using h
  rw [if_pos h0]
  exact s_nil (s_cons (s1_return (Pu.flo _ ⟨rfl,rfl⟩)))
theorem ratio_fn (p:Params) {c:Ctx} {k:Nat} (hf:c.fuel = k + 1) (B:Base c (K06 p)) {m:Lo} {Q:V→Lo→Hp→Prop} {H:Hp} {a n:Nat} (ha:a < 128) (hn:n < 256) (h:Q (.float (ratV a n)) m H):CalC c (.ref 145) [.int a,.int n] m H Q:=by
 refine cal_K (fd:=fdIn (K06 p) 145) (bs:=List.zip [("matches":Str),"length"] [V.int a,.int n]) B hf (fnOk_of (by kernel_rfl)) (by kernel_rfl) (by kernel_rfl) (fun s vvs X r=>binds_plain rfl (fun vvs hl=>?_) s vvs X r) fun L c2 hc hk B2=>?_
 ·exact bind2 (fun v0 v1=>by kernel_rfl) vvs hl
 ·have e1:locOf (fdIn (K06 p) 145).scope.names (List.zip [("matches":Str),"length"] [V.int a,.int n]) = [(("length":Str),V.int n),("matches",.int a)]:=by kernel_rfl
  have e2:cellsAt L (fdIn (K06 p) 145) (List.zip [("matches":Str),"length"] [V.int a,.int n]) = []:=by kernel_rfl
  rw [e1,e2]
  refine WPs.post (WPs.mono (ratio_ok p c2 hc.scope ha hn) ?_)
  rintro f m' H' ⟨rfl,rfl⟩
  exact ⟨[],_,⟨(fun _ _ e=>nomatch e),fun _ h=>h,id⟩,h⟩
section
variable {c:Ctx} {m:Lo} {H:Hp} {pos:Pos}
theorem k_min {Q:V→Lo→Hp→Prop} {a b:Nat} (h:Q (.int (min a b:Nat)) m H):Cal c (.bi "min") [.int a,.int b] m H Q:=fun s vf vvs R rf rv=>by
 cases (rf:vf = _)
 obtain ⟨va,vb,rfl,ra,rb⟩:=rv.two
 obtain ⟨t,rfl⟩:=ra; obtain ⟨u,rfl⟩:=rb
 refine .grow R h fun P k=>min_two_ints c.hh fun h' tk hg=>?_
 by_cases e:(b:Int) < a
 ·rw [if_pos e]; exact k _ h' tk hg ⟨u,by rw [Nat.min_eq_right (Int.ofNat_le.mp (Int.le_of_lt e))]⟩
 ·rw [if_neg e]; exact k _ h' tk hg ⟨t,by rw [Nat.min_eq_left (Int.ofNat_le.mp (Int.not_lt.mp e))]⟩
theorem Pu.min {a b:Nat} {l r:Expr} {p1:Pos} (gm:Glob c "min" (.bi "min")) (h1:Pu c l m H (.int a)) (h2:Pu c r m H (.int b))
  (he:autoParam (starEach [l,r] c.env = (false,eval l c.env) :: starEach [r] c.env) auRfl) (he2:autoParam (starEach [r] c.env = (false,eval r c.env) :: starEach [] c.env) auRfl)
  (hE:∀ Q,(WPe c (.Name ("min":Str) p1) m H fun f m0 H0=>WPitems c pos [l,r] m0 H0 fun vs m1 H1=>KeepOk c f H1∧Cal c f vs m1 H1 Q)→WPe c (.Call (.Name ("min":Str) p1) [l,r] [] pos) m H Q):Pu c (.Call (.Name ("min":Str) p1) [l,r] [] pos) m H (.int (Min.min a b:Nat)):=
 .call2 (.glob gm (hd:=by decide)) h1 h2 keep_bi (fun _ h=>k_min h) he he2 hE
end
theorem gRatio (p:Params) {c:Ctx} (B:Base c (K06 p)) {ns:List (Str × NameKind)} (hn:c.env.scope.names = ns) (h:ns.lookup ("_calculate_ratio":Str) = some .globalImplicit):Glob c "_calculate_ratio" (.ref 145):=B.glob (kind_of hn h) (by kernel_rfl) rfl
theorem rqr_ok (p:Params) (c:Ctx) {k:Nat} (hf:c.fuel = k + 1) (B:Base c (K06 p)) (hs:c.env.scope = (fdIn (K06 p) 239).scope) {H:Hp} {x d ra rb:Addr} {fs:List (Str × V)} {as bs:List V}
  (hx:(x,O.inst 242 d)∈H) (hd:(d,O.ns fs)∈H) (ha:fs.lookup ("a":Str) = some (.ref ra)) (hb:fs.lookup ("b":Str) = some (.ref rb)) (hra:(ra,O.list as)∈H) (hrb:(rb,O.list bs)∈H) (h5:as.length < 128) (h6:bs.length < 128)
  :WPs c (bodyIn (fdIn (K06 p) 239)) [("self",.ref x)] H fun f m' H'=>f = .ret (.float (ratV (min as.length bs.length) (as.length + bs.length)))∧H' = H:=by
 have hn:=congrArg Scope.names hs
 conv at hn=>rhs; whnf
 have hC:=cls02 p
 have gl:Glob c "len" (.bi "len"):=B.len hn (by kernel_rfl)
 have gm:Glob c "min" (.bi "min"):=B.min hn (by kernel_rfl)
 have gC:=gRatio p B hn (by kernel_rfl)
 have lSe:Lc c "self":=lc_of hn (by kernel_rfl)
 have lLa:Lc c "la":=lc_of hn (by kernel_rfl)
 have lLb:Lc c "lb":=lc_of hn (by kernel_rfl)
 refine s_cons (s1_expr (e_str ?_))
 refine s_cons (s1_swapP2 hn (by kernel_rfl) (.len gl (Pu.attr B hC (.mem hx) (.mem hd) (by kernel_rfl) (.n lSe) ha) (.mem hra) (Nat.le_trans (Nat.le_of_lt h5) (by decide)) (hE:=fun _ h=>e_call h)) (.len gl (Pu.attr B hC (.mem hx) (.mem hd) (by kernel_rfl) (.n lSe) hb) (.mem hrb) (Nat.le_trans (Nat.le_of_lt h6) (by decide)) (hE:=fun _ h=>e_call h)) lLa lLb ?_)
 exact s_cons (s1_return (e_call (e_glob gC (items_cons ((Pu.min gm (.n lLa) (.n lLb) (hE:=fun _ h=>e_call h)) _ (items_cons ((Pu.addN (.n lLa) (.n lLb)) _ (items_nil ⟨keep_K B (by kernel_rfl),CalC.cal (ratio_fn p hf B (Nat.lt_of_le_of_lt (Nat.min_le_left _ _) h5) (Nat.lt_of_lt_of_le (Nat.add_lt_add h5 h6) (by decide)) ⟨rfl,rfl⟩)⟩))))))))
theorem rqr_fn (p:Params) {c:Ctx} {k:Nat} (hf:c.fuel = k + 1 + 1) (B:Base c (K06 p)) {m:Lo} {Q:V→Lo→Hp→Prop} {H:Hp} {x d ra rb:Addr} {fs:List (Str × V)} {as bs:List V}
  (hx:(x,O.inst 242 d)∈H) (hd:(d,O.ns fs)∈H) (ha:fs.lookup ("a":Str) = some (.ref ra)) (hb:fs.lookup ("b":Str) = some (.ref rb)) (hra:(ra,O.list as)∈H) (hrb:(rb,O.list bs)∈H) (h5:as.length < 128) (h6:bs.length < 128)
  (h:Q (.float (ratV (min as.length bs.length) (as.length + bs.length))) m H):CalC c (.ref 239) [.ref x] m H Q:=by
 refine cal_K (fd:=fdIn (K06 p) 239) (bs:=List.zip [("self":Str)] [V.ref x]) B hf (fnOk_of (by kernel_rfl)) (by kernel_rfl) (by kernel_rfl) (fun s vvs X r=>binds_plain rfl (fun vvs hl=>?_) s vvs X r) fun L c2 hc hk B2=>?_
 ·exact bind1 (fun v0=>by kernel_rfl) vvs hl
 ·have e1:locOf (fdIn (K06 p) 239).scope.names (List.zip [("self":Str)] [V.ref x]) = [(("self":Str),V.ref x)]:=by kernel_rfl
  have e2:cellsAt L (fdIn (K06 p) 239) (List.zip [("self":Str)] [V.ref x]) = []:=by kernel_rfl
  rw [e1,e2]
  refine WPs.post (WPs.mono (rqr_ok p c2 hk B2 hc.scope hx hd ha hb hra hrb h5 h6) ?_)
  rintro f m' H' ⟨rfl,rfl⟩
  exact ⟨[],_,⟨(fun _ _ e=>nomatch e),fun _ h=>h,id⟩,h⟩
section
variable {c:Ctx} {m:Lo} {H:Hp} {pos:Pos} {Q:V→Lo→Hp→Prop}
theorem cal_bnd_hasD {f d:Addr} {ep:Nat} {es:List (IS × V)} {k:IS} (hf:Sees c H f (.obj (bndObj "dict.__contains__" d))) (hx:Sees c H d (.dict ep es)) (h:Q (.bool (dictAt es k).isSome) m H):Cal c (.ref f) [k.v] m H Q:=fun s vf vvs R rf rv=>by
 cases (rf:vf = _)
 obtain ⟨vk,rfl,rk⟩:=Reps.sole rv
 obtain ⟨h0,kvs,ha,hd,hp⟩:=dict_get (hx m s R)
 obtain ⟨hfo,_⟩:=hf m s R
 obtain ⟨o,des,ho,hex,hdat,_⟩:=ha
 refine .val R h fun P kk=>call_bound_meetsIn bndC_dict_has hfo ho hex.1 (fun k e=>by rw [hdat] at e; cases e) (PySem.F.args_dict_contains_2 _ _) PySem.F.entry_dict_contains (meets_dict_contains (mixKind c.prog c.w) d (isIS_rep rk) h0) ⟨_,hd.mapOf,kk _ _ ?_⟩
 cases q:dictAt es k with
 | none=>rw [hp.at.1.mp q]; rfl
 | some w=>obtain ⟨v,hv,hr⟩:=hp.at.2 w q; rw [hv]; rfl
end
section
variable {c:Ctx} {m:Lo} {H:Hp} {pos p1:Pos}
theorem s_for_ints {x:Str} {iter:Expr} {b r:List Stmt} {a:Addr} {xs:List Int} {Q:Fl→Lo→Hp→Prop} (h1:Pu c iter m H (.ref a)) (lx:Lc c x) (I:Nat→Lo→Hp→Prop) (i0:I 0 m H) (see:∀ i m2 H2,I i m2 H2→Sees c H2 a (.list (xs.map .int)))
  (step:∀ i v m2 H2,xs[i]? = some v→I i m2 H2→WPs c b ((x,.int v) :: m2) H2 fun f m4 H4=>f = .next∧I (i + 1) m4 H4) (fin:∀ m2 H2,I xs.length m2 H2→WPs c r m2 H2 Q)
  (hs:autoParam (∀ x,foldedSetIterable iter c.env x = pure x) auFun):WPs c (.For (.Name x p1) iter b [] pos :: r) m H Q:=by
 refine s_for_list (h1 _ ⟨a,xs.map .int,rfl,I,i0,see,fun i v m2 H2 hv hI=>?_,fun m2 H2 hI=>fin m2 H2 (by rwa [List.length_map] at hI)⟩) rfl hs
 rw [List.getElem?_map,Option.map_eq_some_iff] at hv
 obtain ⟨w,hw,rfl⟩:=hv
 refine asg_name (sto_local lx.1 (WPs.mono (step i w m2 H2 hw hI) ?_))
 rintro f m4 H4 ⟨rfl,q⟩
 exact q
theorem s1_setd {o i e:Expr} {d:Addr} {k:IS} {v:V} {ep:Nat} {es:List (IS × V)} {F:O→Hp} {Q:Fl→Lo→Hp→Prop} (he:Pu c e m H v) (ho:Pu c o m H (.ref d)) (hi:Pu c i m H k.v) (sp:Spot d (.dict ep es) H F) (hz:es.length≤1000000) (h:∀ ep',Q .next m (F (.dict ep' (dictPut es k v))))
  (hs:autoParam (swapsWithSole [.Subscript o i p1] e pos.line c.env = pure false) auRfl) (hw:autoParam (swappedStores [.Subscript o i p1] e c.env = pure .none) auRfl):WP1 c (.Assign [.Subscript o i p1] e pos) m H Q:=
 s1_to (he _ (asg_sub (ho _ (hi _ (seti_dict sp h hz))))) (hs:=hs) (hw:=hw)
theorem Pu.dget {o i:Expr} {apos:Pos} {d:Addr} {k:IS} {u:V} {dv:Expr} {ep:Nat} {es:List (IS × V)} (ho:Pu c o m H (.ref d)) (hi:Pu c i m H k.v) (hd:Pu c dv m H u) (hx:Sees c H d (.dict ep es)) (hE:Meth c o "get" apos [i,dv] pos)
  (s1:autoParam (starEach [i,dv] c.env = (false,eval i c.env) :: starEach [dv] c.env) auRfl) (s2:autoParam (starEach [dv] c.env = (false,eval dv c.env) :: starEach [] c.env) auRfl):Pu c (.Call (.Attribute o "get" apos) [i,dv] [] pos) m H ((dictAt es k).getD u):=fun _ h=>
 hE _ _ _ (ho _ ⟨_,_,gm_dict hx PySem.F.slot_dict_get PySem.F.type_dict_get,items_cons (hi _ (items_cons (hd _ (items_nil ⟨keep_bi,k_get hx h⟩)) s2)) s1⟩)
theorem Pu.dsub {o i:Expr} {d:Addr} {k:IS} {u:V} {ep:Nat} {es:List (IS × V)} (ho:Pu c o m H (.ref d)) (hi:Pu c i m H k.v) (hx:Sees c H d (.dict ep es)) (hu:dictAt es k = some u)
  (hs:∀ o t,subscripted i false (.ref o) t = operate [.ref o,t] (getItem (.ref o) t)):Pu c (.Subscript o i pos) m H u:=fun _ h=>e_sub (ho _ (hi _ (sub_dict hx hu h hs)))
theorem PuT.gtI {l r:Expr} {a b:Int} (h1:Pu c l m H (.int a)) (h2:Pu c r m H (.int b)) (hm:autoParam (behindInMarks .Gt r = false) auAll):PuT c (.Compare l [.Gt] [r] pos) m H (decide (b < a)):=fun _ h=>t_cmp (h1 _ (h2 _ (c_gt (tru_bool h)))) hm
end
noncomputable def CntOk (es:List (IS × V)) (l:List Int):Prop:=∀ v:Int,(dictAt es (.i v)).getD (.int 0) = .int (l.count v:Nat)
theorem CntOk.nil:CntOk [] []:=fun _=>rfl
noncomputable def AvOk (es:List (IS × V)) (cs as:List Int) (t:Nat):Prop:=∀ v:Int,dictAt es (.i v) = if v∈as.take t then some (.int ((cs.count v:Nat) - ((as.take t).count v:Nat):Int)) else .none
theorem AvOk.nil (cs as:List Int):AvOk [] cs as 0:=fun v=>by rw [List.take_zero,if_neg List.not_mem_nil]; rfl
noncomputable def qmN (as cs:List Int) (t:Nat):Nat:=((List.range t).filter fun i=>decide ((as.take i).count (as.getD i 0) < cs.count (as.getD i 0))).length
theorem qmN_succ (as cs:List Int) (t:Nat):qmN as cs (t + 1) = qmN as cs t + if (as.take t).count (as.getD t 0) < cs.count (as.getD t 0) then 1 else 0:=by
 unfold qmN
 rw [List.range_succ,List.filter_append,List.length_append]
 congr 1
 by_cases h:(as.take t).count (as.getD t 0) < cs.count (as.getD t 0)
 ·rw [if_pos h,List.filter_cons,if_pos (decide_eq_true h)]; rfl
 ·rw [if_neg h,List.filter_cons,if_neg (by simpa using h)]; rfl
theorem qmN_le (as cs:List Int):∀ t,qmN as cs t≤t:=fun t=>Nat.le_trans (List.length_filter_le _ _) (Nat.le_of_eq List.length_range)
theorem qmN_take (l:List Int) (k n:Nat) (hk:k≤l.length):∀ t,t≤k→qmN (l.take k) (l.take n) t = min t n
 | 0,_=>by rw [Nat.zero_min]; rfl
 | t + 1,ht=>by
  have ht':t < k:=ht
  have hl:t < l.length:=Nat.lt_of_lt_of_le ht' hk
  rw [qmN_succ,qmN_take l k n hk t (Nat.le_of_lt ht')]
  have e1:(l.take k).take t = l.take t:=by rw [List.take_take,Nat.min_eq_left (Nat.le_of_lt ht')]
  have e2:(l.take k).getD t 0 = l[t]:=by rw [List.getD,List.getElem?_take_of_lt ht',List.getElem?_eq_getElem hl]; rfl
  rw [e1,e2]
  by_cases q:t < n
  ·have h1:(l.take (t + 1)).count l[t] = (l.take t).count l[t] + 1:=by
    rw [List.take_add_one,List.getElem?_eq_getElem hl,List.count_append]
    simp
   have h2:(l.take (t + 1)).count l[t]≤(l.take n).count l[t]:=(List.take_sublist_take_left (Nat.succ_le_of_lt q)).count_le _
   rw [h1] at h2
   rw [if_pos (Nat.lt_of_lt_of_le (Nat.lt_succ_self _) h2),Nat.min_eq_left (Nat.le_of_lt q),Nat.min_eq_left (Nat.succ_le_of_lt q)]
  ·have h2:(l.take n).count l[t]≤(l.take t).count l[t]:=(List.take_sublist_take_left (Nat.not_lt.mp q)).count_le _
   rw [if_neg (Nat.not_lt.mpr h2),Nat.min_eq_right (Nat.not_lt.mp q),Nat.min_eq_right (Nat.le_succ_of_le (Nat.not_lt.mp q))]; rfl
theorem Less.cons {m m':Lo} {H H':Hp} {x:Str} {u:V} (l:Less m H m' H'):Less ((x,u) :: m) H ((x,u) :: m') H':=by
 refine ⟨fun y v e=>?_,l.2⟩
 rw [List.lookup_cons] at e ⊢
 cases q:y == x with
 | true=>rw [q] at e; exact e
 | false=>rw [q] at e; exact l.1 y v e
theorem Pu.as {c:Ctx} {e:Expr} {m:Lo} {H:Hp} {u v:V} (h:Pu c e m H u) (q:u = v):Pu c e m H v:=q ▸ h
theorem AvOk.succ {es:List (IS × V)} {cs as:List Int} {t:Nat} {v:Int} (h:AvOk es cs as t) (hv:as[t]? = some v):AvOk (dictPut es (.i v) (.int ((cs.count v:Nat) - ((as.take t).count v:Nat) - 1:Int))) cs as (t + 1):=fun w=>by
 have e1:as.take (t + 1) = as.take t ++ [v]:=by rw [List.take_add_one,hv]; rfl
 rw [dictAt_put,e1,List.count_append]
 by_cases q:w = v
 ·subst q
  rw [if_pos rfl,if_pos (List.mem_append_right _ mS),List.count_singleton_self,Int.natCast_add,Int.sub_sub]; rfl
 ·rw [if_neg fun x=>q (by injection x),h w]
  have e2:(w∈as.take t ++ [v]) = (w∈as.take t):=by rw [List.mem_append,List.mem_singleton]; exact propext ⟨fun x=>x.resolve_right q,.inl⟩
  have e3:List.count w [v] = 0:=List.count_eq_zero.mpr fun x=>q (List.mem_singleton.mp x)
  rw [e3,Nat.add_zero]
  simp only [e2]
noncomputable abbrev qrM (n f0 A fc x:Nat):Lo:=[("matches",.int (n:Nat)),("availhas",.ref f0),("avail",.ref A),("fullbcount",.ref fc),("self",.ref x)]
theorem qr_rest (p:Params) (c:Ctx) {k:Nat} (hf:c.fuel = k + 1) (B:Base c (K06 p)) (hs:c.env.scope = (fdIn (K06 p) 232).scope) {H:Hp} {x d ra rb fc:Addr} {fs:List (Str × V)} {as bs cs:List Int} {ep:Nat} {es:List (IS × V)}
  (hx:(x,O.inst 242 d)∈H) (hd:(d,O.ns fs)∈H) (ha:fs.lookup ("a":Str) = some (.ref ra)) (hb:fs.lookup ("b":Str) = some (.ref rb)) (hF:fs.lookup ("fullbcount":Str) = some (.ref fc)) (hra:(ra,O.list (as.map .int))∈H) (hrb:(rb,O.list (bs.map .int))∈H) (hfc:(fc,O.dict ep es)∈H) (hcnt:CntOk es cs) (h5:as.length < 128) (h6:bs.length < 128)
  :WPs c ((bodyIn (fdIn (K06 p) 232)).drop 2) [("self",.ref x)] H fun f m' H'=>f = .ret (.float (ratV (qmN as cs as.length) (as.length + bs.length)))∧Less m' H' [] H:=by
 have hn:=congrArg Scope.names hs
 conv at hn=>rhs; whnf
 have hC:=cls02 p
 have gl:Glob c "len" (.bi "len"):=B.len hn (by kernel_rfl)
 have gC:=gRatio p B hn (by kernel_rfl)
 have lSe:Lc c "self":=lc_of hn (by kernel_rfl)
 have lFu:Lc c "fullbcount":=lc_of hn (by kernel_rfl)
 have lAv:Lc c "avail":=lc_of hn (by kernel_rfl)
 have lAh:Lc c "availhas":=lc_of hn (by kernel_rfl)
 have lM:Lc c "matches":=lc_of hn (by kernel_rfl)
 have lE:Lc c "elt":=lc_of hn (by kernel_rfl)
 have lNu:Lc c "numb":=lc_of hn (by kernel_rfl)
 have h5':as.length≤1000000:=Nat.le_trans (Nat.le_of_lt h5) (by decide)
 refine s_cons (s1_assignP lFu (Pu.attr B hC (.mem hx) (.mem hd) (by kernel_rfl) (.n lSe) hF) ?_)
 refine s_cons (s1_assign (e_dict B fun A=>sto_local lAv.1 ?_))
 refine s_cons (s1_swap2 hn (by kernel_rfl) (e_tuple (items_cons (e_attr ((Pu.n lAv) _ (a_bnd_dict bnd_dict_has (.mem mS) (by decide) fun f0=>items_cons ((Pu.one (i:=0)) _ (items_nil ⟨[.ref f0,.int 0],rfl,Nat.le_of_ble_eq_true rfl,.ref f0,.int 0,rfl,sto_local lM.1 (sto_local lAh.1 ?_)⟩))))))))
 have up:∀ {P1 P2:Addr × O} {q:Addr × O},q∈H→q∈P1 :: P2 :: H:=fun h=>mT (mT h)
 refine s_for_ints (xs:=as) (Pu.attr B hC (.mem (up hx)) (.mem (up hd)) (by kernel_rfl) (.n lSe) ha) lE (fun t m2 H2=>∃ ep2 es2,AvOk es2 cs as t∧es2.length≤t∧Less m2 H2 (qrM (qmN as cs t) f0 A fc x) ((f0,.obj (bndObj "dict.__contains__" A)) :: (A,.dict ep2 es2) :: H)) ⟨0,[],AvOk.nil cs as,Nat.le_refl _,less_m LessM.k⟩ ?_ ?_ ?_
 ·rintro t m2 H2 ⟨ep2,es2,_,_,hl⟩
  exact Sees.less hl (up hra)
 ·rintro t v m2 H2 hv ⟨ep2,es2,hav,hlen,hl⟩
  have ht:t < as.length:=(List.getElem?_eq_some_iff.mp hv).1
  refine WPs.less (m':=("elt",.int v) :: qrM (qmN as cs t) f0 A fc x) (Less.cons hl) ?_
  generalize hnb:((cs.count v:Nat) - ((as.take t).count v:Nat):Int) = nb
  refine s_to (("numb",.int nb) :: ("elt",.int v) :: qrM (qmN as cs t) f0 A fc x) ((f0,.obj (bndObj "dict.__contains__" A)) :: (A,.dict ep2 es2) :: H) ?_ ?_
  ·refine s1_ifP (.val (.call1 (.n lAh) (v:=(IS.i v).v) (.n lE) (keep_bnd (.mem mS)) (fun Q h=>cal_bnd_hasD (k:=.i v) (.mem mS) (.mem (mT mS)) h) (hE:=fun _ h=>e_call h)) (by intro _; rfl)) (fun h=>?_) (fun h=>?_)
   ·have e:dictAt es2 (.i v) = some (.int nb):=by
     have q:=hav v
     by_cases z:v∈as.take t
     ·rw [q,if_pos z,hnb]
     ·rw [q,if_neg z] at h; cases h
    exact s_cons (s1_assignP lNu (Pu.dsub (k:=.i v) (.n lAv) (.n lE) (.mem (mT mS)) e (by intro _ _; with_unfolding_all rfl)) (s_nil (less_m LessM.k)))
   ·have z:v∉as.take t:=fun z=>by rw [hav v,if_pos z] at h; cases h
    refine s_cons (s1_assignP lNu (v:=.int nb) ((Pu.dget (k:=.i v) (u:=.int 0) (.n lFu) (.n lE) .one (.mem (up hfc)) (fun _ _ _ h=>e_method h)).as ?_) (s_nil (less_m LessM.k)))
    rw [hcnt v,← hnb,List.count_eq_zero.mpr z]; exact congrArg _ (Int.sub_zero _).symm
  have hsucc:=hav.succ hv
  rw [hnb] at hsucc
  refine s_cons (s1_setd (k:=.i v) (Pu.sub (.n lNu) .one) (.n lAv) (.n lE) (.tail (.head _)) (Nat.le_trans hlen (Nat.le_trans (Nat.le_of_lt ht) h5')) fun ep3=>?_)
  have hq:=qmN_succ as cs t
  rw [show as.getD t 0 = v by rw [List.getD,hv]; rfl] at hq
  have hd0:(0 < nb) ↔ (as.take t).count v < cs.count v:=by rw [← hnb,Int.sub_pos,Int.ofNat_lt]
  have hlen':=Nat.le_trans (dictPut_len (es:=es2) (k:=.i v) (v:=.int (nb - 1))) (Nat.succ_le_succ hlen)
  refine s_cons (s1_ifP (.gtI (.n lNu) (.one (i:=0))) (fun h=>?_) (fun h=>?_))
  ·rw [if_pos (hd0.mp (of_decide_eq_true h))] at hq
   refine s_cons (s1_assignP lM (.succ (.n lM)) (s_nil (s_nil ⟨rfl,ep3,_,hsucc,hlen',?_⟩)))
   rw [hq]
   exact less_m LessM.k
  ·rw [if_neg fun z=>of_decide_eq_false h (hd0.mpr z),Nat.add_zero] at hq
   refine s_nil (s_nil ⟨rfl,ep3,_,hsucc,hlen',?_⟩)
   rw [hq]
   exact less_m LessM.k
 ·rintro m2 H2 ⟨ep2,es2,_,_,hl⟩
  refine WPs.less hl ?_
  exact s_cons (s1_return (e_call (e_glob gC (items_cons ((Pu.n lM) _ (items_cons (((Pu.addN (Pu.len gl (Pu.attr B hC (.mem (up hx)) (.mem (up hd)) (by kernel_rfl) (.n lSe) ha) (.mem (up hra)) (by rw [List.length_map]; exact h5') (hE:=fun _ h=>e_call h)) (Pu.len gl (Pu.attr B hC (.mem (up hx)) (.mem (up hd)) (by kernel_rfl) (.n lSe) hb) (.mem (up hrb)) (by rw [List.length_map]; exact Nat.le_trans (Nat.le_of_lt h6) (by decide)) (hE:=fun _ h=>e_call h))).as (v:=.int ((as.length + bs.length:Nat):Int)) (by rw [List.length_map,List.length_map])) _ (items_nil ⟨keep_K B (by kernel_rfl),CalC.cal (ratio_fn p hf B (Nat.lt_of_le_of_lt (qmN_le _ _ _) h5) (Nat.lt_of_lt_of_le (Nat.add_lt_add h5 h6) (by decide)) ⟨rfl,less_of LessM.nil (.cons _ (.cons _ (.refl _)))⟩)⟩))))))))
theorem qr_ok (p:Params) (c:Ctx) {k:Nat} (hf:c.fuel = k + 1) (B:Base c (K06 p)) (hs:c.env.scope = (fdIn (K06 p) 232).scope) {H:Hp} {x d ra rb:Addr} {fs:List (Str × V)} {as bs:List Int}
  (ha:fs.lookup ("a":Str) = some (.ref ra)) (hb:fs.lookup ("b":Str) = some (.ref rb)) (hF:fs.lookup ("fullbcount":Str) = some .none) (hra:(ra,O.list (as.map .int))∈H) (hrb:(rb,O.list (bs.map .int))∈H) (h5:as.length < 128) (h6:bs.length < 128) (hz:fs.length≤90)
  :WPs c (bodyIn (fdIn (K06 p) 232)) [("self",.ref x)] ((x,.inst 242 d) :: (d,.ns fs) :: H) fun f m' H'=>f = .ret (.float (ratV (qmN as bs as.length) (as.length + bs.length)))∧∃ D ep es,CntOk es bs∧Less m' H' [] ((D,.dict ep es) :: (x,.inst 242 d) :: (d,.ns (("fullbcount",.ref D) :: fs)) :: H):=by
 have hn:=congrArg Scope.names hs
 conv at hn=>rhs; whnf
 have hC:=cls02 p
 have lSe:Lc c "self":=lc_of hn (by kernel_rfl)
 have lFu:Lc c "fullbcount":=lc_of hn (by kernel_rfl)
 have lE:Lc c "elt":=lc_of hn (by kernel_rfl)
 have h6':bs.length≤1000000:=Nat.le_trans (Nat.le_of_lt h6) (by decide)
 refine s_cons (s1_expr (e_str ?_))
 refine s_join (fun m1 H1=>∃ D ep es,CntOk es bs∧Less m1 H1 [("self",.ref x)] ((D,.dict ep es) :: (x,.inst 242 d) :: (d,.ns (("fullbcount",.ref D) :: fs)) :: H)) (s1_ifP (.isNone (Pu.attr B hC (.mem mS) (.mem (mT mS)) (by kernel_rfl) (.n lSe) hF) .nn) (fun _=>?_) (fun h=>nomatch h)) ?_
 ·refine s_cons (s1_to2 (e_dict B fun D=>asg_attr ((Pu.n lSe) _ (set_inst B hC (by kernel_rfl) (.mem (mT mS)) (.tail (.tail (.head _))) (asg_name (sto_local lFu.1 ?_)) (Nat.le_trans hz (by decide))))))
  refine s_for_ints (xs:=bs) (Pu.attr B hC (.mem (mT mS)) (.mem (mT (mT mS))) (by kernel_rfl) (.n lSe) hb) lE (fun t m2 H2=>∃ ep es,CntOk es (bs.take t)∧es.length≤t∧Less m2 H2 [("fullbcount",.ref D),("self",.ref x)] ((D,.dict ep es) :: (x,.inst 242 d) :: (d,.ns (("fullbcount",.ref D) :: fs)) :: H)) ⟨0,[],CntOk.nil,Nat.le_refl _,less_m LessM.k⟩ ?_ ?_ ?_
  ·rintro t m2 H2 ⟨ep,es,_,_,hl⟩
   exact Sees.less hl (mT (mT (mT hrb)))
  ·rintro t v m2 H2 hv ⟨ep,es,hcnt,hlen,hl⟩
   have ht:t < bs.length:=(List.getElem?_eq_some_iff.mp hv).1
   refine WPs.less (Less.cons hl) ?_
   have e1:bs.take (t + 1) = bs.take t ++ [v]:=by rw [List.take_add_one,hv]; rfl
   refine s_cons (s1_setd (k:=.i v) (v:=.int (((bs.take t).count v + 1:Nat):Int)) (Pu.succ ((Pu.dget (k:=.i v) (u:=.int 0) (.n lFu) (.n lE) .one (.mem mS) (fun _ _ _ h=>e_method h)).as (hcnt v))) (.n lFu) (.n lE) (.head _) (Nat.le_trans hlen (Nat.le_trans (Nat.le_of_lt ht) h6')) fun ep3=>s_nil ⟨rfl,ep3,_,fun w=>?_,Nat.le_trans dictPut_len (Nat.succ_le_succ hlen),less_m LessM.k⟩)
   rw [dictAt_put,e1,List.count_append]
   by_cases q:w = v
   ·subst q
    rw [if_pos rfl,List.count_singleton_self]; rfl
   ·rw [if_neg fun x=>q (by injection x),hcnt w,List.count_eq_zero.mpr fun x=>q (List.mem_singleton.mp x),Nat.add_zero]
  ·rintro m2 H2 ⟨ep,es,hcnt,_,hl⟩
   rw [List.take_length] at hcnt
   exact s_nil ⟨D,ep,es,hcnt,hl.trans (less_m LessM.k)⟩
 ·rintro m1 H1 ⟨D,ep,es,hcnt,hl⟩
  refine WPs.less hl (WPs.mono (qr_rest p c hf B hs (fs:=("fullbcount",.ref D) :: fs) (mT mS) (mT (mT mS)) (by rw [look_skip (by decide)]; exact ha) (by rw [look_skip (by decide)]; exact hb) rfl (mT (mT (mT hra))) (mT (mT (mT hrb))) mS hcnt h5 h6) ?_)
  rintro f m' H' ⟨rfl,hl2⟩
  exact ⟨rfl,D,ep,es,hcnt,hl2⟩
theorem qr_ok2 (p:Params) (c:Ctx) {k:Nat} (hf:c.fuel = k + 1) (B:Base c (K06 p)) (hs:c.env.scope = (fdIn (K06 p) 232).scope) {H:Hp} {x d ra rb fc:Addr} {fs:List (Str × V)} {as bs cs:List Int} {ep:Nat} {es:List (IS × V)}
  (hx:(x,O.inst 242 d)∈H) (hd:(d,O.ns fs)∈H) (ha:fs.lookup ("a":Str) = some (.ref ra)) (hb:fs.lookup ("b":Str) = some (.ref rb)) (hF:fs.lookup ("fullbcount":Str) = some (.ref fc)) (hra:(ra,O.list (as.map .int))∈H) (hrb:(rb,O.list (bs.map .int))∈H) (hfc:(fc,O.dict ep es)∈H) (hcnt:CntOk es cs) (h5:as.length < 128) (h6:bs.length < 128)
  :WPs c (bodyIn (fdIn (K06 p) 232)) [("self",.ref x)] H fun f m' H'=>f = .ret (.float (ratV (qmN as cs as.length) (as.length + bs.length)))∧Less m' H' [] H:=by
 have hn:=congrArg Scope.names hs
 conv at hn=>rhs; whnf
 have hC:=cls02 p
 have lSe:Lc c "self":=lc_of hn (by kernel_rfl)
 refine s_cons (s1_expr (e_str ?_))
 exact s_cons (s1_ifP (.isNone (Pu.attr B hC (.mem hx) (.mem hd) (by kernel_rfl) (.n lSe) hF) .ref) (fun h=>nomatch h) fun _=>s_nil (qr_rest p c hf B hs hx hd ha hb hF hra hrb hfc hcnt h5 h6))
structure TupG (M:Model) (h:Heap) (C:Addr):Prop where
 x:TupX M h C
 gi:Looks M h (typeLookup (.ref C) "__getitem__") (some (.builtin "tuple.__getitem__"))
 dq:Looks M h (isSubtype (.ref C) (.type "collections.deque")) false
noncomputable def tupGIn (K:Frag) (C:Addr):Bool:=tupXIn K C && findIn K (.ref C) "__getitem__" == some (some (.builtin "tuple.__getitem__")) && subIn K (.ref C) (.type "collections.deque") == some false
theorem tupG_of {K:Frag} {M:Model} {h:Heap} (X:K.In h) {C:Addr} (e:tupGIn K C = true):TupG M h C:=by
 unfold tupGIn at e
 simp only [Bool.and_eq_true,beq_iff_eq] at e
 obtain ⟨⟨e1,e2⟩,e3⟩:=e
 exact ⟨tupX_of X e1,looks_findIn X e2,looks_subIn X e3⟩
theorem tg_kind:builtinKind "tuple.__getitem__" = some .slot:=by decide +kernel
theorem tg_split:splitId "tuple.__getitem__" = some ("tuple","__getitem__"):=by decide +kernel
section
variable {prog:Program} {w:World} {A:Around} {E:Value→Shared→Prop} {s:Shared} {C t:Addr} {items:Array Value}
theorem getItem_tupC {k:Int} {u:Tok} {j:Nat} {x:Value} {Q:Value→Shared→Prop} (ht:IsTupOf s.heap (some C) t items) (T:TupG (model prog w) s.heap C)
  (hlo:-(2 ^ 63)≤k) (hhi:k < 2 ^ 63) (hj:seqIndex? k items.size = some j) (hx:items[j]? = some x) (h:Q x s):wpAny (model prog w) A (getItem (.ref t) (.int k u)) Q E s:=by
 unfold getItem
 refine wpAny_holding ?_
 have hsk:wpAny (model prog w) A (sequenceKey (.ref t) (.int k u) "__getitem__") (fun v s'=>v = .int k u∧s' = s) E s:=by
  unfold sequenceKey
  refine wpAny_bind ((tup_typ ht).here ?_)
  dsimp only
  unfold seqItemTypes
  refine wpAny_bind (wpAny_bind (T.dq.here ?_))
  refine wpAny_pure ?_
  exact wpAny_pure ⟨rfl,rfl⟩
 refine wpAny_bind (wpAny_mono hsk (fun v s' q=>?_) fun _ _ q=>q)
 obtain ⟨rfl,rfl⟩:=q
 unfold callSpecial?
 refine wpAny_bind (wpAny_bind ((tup_special ht T.gi).here ?_))
 dsimp only
 rw [slot_tuple_getitem.bind]
 refine wpAny_holding (wpAny_bind (wpAny_pure (wpAny_bind (tup_call ht T.x tg_kind tg_split slot_tuple_getitem.plain (args_tuple_getitem _ _) entry_tuple_getitem ?_))))
 show wpAny _ _ (Builtin.Tuple.tupleItemsOf (.ref t) >>= _) _ _ s'
 obtain ⟨o,n,ho,_,hd⟩:=ht
 refine wpAny_bind (m:=Builtin.Tuple.tupleItemsOf (.ref t)) (wpAny_bind (wpAny_seqItems ho hd (wpAny_pure ?_)))
 refine wpAny_bind (wpAny_typeOf (typeIs_int s' k u) ?_)
 rw [if_neg (by decide)]
 refine wpAny_bind (wpAny_specialOf (T:="int") (typeIs_int s' k u) int_index ?_)
 rw [if_neg (by simp)]
 refine wpAny_bind (wpAny_of_eq (a:=k) rfl ?_)
 rw [if_neg (by simp only [Bool.or_eq_true,decide_eq_true_eq,not_or,Int.not_lt,ge_iff_le,Int.not_le]; exact ⟨hlo,hhi⟩)]
 simp only [hj,Option.bind_some,hx]
 exact wpAny_pure ⟨_,rfl,wpAny_pure (wpAny_pure h)⟩
theorem tail_tupC {value slice:Expr} {k:Int} {u:Tok} {j:Nat} {x:Value} {Q:Value→Shared→Prop} (ht:IsTupOf s.heap (some C) t items) (T:TupG (model prog w) s.heap C)
  (hlo:-(2 ^ 63)≤k) (hhi:k < 2 ^ 63) (hj:seqIndex? k items.size = some j) (hx:items[j]? = some x) (hs:subscripted slice false (.ref t) (.int k u) = operate [.ref t,.int k u] (getItem (.ref t) (.int k u))) (h:Q x s):wpAny (model prog w) A (subscriptTail value slice (.ref t) (.int k u)) Q E s:=by
 unfold subscriptTail
 refine wpAny_bind ?_
 rw [getitemInPython_of_ne (fun q=>by cases q)]
 refine wpAny_bind ((tup_special ht T.gi).here ?_)
 dsimp only
 refine wpAny_pure (wpAny_bind ?_)
 rw [hs]
 exact wpAny_operating (getItem_tupC ht T hlo hhi hj hx (wpAny_bind (wpAny_letTemporaryGo (wpAny_pure h))))
end
section
variable {M:Model} {A:Around} {E:Value→Shared→Prop} {s:Shared}
theorem genexprCode_tab {env:Env} {c P:Addr} {ps:Array Value} {pos:Pos} {qn:Str} {scope:Scope} {Q:Value→Shared→Prop} (hc:env.code = .ref c) (hd:CodeHd s.heap c P) (hP:s.heap.get? P = some (tabObj ps)) (ht:TriplesOk ps.toList)
  (hQ:∀ code h' tk ps',Heap.ExtBut P s.heap h'→s.heap.objs.size≤h'.objs.size→h'.get? P = some (tabObj ps')→TriplesOk ps'.toList→Q code { s with heap:=h',toks:=tk }):wpAny M A (genexprCode env pos qn scope) Q E s:=by
 cases hnf:codeAmong pos ps.toList with
 | none=>
  refine wpAny_genexprCodeX hc (hd.code hP ht) (hd.tab hP) hnf fun c' h' tk hx hge hlt _ _ htab _=>?_
  refine hQ _ h' tk _ hx (Nat.le_of_lt (Nat.lt_of_le_of_lt hge hlt)) htab.2 ?_
  have q:=TriplesOk_snoc pos.line pos.col (.ref c') ps.toList ht
  rw [Array.toList_append]
  exact q
 | some cv=>
  obtain ⟨o,vs,file,tf,flags,tg,inF,text,tt,e1,_,e3,_,f3,_⟩:=hd
  unfold genexprCode codeAt
  rw [hc,if_neg (show ¬ ((Value.ref c == Value.none) = true) from Bool.false_ne_true)]
  refine wpAny_bind (wpAny_fieldsOf e1 e3 ?_)
  rw [f3]
  refine wpAny_bind (wpAny_fieldsOf hP rfl ?_)
  rw [hnf]
  exact wpAny_pure (hQ cv s.heap s.toks ps (Heap.ExtBut.refl _ _) (Nat.le_refl _) hP ht)
end
theorem passing_all (n:Nat):passing (fun _=>true) n 0 = List.range n:=by
 unfold passing
 rw [List.drop_zero]
 exact List.filter_eq_self.mpr fun _ _=>rfl
theorem preSum_tri (L:List Tri):∀ j,preSum (fun i=>(((L.map (·.2.2)).getD i 0:Nat):Int)) j = ((((L.map (·.2.2)).take j).sum:Nat):Int)
 | 0=>by rw [List.take_zero]; rfl
 | j + 1=>by
  show preSum _ j + _ = _
  rw [preSum_tri L j,List.take_add_one,List.sum_append,Int.natCast_add]
  congr 1
  show (((L.map (·.2.2))[j]?.getD 0:Nat):Int) = _
  cases (L.map (·.2.2))[j]? with
  | none=>rfl
  | some v=>exact congrArg Int.ofNat (Nat.add_zero v).symm
theorem take_sum_le (l:List Nat) (j:Nat):(l.take j).sum≤l.sum:=by
 conv=>rhs; rw [← List.take_append_drop j l,List.sum_append]
 exact Nat.le_add_right _ _
theorem mem_le_sum {v:Nat}:∀ {l:List Nat},v∈l→v≤l.sum
 | x :: l,h=>by
  rw [List.sum_cons]
  rcases List.mem_cons.mp h with rfl | h
  ·exact Nat.le_add_right _ _
  ·exact Nat.le_trans (mem_le_sum h) (Nat.le_add_left _ _)
theorem getD_le_sum (l:List Nat) (j:Nat):l.getD j 0≤l.sum:=by
 show l[j]?.getD 0≤_
 cases q:l[j]? with
 | none=>exact Nat.zero_le _
 | some v=>exact mem_le_sum (List.mem_of_getElem? q)
theorem inLong_of {n:Nat} (h:n≤1000):InLong ((n:Nat):Int):=⟨Int.le_trans (by decide) (Int.natCast_nonneg n),Int.lt_of_le_of_lt (Int.ofNat_le.mpr h) (by decide)⟩
theorem Rel.gens {c:Ctx} {st:St} {s:Shared} (R:Rel c st s) {g:Array GenState} (hg:AllBare g):Rel c st { s with gens:=g }:=⟨R.loc,R.obj,R.nd,R.apart,R.keep,R.gl,hg⟩
section
variable {c:Ctx} {m:Lo} {H:Hp} {pos p1 p2 p3 p4 p5 p6 px:Pos} {k1:Nat} {Q:V→Lo→Hp→Prop} {mg:Str→Option Value} {cc P C:Addr}
theorem gen_elt {prog:Program} {w:World} {A:Around} {E:Value→Shared→Prop} {s:Shared} {cenv:Env} {x:Str} {mm:Str→Option Value} {v:Value} {t:Tri} (hn:s.heap.Ns cenv.locals mm) (hv:mm x = some v) (hk:cenv.scope.kind = .function) (hl:cenv.scope.names.lookup x = some .local) (hd:(x == ("__debug__":Str)) = false)
  (ht:V.rep s.heap (triV C t) v) (T:TupG (model prog w) s.heap C):wpAny (model prog w) A (eval (.Subscript (.Name x p1) (.UnaryOp .USub (.Constant (.int 1) k1 p2) p3) p4) cenv) (fun y s'=>(∃ u,y = .int ((t.2.2:Nat):Int) u)∧Keeps s s') E s:=by
 obtain ⟨a,items,rfl,hit,hr⟩:=ht
 obtain ⟨v0,r0,e0,_,v1,r1,e1,_,v2,r2,e2,⟨u,hu⟩,e3⟩:=hr
 refine Subscript_ (ldG hn hv (wpAny_UnaryOp (wpAny_Constant_int (neg_int ?_))) hk hl hd)
 have hi:items.toList = [v0,v1,v2]:=by rw [e0,e1,e2,e3]
 have hz:items.size = 3:=by rw [← Array.length_toList,hi]; rfl
 exact tail_tupC (s:={ s with toks:=_ }) hit T (by decide) (by decide) (j:=2) (by rw [hz]; rfl) (x:=v2) (by rw [← Array.getElem?_toList,hi]; rfl) (by with_unfolding_all rfl) ⟨⟨u,hu⟩,s.heap,_,rfl,fun _ _ e=>e⟩
theorem e_sumgen {x:Str} {iter:Expr} {scope:Scope} (gS:Glob c "sum" (.bi "sum")) (LB:LamBase c mg cc P) (hlim:c.Knows Heap.NoLimit) (hT:c.Knows fun h=>TupG (model c.prog c.w) h C)
  (hco:scope.isCoroutine = false) (hclos:closureFor scope c.env = pure []) (hcell:∀ y∈scope.names,y.2≠.cell) (h0:scope.names.lookup (".0":Str) = some NameKind.local) (hx:scope.names.lookup x = some .local) (hxd:(x == ("__debug__":Str)) = false) (hkind:scope.kind = .function)
  (h:WPe c iter m H fun u m1 H1=>∃ l,∃ L:List Tri,∃ ps F,u = .ref l∧(l,O.list (L.map (triV C)))∈H1∧(L.map (·.2.2)).sum≤1000∧Spot P (.obj (tabObj ps)) H1 F∧TriplesOk ps.toList∧∀ ps',TriplesOk ps'.toList→Q (.int (((L.map (·.2.2)).sum:Nat):Int)) m1 (F (.obj (tabObj ps'))))
  (he:eval (.Call (.Name ("sum":Str) p5) [.GeneratorExp (.Subscript (.Name x p1) (.UnaryOp .USub (.Constant (.int 1) k1 p2) p3) p4) [⟨.Name x px,iter,[],0⟩] scope p6] [] pos) c.env = (do callWith pos (← eval (.Name ("sum":Str) p5) c.env) [] (backTo pos (starEach [.GeneratorExp (.Subscript (.Name x p1) (.UnaryOp .USub (.Constant (.int 1) k1 p2) p3) p4) [⟨.Name x px,iter,[],0⟩] scope p6] c.env)) (backToKw pos (keywordEach [] c.env))))
  (hs:∀ v,genFold iter c.env v = pure v)
  :WPe c (.Call (.Name ("sum":Str) p5) [.GeneratorExp (.Subscript (.Name x p1) (.UnaryOp .USub (.Constant (.int 1) k1 p2) p3) p4) [⟨.Name x px,iter,[],0⟩] scope p6] [] pos) m H Q:=fun s R Pk k=>by
 have hroom:c.A.depth < recursionLimit:=Nat.lt_of_le_of_lt (Nat.le_add_right _ _) c.hd
 refine Call_ (e_glob gS (Q:=fun f m0 H0=>f = .bi "sum"∧m0 = m∧H0 = H) ⟨rfl,rfl,rfl⟩ (by decide) s R _ fun f vf m1 H1 h1 tk1 R1 F1 r1 q1=>?_) he
 obtain ⟨rfl,rfl,rfl⟩:=q1
 cases (r1:vf = _)
 refine callWith_of (P:=fun h=>∃ k,(k = Keeper.frame ∨ k = Keeper.machine ∨ k = Keeper.boundFrame)∧Looks (model c.prog c.w) h (keeperOf (.builtin "sum")) k) rfl (fun h q=>q) ?_
 have main:wpAny (model c.prog c.w) c.A (spliced (backTo pos (starEach [.GeneratorExp (.Subscript (.Name x p1) (.UnaryOp .USub (.Constant (.int 1) k1 p2) p3) p4) [⟨.Name x px,iter,[],0⟩] scope p6] c.env))) (fun vs s₁=>(∃ k,(k = Keeper.frame ∨ k = Keeper.machine ∨ k = Keeper.boundFrame)∧Looks (model c.prog c.w) s₁.heap (keeperOf (.builtin "sum")) k)∧wpAny (model c.prog c.w) c.A (call (.builtin "sum") ([] ++ vs) []) Pk (fun _ _=>False) s₁) (fun _ _=>False) (sw s h1 tk1):=by
  refine wpAny_items_cons ?_ rfl
  refine wpAny_GeneratorExp_walksQ c.hh hco hclos hcell h0 hx hkind hroom ?_ hs
  refine h _ R1 _ fun u vu m2 H2 h2 tk2 R2 F2 r2 q2=>?_
  obtain ⟨l,L,ps,F,rfl,hl,hsum,sp,htr,q⟩:=q2
  cases (r2:vu = _)
  obtain ⟨items,hit,_,hr⟩:=R2.obj _ _ hl
  have hrl:=hr.length
  rw [List.length_map] at hrl
  refine wpAny_pyIter_list (s:=sw (sw s h1 tk1) h2 tk2) hit ?_
  have hP:=(R2.obj _ _ (sp.upd (.obj (tabObj ps))).mem).1
  have hln:l≠P:=fun e=>by
   obtain ⟨o,ho,hcl,_⟩:=hit
   rw [e,hP] at ho; cases ho; cases hcl
  have hgrow:∀ b o,h2.get? b = some o→(h2.push { cls:=.type "list_iterator",data:=.fields #[.ref l,.int 0 0] }).get? b = some o:=fun b o e=>Heap.get?_push_of_some _ e
  have hItP:h2.objs.size≠P:=fun e=>by rw [← e,get_ge (Nat.le_refl _)] at hP; cases hP
  have hlim2:(h2.push { cls:=.type "list_iterator",data:=.fields #[.ref l,.int 0 0] }).NoLimit:=(hlim _ R2.keep).push _
  refine ⟨hlim2,genexprCode_tab LB.hc ((LB.code h2 R2.keep).keeps hgrow) (hgrow _ _ hP) htr fun code h3 tk3 ps' hx3 hsz3 hP3 htr3=>?_⟩
  have hk3:∀ b o,b≠P→h2.get? b = some o→h3.get? b = some o:=fun b o hb e=>hx3 b o hb (hgrow b o e)
  have hgl3:∀ b o,c.G b = some o→h3.get? b = some o:=fun b o e=>hk3 b o (fun q=>by
   have h9:=(R2.apart P (List.mem_map.mpr ⟨_,(sp.upd (.obj (tabObj ps))).mem,rfl⟩)).2
   rw [q,h9] at e; cases e) (R2.keep b o e)
  obtain ⟨bm,ob,b1,b2,b3,b4,b5,b6⟩:=LB.bm h3 hgl3
  have hgs:=LB.glo h3 hgl3
  refine wpAny_builtinsFor (by rw [LB.hg]; exact hgs) b1 b2 b3 b4 b5 b6 ?_
  have hl3:h3.IsList l items:=by
   obtain ⟨o,ho,r⟩:=hit
   exact ⟨o,hk3 _ _ hln ho,r⟩
  have hlim3:h3.NoLimit:=hlim h3 hgl3
  have hltl:l < h2.objs.size:=by obtain ⟨o,ho,_⟩:=hit; exact Heap.lt_size ho
  have hsz3':h2.objs.size + 1≤h3.objs.size:=by
   have e:(h2.push { cls:=.type "list_iterator",data:=.fields #[.ref l,.int 0 0] }).objs.size≤h3.objs.size:=hsz3
   rw [Heap.size_push] at e
   exact e
  have hgit:h3.get? h2.objs.size = some { cls:=.type "list_iterator",data:=.fields #[.ref l,.int 0 0] }:=hx3 _ _ hItP (Heap.get?_push_size _ rfl)
  have hcw:cStatics∉[h2.objs.size]:=fun e=>by
   obtain ⟨_,⟨o,es,ep,ho,hd,_⟩,_⟩:=hlim3
   rw [List.mem_singleton.mp e,hgit] at ho; cases ho; cases hd
  refine ⟨h2.objs.size,[h2.objs.size,l],[h2.objs.size],items.size,(fun i v=>items[i]? = some v),_,(fun _=>true),(fun i y=>∃ u,y = .int (((L.map (·.2.2)).getD i 0:Nat):Int) u),rfl,(fun A' hA=>Walks.list hA _ _ (Nat.ne_of_lt hltl) items),⟨⟨_,hgit,rfl,rfl⟩,hl3⟩,?_,hlim3,hcw,?_,?_⟩
  ·intro b hb
   rcases List.mem_cons.mp hb with rfl | hb
   ·exact Nat.lt_of_succ_le hsz3'
   ·cases List.mem_singleton.mp hb
    exact Nat.lt_of_lt_of_le hltl (Nat.le_trans (Nat.le_succ _) hsz3')
  ·intro href hhref
   refine ⟨fun A' E' i v s₂ m₂ _ _ _ _ _=>?_,fun A' E' i v s₂ m₂ hA hi _ hn hm hkk=>?_⟩
   ·exact wpAny_pure ⟨rfl,s₂.heap,s₂.toks,rfl,fun _ _ e=>e⟩
   ·have hi2:items.toList[i]? = some v:=by rw [Array.getElem?_toList]; exact hi
    have hiL:i < L.length:=by rw [← hrl]; exact (List.getElem?_eq_some_iff.mp hi2).1
    obtain ⟨v',hv',hrep⟩:=hr.get (show (L.map (triV C))[i]? = some (triV C L[i]) by rw [List.getElem?_map,List.getElem?_eq_getElem hiL]; rfl)
    rw [hi2] at hv'; cases hv'
    have hkeep:∀ b o,b≠P→h2.get? b = some o→s₂.heap.get? b = some o:=fun b o hb e=>hkk b (List.mem_range.mpr (Nat.lt_of_lt_of_le (Heap.lt_size e) (Nat.le_trans (Nat.le_succ _) hsz3'))) (fun q=>by
     cases List.mem_singleton.mp q
     rw [get_ge (Nat.le_refl _)] at e; cases e) o (hhref b o (hk3 b o hb e))
    have hrep2:V.rep s₂.heap (triV C L[i]) v:=by
     obtain ⟨a,its,rfl,⟨o,n,ho,r⟩,hr2⟩:=hrep
     refine ⟨a,its,rfl,⟨o,n,hkeep a o (fun q=>?_) ho,r⟩,hr2⟩
     rw [q,hP] at ho; cases ho; cases r.1
    have T2:TupG (model c.prog c.w) s₂.heap C:=hT _ fun b o e=>hkeep b o (fun q=>by
     have h9:=(R2.apart P (List.mem_map.mpr ⟨_,(sp.upd (.obj (tabObj ps))).mem,rfl⟩)).2
     rw [q,h9] at e; cases e) (R2.keep b o e)
    refine wpAny_mono (gen_elt (cenv:=genEnv scope [] h3.objs.size code builtinsNs c.env) hn hm hkind hx hxd hrep2 T2) (fun y s' q=>⟨?_,q.2⟩) fun _ _ e=>e
    have eg:(L.map (·.2.2)).getD i 0 = L[i].2.2:=by show (L.map (·.2.2))[i]?.getD 0 = _; rw [List.getElem?_map,List.getElem?_eq_getElem hiL]; rfl
    rw [eg]
    exact q.1
  ·intro a h5 tk5 gs hgb hag hsz5 hk5 W hat
   refine wpAny_items_nil ⟨⟨.machine,.inr (.inl rfl),.now⟩,?_⟩
   rw [passing_all] at W
   have W1:=W.in4_1
   refine call_sum_walkS (W1.self 0 _ _ _ hat ⟨a,_,_,_,_,_,_,(fun i=>(((L.map (·.2.2)).getD i 0:Nat):Int)),rfl,W1,hat,?_,?_,?_,?_⟩)
   ·intro b hb
    show b < h5.objs.size
    rw [hsz5]
    rcases List.mem_cons.mp hb with rfl | hb
    ·exact Nat.lt_succ_self _
    ·rcases List.mem_cons.mp hb with rfl | hb
     ·exact Nat.lt_succ_of_lt hag
     ·exact Nat.lt_succ_of_lt (Nat.lt_trans (List.mem_range.mp hb) hag)
   ·rintro j v ⟨i,hi,hF⟩
    rw [List.getElem?_range (by
     have:=(List.getElem?_eq_some_iff.mp hi).1
     rw [List.length_range] at this
     exact this)] at hi
    cases hi
    exact hF
   ·intro j _
    refine ⟨inLong_of (Nat.le_trans (getD_le_sum _ j) hsum),?_⟩
    rw [preSum_tri]
    exact inLong_of (Nat.le_trans (take_sum_le _ _) hsum)
   ·intro s' t' hm
    rw [preSum_tri,List.length_range,List.take_of_length_le (by rw [List.length_map,← hrl,Array.length_toList]; exact Nat.le_refl _)]
    have hb5:AllBare s'.gens:=AllBare.movedS (s:={ (sw (sw s h1 tk1) h2 tk2) with heap:=h5,toks:=tk5,gens:=tk2.gens.push gs }) (AllBare.push R2.bare hgb) hm
    have hk6:∀ b o,b≠P→h2.get? b = some o→s'.heap.get? b = some o:=fun b o hb e=>hm.heap b o (fun q=>by
     rcases List.mem_cons.mp q with q | q
     ·subst q; exact absurd (Heap.lt_size e) (Nat.not_lt.mpr (Nat.le_trans (Nat.le_succ _) hsz3'))
     ·cases List.mem_singleton.mp q
      rw [get_ge (Nat.le_refl _)] at e; cases e) (hk5 b o (hk3 b o hb e))
    have hP6:s'.heap.get? P = some (tabObj ps'):=hm.heap P _ (fun q=>by
     rcases List.mem_cons.mp q with q | q
     ·exact absurd (Heap.lt_size hP3) (by rw [q]; exact Nat.lt_irrefl _)
     ·exact hItP (List.mem_singleton.mp q).symm) (hk5 P _ hP3)
    have al:∃ o,s'.heap.get? P = some o:=⟨_,hP6⟩
    have up:=sp.upd (.obj (tabObj ps'))
    have F3:=Fp.upd (L:=c.env.locals) up hk6 al
    have R3:=(R2.gens (g:=s'.gens) hb5).upd (h':=s'.heap) ⟨s'.toks,s'.drawn,s'.gens⟩ up hk6 al (fun _=>⟨hP6,by unfold Mine.Obj.fixed; trivial⟩) rfl
    obtain ⟨hp',gg',dd',kk',oo'⟩:=s'
    have eo:oo' = s.os:=hm.os
    subst eo
    exact k (.int (((L.map (·.2.2)).sum:Nat):Int)) _ _ _ _ ⟨kk',dd',gg'⟩ R3 (F1.trans R1.hasL (F2.trans R2.hasL F3)) ⟨t',rfl⟩ (q ps' htr3)
 exact evalArgs_plain main
end
theorem match_tupG (p:Params):tupGIn (K06 p) 135 = true:=by kernel_rfl
theorem cal_self (p:Params) {fa:Addr} {c:Ctx} {k:Nat} (hf:c.fuel = k + 1) (B:Base c (K06 p)) {m:Lo} {Q:V→Lo→Hp→Prop} {H:Hp} {x:Addr} (h1:fnOkB (K06 p) fa = true) (h2:distinctB ((fdIn (K06 p) fa).scope.names.map (·.1)) = true) (h3:kindsB (fdIn (K06 p) fa).scope.names [("self":Str)] = true)
  (h4:∀ v0,bindArgs (fdIn (K06 p) fa) { pos:=[v0] } = pure ([("self":Str)].zip [v0])) (h5:∀ x,locOf (fdIn (K06 p) fa).scope.names [(("self":Str),V.ref x)] = [(("self":Str),V.ref x)]) (h6:∀ L x,cellsAt L (fdIn (K06 p) fa) [(("self":Str),V.ref x)] = [])
  (h:∀ L c2,Called c (fdIn (K06 p) fa) L c2→c2.fuel = k→Base c2 (K06 p)→WPs c2 (bodyIn (fdIn (K06 p) fa)) [("self",.ref x)] H fun f _ H'=>∃ H2,Less [] H' [] H2∧Q f.val m H2):CalC c (.ref fa) [.ref x] m H Q:=by
 refine cal_K (fd:=fdIn (K06 p) fa) (bs:=[(("self":Str),V.ref x)]) B hf (fnOk_of h1) h2 h3 (fun s vvs X r=>binds_plain (ps:=[("self":Str)]) (vs:=[V.ref x]) rfl (fun vvs hl=>bind1 h4 vvs hl) s vvs X r) fun L c2 hc hk B2=>?_
 rw [h5,h6]
 refine WPs.post (WPs.mono (h L c2 hc hk B2) ?_)
 rintro f m' H' ⟨H2,hl,q⟩
 exact ⟨[],H2,⟨(fun _ _ e=>nomatch e),hl.2⟩,q⟩
theorem gmbc_cal (p:Params) {c:Ctx} {k:Nat} (hf:c.fuel = k + 1) (B:Base c (K06 p)) {m:Lo} {Q:V→Lo→Hp→Prop} {H:Hp} {x d r:Addr} {fs:List (Str × V)} (hx:(x,O.inst 242 d)∈H) (hd:(d,O.ns fs)∈H) (hm:fs.lookup ("matching_blocks":Str) = some (.ref r))
  (h:Q (.ref r) m H):CalC c (.ref 203) [.ref x] m H Q:=by
 refine cal_self p hf B (by kernel_rfl) (by kernel_rfl) (by kernel_rfl) (fun _=>by kernel_rfl) (fun _=>by kernel_rfl) (fun _ _=>by kernel_rfl) fun L c2 hc hk B2=>?_
 have hn:=congrArg Scope.names hc.scope
 conv at hn=>rhs; whnf
 have hC:=cls02 p
 have lSe:Lc c2 "self":=lc_of hn (by kernel_rfl)
 refine s_cons (s1_expr (e_str ?_))
 refine s_cons (s1_ifP (.isntNone (Pu.attr B2 hC (.mem hx) (.mem hd) (by kernel_rfl) (.n lSe) hm) .ref) (fun _=>?_) (fun h=>nomatch h))
 exact s_cons (s1_return ((Pu.attr B2 hC (.mem hx) (.mem hd) (by kernel_rfl) (.n lSe) hm) _ ⟨_,Less.refl _ _,h⟩))
structure RatB (c:Ctx) (mg:Str→Option Value):Prop where
 glo:c.Knows fun h=>h.Ns mainGlobals mg
 bm:c.Knows fun h=>∃ bm ob,mg "__builtins__" = some (.ref bm)∧bm≠builtinsNs∧h.get? bm = some ob∧ob.cls = .type "module"∧ob.dict = some builtinsNs∧ob.data = .plain
 code:c.Knows fun h=>CodeHd h 224 220
theorem RatB.called {c c2:Ctx} {mg:Str→Option Value} {fd:FuncData} {L:Addr} (h:RatB c mg) (hc:Called c fd L c2):RatB c2 mg:=⟨hc.knows _ h.glo,hc.knows _ h.bm,hc.knows _ h.code⟩
theorem Base.sum {c:Ctx} {K:Frag} {ns:List (Str × NameKind)} (B:Base c K) (hn:c.env.scope.names = ns) (h:biB K ns "sum" = true):Glob c "sum" (.bi "sum"):=B.blt hn h (by kernel_rfl) rfl
theorem rat_ok (p:Params) (c:Ctx) {k:Nat} (hf:c.fuel = k + 1) (B:Base c (K06 p)) {mg:Str→Option Value} (G:RatB c mg) (hs:c.env.scope = (fdIn (K06 p) 225).scope) (hcd:c.env.code = .ref 224) {F:O→Hp} {x d ra rb r:Addr} {fs:List (Str × V)} {as bs:List V} {L:List Tri} {ps:Array Value}
  (sp:∀ o,Spot 220 o (F o) F) (hx:∀ o,(x,O.inst 242 d)∈F o) (hd:∀ o,(d,O.ns fs)∈F o) (ha:fs.lookup ("a":Str) = some (.ref ra)) (hb:fs.lookup ("b":Str) = some (.ref rb)) (hm:fs.lookup ("matching_blocks":Str) = some (.ref r)) (hg:fs.lookup ("get_matching_blocks":Str) = .none)
  (hra:∀ o,(ra,O.list as)∈F o) (hrb:∀ o,(rb,O.list bs)∈F o) (hr:∀ o,(r,O.list (L.map (triV 135)))∈F o) (hps:TriplesOk ps.toList) (h5:as.length < 128) (h6:bs.length < 128) (hS:(L.map (·.2.2)).sum < 128)
  :WPs c (bodyIn (fdIn (K06 p) 225)) [("self",.ref x)] (F (.obj (tabObj ps))) fun f m' H'=>f = .ret (.float (ratV (L.map (·.2.2)).sum (as.length + bs.length)))∧∃ ps',TriplesOk ps'.toList∧H' = F (.obj (tabObj ps')):=by
 have hn:=congrArg Scope.names hs
 conv at hn=>rhs; whnf
 have hC:=cls02 p
 have gl:Glob c "len" (.bi "len"):=B.len hn (by kernel_rfl)
 have gS:Glob c "sum" (.bi "sum"):=B.sum hn (by kernel_rfl)
 have gC:=gRatio p B hn (by kernel_rfl)
 have lSe:Lc c "self":=lc_of hn (by kernel_rfl)
 have lM:Lc c "matches":=lc_of hn (by kernel_rfl)
 have LB:LamBase c mg 224 220:=⟨G.glo,G.bm,G.code,hcd,B.g⟩
 refine s_cons (s1_expr (e_str ?_))
 refine s_cons (s1_assign (e_sumgen gS LB B.lim (fun h hh=>tupG_of (B.kin h hh) (match_tupG p)) rfl rfl (by decide) rfl rfl (by decide) rfl (e_method ((Pu.n lSe) _ ⟨_,_,gm_inst (K:=K06 p) (C:=242) (f:=203) B hC (by kernel_rfl) (by kernel_rfl) (.mem (hx _)) (.mem (hd _)) hg,items_nil ⟨keep_K B (by kernel_rfl),CalC.cal (gmbc_cal p hf B (hx _) (hd _) hm ⟨r,L,ps,_,rfl,hr _,Nat.le_trans (Nat.le_of_lt hS) (by decide),sp _,hps,fun ps' hps'=>sto_local lM.1 ?_⟩)⟩⟩)) rfl (fun _=>rfl)))
 exact s_cons (s1_return (e_call (e_glob gC (items_cons ((Pu.n lM) _ (items_cons (((Pu.addN (Pu.len gl (Pu.attr B hC (.mem (hx _)) (.mem (hd _)) (by kernel_rfl) (.n lSe) ha) (.mem (hra _)) (Nat.le_trans (Nat.le_of_lt h5) (by decide)) (hE:=fun _ h=>e_call h)) (Pu.len gl (Pu.attr B hC (.mem (hx _)) (.mem (hd _)) (by kernel_rfl) (.n lSe) hb) (.mem (hrb _)) (Nat.le_trans (Nat.le_of_lt h6) (by decide)) (hE:=fun _ h=>e_call h)))) _ (items_nil ⟨keep_K B (by kernel_rfl),CalC.cal (ratio_fn p hf B hS (Nat.lt_of_lt_of_le (Nat.add_lt_add h5 h6) (by decide)) ⟨rfl,ps',hps',rfl⟩)⟩))))))))
theorem rat_cal (p:Params) {c:Ctx} {k:Nat} (hf:c.fuel = k + 1 + 1) (B:Base c (K06 p)) {mg:Str→Option Value} (G:RatB c mg) {m:Lo} {Q:V→Lo→Hp→Prop} {F:O→Hp} {x d ra rb r:Addr} {fs:List (Str × V)} {as bs:List V} {L:List Tri} {ps:Array Value}
  (sp:∀ o,Spot 220 o (F o) F) (hx:∀ o,(x,O.inst 242 d)∈F o) (hd:∀ o,(d,O.ns fs)∈F o) (ha:fs.lookup ("a":Str) = some (.ref ra)) (hb:fs.lookup ("b":Str) = some (.ref rb)) (hm:fs.lookup ("matching_blocks":Str) = some (.ref r)) (hg:fs.lookup ("get_matching_blocks":Str) = .none)
  (hra:∀ o,(ra,O.list as)∈F o) (hrb:∀ o,(rb,O.list bs)∈F o) (hr:∀ o,(r,O.list (L.map (triV 135)))∈F o) (hps:TriplesOk ps.toList) (h5:as.length < 128) (h6:bs.length < 128) (hS:(L.map (·.2.2)).sum < 128)
  (h:∀ ps',TriplesOk ps'.toList→Q (.float (ratV (L.map (·.2.2)).sum (as.length + bs.length))) m (F (.obj (tabObj ps')))):CalC c (.ref 225) [.ref x] m (F (.obj (tabObj ps))) Q:=
 cal_self p hf B (by kernel_rfl) (by kernel_rfl) (by kernel_rfl) (fun _=>by kernel_rfl) (fun _=>by kernel_rfl) (fun _ _=>by kernel_rfl) fun L c2 hc hk B2=>
  WPs.mono (rat_ok p c2 hk B2 (G.called hc) hc.scope (hc.code.trans (by kernel_rfl)) sp hx hd ha hb hm hg hra hrb hr hps h5 h6 hS) fun f m' H' q=>by
   obtain ⟨rfl,ps',hps',rfl⟩:=q
   exact ⟨_,Less.refl _ _,h ps' hps'⟩
section
variable {c:Ctx} {m:Lo} {H:Hp} {pos p1:Pos} {k1:Nat}
theorem Pu.str {x:Str}:Pu c (.Constant (.str x) k1 pos) m H (.str x):=fun _ h=>e_str h
theorem tru_str {x:Str} {Q:Bool→Lo→Hp→Prop} (hz:x.length < 1000) (h:Q (decide (x.length≠0)) m H):Tru c (.str x) m H Q:=fun s va R ra=>by
 obtain ⟨t,rfl⟩:=ra
 refine .val R h fun P k=>PyProof.Rows.SBL.truthy (Int.lt_trans (Int.ofNat_lt.mpr hz) (by decide)) ?_
 rw [show ((x.length:Int) != 0) = decide (x.length≠0) by by_cases e:x.length = 0 <;> simp [e]]
 exact k _ _ rfl
end
theorem snoc_map {α β:Type} {f:α→β} {xs:List α} {x:α}:xs.map f ++ [f x] = (xs ++ [x]).map f:=by rw [List.map_append]; rfl
noncomputable def tagS (p q:Bool):Str:=if p && q then "replace" else if p then "delete" else if q then "insert" else ""
noncomputable def tagL (i a j b:Nat):List (List At):=if i < a ∨ j < b then [[.str (tagS (decide (i < a)) (decide (j < b))),.int i,.int a,.int j,.int b]] else []
noncomputable def opcs:Nat→Nat→List Tri→List (List At)
 | _,_,[]=>[]
 | i,j,(a,b,s) :: r=>tagL i a j b ++ ((if s = 0 then [] else [[.str "equal",.int a,.int (a + s:Nat),.int b,.int (b + s:Nat)]]) ++ opcs (a + s) (b + s) r)
theorem opcs_nil (i j:Nat):opcs i j [] = []:=rfl
theorem opcs_cons (i j a b s:Nat) (r:List Tri):opcs i j ((a,b,s) :: r) = tagL i a j b ++ ((if s = 0 then [] else [[.str "equal",.int a,.int (a + s:Nat),.int b,.int (b + s:Nat)]]) ++ opcs (a + s) (b + s) r):=rfl
noncomputable abbrev opcM (an x:Addr) (i j:Nat):Lo:=[("answer",.ref an),("i",.int i),("j",.int j),("self",.ref x)]
noncomputable abbrev opcH (an x d:Addr) (fs:List (Str × V)) (H:Hp) (out:List (List At)):Hp:=(an,.list (out.map (V.tup .none))) :: (x,.inst 242 d) :: (d,.ns (("opcodes",.ref an) :: fs)) :: H
theorem opc_ok (p:Params) (c:Ctx) {k:Nat} (hf:c.fuel = k + 1) (B:Base c (K06 p)) (hs:c.env.scope = (fdIn (K06 p) 210).scope) {H:Hp} {x d r:Addr} {fs:List (Str × V)} {L:List Tri}
  (ho:fs.lookup ("opcodes":Str) = some .none) (hm:fs.lookup ("matching_blocks":Str) = some (.ref r)) (hg:fs.lookup ("get_matching_blocks":Str) = .none) (hr:(r,O.list (L.map (triV 135)))∈H) (hL:L.length≤100) (hz:fs.length≤90)
  :WPs c (bodyIn (fdIn (K06 p) 210)) [("self",.ref x)] ((x,.inst 242 d) :: (d,.ns fs) :: H) fun f _ H'=>∃ an,f = .ret (.ref an)∧Less [] H' [] (opcH an x d fs H (opcs 0 0 L)):=by
 have hn:=congrArg Scope.names hs
 conv at hn=>rhs; whnf
 refine WPs.cutk fun Q0 hQ0=>?_
 have hC:=cls02 p
 have lSe:Lc c "self":=lc_of hn (by kernel_rfl)
 have lI:Lc c "i":=lc_of hn (by kernel_rfl)
 have lJ:Lc c "j":=lc_of hn (by kernel_rfl)
 have lA:Lc c "answer":=lc_of hn (by kernel_rfl)
 have lAi:Lc c "ai":=lc_of hn (by kernel_rfl)
 have lBj:Lc c "bj":=lc_of hn (by kernel_rfl)
 have lS:Lc c "size":=lc_of hn (by kernel_rfl)
 have lT:Lc c "tag":=lc_of hn (by kernel_rfl)
 refine s_cons (s1_expr (e_str ?_))
 refine s_cons (s1_ifP (.isntNone (Pu.attr B hC (.mem mS) (.mem (mT mS)) (by kernel_rfl) (.n lSe) ho) .nn) (fun h=>nomatch h) fun _=>s_nil ?_)
 refine s_cons (s1_to2 (e_int (asg_name (sto_local lI.1 (asg_name (sto_local lJ.1 ?_))))))
 refine s_cons (s1_to2 (e_list (items_nil ⟨Nat.le_of_ble_eq_true rfl,fun an=>asg_attr ((Pu.n lSe) _ (set_inst B hC (by kernel_rfl) (.mem (mT mS)) (.tail (.tail (.head _))) (asg_name (sto_local lA.1 ?_)) (Nat.le_trans hz (by decide))))⟩)))
 refine WPs.less (less_m (m':=opcM an x 0 0) LessM.k) ?_
 refine s_for_list (e_method ((Pu.n lSe) _ ⟨_,_,gm_inst (K:=K06 p) (C:=242) (f:=203) B hC (by kernel_rfl) (by kernel_rfl) (.mem (mT mS)) (.mem (mT (mT mS))) ((look_skip (by decide)).trans hg),items_nil ⟨keep_K B (by kernel_rfl),CalC.cal (gmbc_cal p hf B (mT mS) (mT (mT mS)) ((look_skip (by decide)).trans hm) ?_)⟩⟩))
 refine ⟨r,L.map (triV 135),rfl,fun t m2 H2=>∃ i j out,out ++ opcs i j (L.drop t) = opcs 0 0 L∧out.length≤2 * t∧Less m2 H2 (opcM an x i j) (opcH an x d fs H out),?_,?_,?_,?_⟩
 ·exact ⟨0,0,[],rfl,Nat.le_refl _,Less.refl _ _⟩
 ·rintro t m2 H2 ⟨i,j,out,_,_,hl⟩
  exact Sees.less hl (mT (mT (mT hr)))
 ·rintro t v m2 H2 hv ⟨i,j,out,he,hlen,hl⟩
  obtain ⟨⟨a,b,s⟩,hx,rfl⟩:∃ x,L[t]? = some x∧v = triV 135 x:=by
   rw [List.getElem?_map] at hv
   cases q:L[t]? with
   | none=>rw [q] at hv; cases hv
   | some x=>rw [q] at hv; cases hv; exact ⟨x,rfl,rfl⟩
  have htl:t < L.length:=(List.getElem?_eq_some_iff.mp hx).1
  have hdr:L.drop t = (a,b,s) :: L.drop (t + 1):=by
   rw [List.drop_eq_getElem_cons htl,(List.getElem?_eq_some_iff.mp hx).2]
  rw [hdr,opcs_cons,← List.append_assoc] at he
  have hou:out.length≤1000:=by exact as3 3 (.l Z0 (.n 100)) (.l Z1 (.m 2 Z2)) (.t Z2 Z0) (.l Z1 (.n 1000)) [_,_,_] hL hlen htl
  refine On1.less hl (asg_tupC (hTm p _) B (xs:=[.int (a:Nat),.int (b:Nat),.int (s:Nat)]) (asg_name (sto_local lAi.1 (asg_name (sto_local lBj.1 (asg_name (sto_local lS.1 ?_)))))))
  show WPs c _ _ _ _
  refine WPs.cutk fun Q1 hQ1=>?_
  refine s_cons (s1_assignP lT .str ?_)
  refine s_to (("tag",.str (tagS (decide (i < a)) (decide (j < b)))) :: ("size",.int (s:Nat)) :: ("bj",.int (b:Nat)) :: ("ai",.int (a:Nat)) :: opcM an x i j) (opcH an x d fs H out) ?_ ?_
  ·refine s1_ifP (.and2 (.ltN (.n lI) (.n lAi)) fun _=>.ltN (.n lJ) (.n lBj)) (fun h=>?_) (fun h=>?_)
   ·unfold tagS
    rw [if_pos h]
    exact s_cons (s1_assignP lT .str (s_nil (less_m LessM.k)))
   ·unfold tagS
    rw [if_neg (Bool.eq_false_iff.mp h)]
    refine s_cons (s1_ifP (.ltN (.n lI) (.n lAi)) (fun g=>?_) (fun g=>?_))
    ·rw [if_pos g]
     exact s_cons (s1_assignP lT .str (s_nil (s_nil (less_m LessM.k))))
    ·rw [if_neg (Bool.eq_false_iff.mp g)]
     refine s_cons (s1_ifP (.ltN (.n lJ) (.n lBj)) (fun g2=>?_) (fun g2=>?_))
     ·rw [if_pos g2]
      exact s_cons (s1_assignP lT .str (s_nil (s_nil (s_nil (less_m LessM.k)))))
     ·rw [if_neg (Bool.eq_false_iff.mp g2)]
      exact s_nil (s_nil (s_nil (Less.refl _ _)))
  refine s_to (("tag",.str (tagS (decide (i < a)) (decide (j < b)))) :: ("size",.int (s:Nat)) :: ("bj",.int (b:Nat)) :: ("ai",.int (a:Nat)) :: opcM an x i j) (opcH an x d fs H (out ++ tagL i a j b)) ?_ ?_
  ·have key:decide ((tagS (decide (i < a)) (decide (j < b))).length≠0) = decide (i < a ∨ j < b)∧(tagS (decide (i < a)) (decide (j < b))).length < 1000:=by
    by_cases q1:i < a <;> by_cases q2:j < b <;> simp only [q1,q2,decide_true,decide_false,true_or,or_true,or_self] <;> decide
   refine s1_if (t_value ((Pu.n lT) _ (tru_str key.2 ?_)) (by intro _; rfl))
   rw [key.1]
   refine if_b (fun g=>?_) (fun g=>?_)
   ·unfold tagL
    rw [if_pos (of_decide_eq_true g)]
    refine s_cons (s1_append (Pu.n lA) (.tup (xs:=[.str _,.int (i:Nat),.int (a:Nat),.int (j:Nat),.int (b:Nat)]) (.cons (.n lT) (.cons (.n lI) (.cons (.n lAi) (.cons (.n lJ) (.cons (.n lBj) .nil))))) (by simp)) (.mem mS) (.head _) (by rw [List.length_map]; exact Nat.le_trans hou (by decide)) (s_nil ?_) (hE:=fun _ h=>e_method h))
    rw [snoc_map]
    exact Less.refl _ _
   ·unfold tagL
    rw [if_neg (of_decide_eq_false g),List.append_nil]
    exact s_nil (Less.refl _ _)
  generalize hout2:out ++ tagL i a j b = out2
  rw [hout2] at he
  have hol:out2.length≤out.length + 1:=by
   rw [← hout2,List.length_append]
   unfold tagL
   split
   ·exact Nat.le_refl _
   ·exact Nat.le_succ _
  refine s_cons (s1_swapP2 hn (by kernel_rfl) (.addN (.n lAi) (.n lS)) (.addN (.n lBj) (.n lS)) lI lJ ?_)
  refine s_cons (s1_ifP (.nat lS (by with_unfolding_all rfl)) (fun g=>?_) (fun g=>?_))
  ·rw [if_neg (of_decide_eq_true g),← List.append_assoc] at he
   refine s_cons (s1_append (Pu.n lA) (.tup (xs:=[.str "equal",.int (a:Nat),.int (a + s:Nat),.int (b:Nat),.int (b + s:Nat)]) (.cons .str (.cons (.n lAi) (.cons (.n lI) (.cons (.n lBj) (.cons (.n lJ) .nil))))) (by simp)) (.mem mS) (.head _) (by rw [List.length_map]; exact Nat.le_trans hol (Nat.le_trans (Nat.succ_le_succ hou) (by decide))) (s_nil (s_nil (hQ1 .next _ _ ⟨a + s,b + s,_,he,?_,?_⟩))) (hE:=fun _ h=>e_method h))
   ·rw [List.length_append,List.length_singleton]; exact as2 3 (.l Z0 (.m 2 Z1)) (.l Z2 (.a Z0 N1)) (.l (.a Z2 N1) (.m 2 (.a Z1 N1))) [_,_,_] hlen hol
   ·rw [snoc_map]; exact less_m LessM.k
  ·have g':=of_decide_eq_false g
   rw [if_pos (Decidable.not_not.mp g'),List.nil_append] at he
   exact s_nil (s_nil (hQ1 .next _ _ ⟨a + s,b + s,_,he,by exact as2 3 (.l Z0 (.m 2 Z1)) (.l Z2 (.a Z0 N1)) (.l Z2 (.m 2 (.a Z1 N1))) [_,_,_] hlen hol,less_m LessM.k⟩))
 ·rintro m2 H2 ⟨i,j,out,he,_,hl⟩
  rw [List.length_map,List.drop_length,opcs_nil,List.append_nil] at he
  rw [he] at hl
  exact WPs.less hl (s_cons (s1_return ((Pu.n lA) _ (hQ0 _ _ _ ⟨an,rfl,less_of LessM.nil (.refl _)⟩))))
section
variable (p:Params) {c:Ctx} {k:Nat} {m:Lo} {Q:V→Lo→Hp→Prop} {H:Hp} {x d:Addr} {fs:List (Str × V)}
theorem opc_cal (hf:c.fuel = k + 1 + 1) (B:Base c (K06 p)) {r:Addr} {L:List Tri}
  (ho:fs.lookup ("opcodes":Str) = some .none) (hm:fs.lookup ("matching_blocks":Str) = some (.ref r)) (hg:fs.lookup ("get_matching_blocks":Str) = .none) (hr:(r,O.list (L.map (triV 135)))∈H) (hL:L.length≤100) (hz:fs.length≤90)
  (h:∀ an,Q (.ref an) m (opcH an x d fs H (opcs 0 0 L))):CalC c (.ref 210) [.ref x] m ((x,.inst 242 d) :: (d,.ns fs) :: H) Q:=
 cal_self p hf B (by kernel_rfl) (by kernel_rfl) (by kernel_rfl) (fun _=>by kernel_rfl) (fun _=>by kernel_rfl) (fun _ _=>by kernel_rfl) fun L c2 hc hk B2=>
  WPs.mono (opc_ok p c2 hk B2 hc.scope ho hm hg hr hL hz) fun f m' H' q=>by
   obtain ⟨an,rfl,hl⟩:=q
   exact ⟨_,hl,h an⟩
theorem opcc_cal (hf:c.fuel = k + 1) (B:Base c (K06 p)) {an:Addr} (hx:(x,O.inst 242 d)∈H) (hd:(d,O.ns fs)∈H) (ho:fs.lookup ("opcodes":Str) = some (.ref an)) (h:Q (.ref an) m H):CalC c (.ref 210) [.ref x] m H Q:=by
 refine cal_self p hf B (by kernel_rfl) (by kernel_rfl) (by kernel_rfl) (fun _=>by kernel_rfl) (fun _=>by kernel_rfl) (fun _ _=>by kernel_rfl) fun L c2 hc hk B2=>?_
 have hn:=congrArg Scope.names hc.scope
 conv at hn=>rhs; whnf
 have lSe:Lc c2 "self":=lc_of hn (by kernel_rfl)
 refine s_cons (s1_expr (e_str ?_))
 refine s_cons (s1_ifP (.isntNone (Pu.attr B2 (cls02 p) (.mem hx) (.mem hd) (by kernel_rfl) (.n lSe) ho) .ref) (fun _=>?_) (fun h=>nomatch h))
 exact s_cons (s1_return ((Pu.attr B2 (cls02 p) (.mem hx) (.mem hd) (by kernel_rfl) (.n lSe) ho) _ ⟨_,Less.refl _ _,h⟩))
theorem qr_cal (hf:c.fuel = k + 1 + 1) (B:Base c (K06 p)) {ra rb:Addr} {as bs:List Int}
  (ha:fs.lookup ("a":Str) = some (.ref ra)) (hb:fs.lookup ("b":Str) = some (.ref rb)) (hF:fs.lookup ("fullbcount":Str) = some .none) (hra:(ra,O.list (as.map .int))∈H) (hrb:(rb,O.list (bs.map .int))∈H) (h5:as.length < 128) (h6:bs.length < 128) (hz:fs.length≤90)
  (h:∀ D ep es,CntOk es bs→Q (.float (ratV (qmN as bs as.length) (as.length + bs.length))) m ((D,.dict ep es) :: (x,.inst 242 d) :: (d,.ns (("fullbcount",.ref D) :: fs)) :: H)):CalC c (.ref 232) [.ref x] m ((x,.inst 242 d) :: (d,.ns fs) :: H) Q:=
 cal_self p hf B (by kernel_rfl) (by kernel_rfl) (by kernel_rfl) (fun _=>by kernel_rfl) (fun _=>by kernel_rfl) (fun _ _=>by kernel_rfl) fun L c2 hc hk B2=>
  WPs.mono (qr_ok p c2 hk B2 hc.scope ha hb hF hra hrb h5 h6 hz) fun f m' H' q=>by
   obtain ⟨rfl,D,ep,es,hc,hl⟩:=q
   exact ⟨_,⟨(fun _ _ e=>nomatch e),hl.2⟩,h D ep es hc⟩
theorem qr_cal2 (hf:c.fuel = k + 1 + 1) (B:Base c (K06 p)) {ra rb fc:Addr} {as bs cs:List Int} {ep:Nat} {es:List (IS × V)} (hx:(x,O.inst 242 d)∈H) (hd:(d,O.ns fs)∈H)
  (ha:fs.lookup ("a":Str) = some (.ref ra)) (hb:fs.lookup ("b":Str) = some (.ref rb)) (hF:fs.lookup ("fullbcount":Str) = some (.ref fc)) (hra:(ra,O.list (as.map .int))∈H) (hrb:(rb,O.list (bs.map .int))∈H) (hfc:(fc,O.dict ep es)∈H) (hcnt:CntOk es cs) (h5:as.length < 128) (h6:bs.length < 128)
  (h:Q (.float (ratV (qmN as cs as.length) (as.length + bs.length))) m H):CalC c (.ref 232) [.ref x] m H Q:=
 cal_self p hf B (by kernel_rfl) (by kernel_rfl) (by kernel_rfl) (fun _=>by kernel_rfl) (fun _=>by kernel_rfl) (fun _ _=>by kernel_rfl) fun L c2 hc hk B2=>
  WPs.mono (qr_ok2 p c2 hk B2 hc.scope hx hd ha hb hF hra hrb hfc hcnt h5 h6) fun f m' H' q=>by
   obtain ⟨rfl,hl⟩:=q
   exact ⟨_,⟨(fun _ _ e=>nomatch e),hl.2⟩,h⟩
theorem seq1s_cal (hf:c.fuel = k + 1) (B:Base c (K06 p)) {ra:Addr} (hx:(x,O.inst 242 d)∈H) (hd:(d,O.ns fs)∈H) (ha:fs.lookup ("a":Str) = some (.ref ra)) (h:Q .none m H):CalC c (.ref 174) [.ref x,.ref ra] m H Q:=by
 refine cal_K (fd:=fdIn (K06 p) 174) (bs:=List.zip [("self":Str),"a"] [V.ref x,V.ref ra]) B hf (fnOk_of (by kernel_rfl)) (by kernel_rfl) (by kernel_rfl) (fun s vvs X r=>binds_plain rfl (fun vvs hl=>?_) s vvs X r) fun L c2 hc hk B2=>?_
 ·exact bind2 (fun v0 v1=>by kernel_rfl) vvs hl
 have e1:locOf (fdIn (K06 p) 174).scope.names (List.zip [("self":Str),"a"] [V.ref x,V.ref ra]) = [(("a":Str),V.ref ra),("self",V.ref x)]:=by kernel_rfl
 have e2:cellsAt L (fdIn (K06 p) 174) (List.zip [("self":Str),"a"] [V.ref x,V.ref ra]) = []:=by kernel_rfl
 rw [e1,e2]
 have hn:=congrArg Scope.names hc.scope
 conv at hn=>rhs; whnf
 have lSe:Lc c2 "self":=lc_of hn (by kernel_rfl)
 have lA:Lc c2 "a":=lc_of hn (by kernel_rfl)
 refine s_cons (s1_expr (e_str ?_))
 refine s_cons (s1_if (t_cmp ((Pu.n lA) _ ((Pu.attr B2 (cls02 p) (.mem hx) (.mem hd) (by kernel_rfl) (.n lSe) ha) _ (c_is .self (tru_bool ?_)))) (by with_unfolding_all rfl)))
 exact s_cons (s1_return0 h)
theorem seq2s_cal (hf:c.fuel = k + 1) (B:Base c (K06 p)) {rb:Addr} (hx:(x,O.inst 242 d)∈H) (hd:(d,O.ns fs)∈H) (hb:fs.lookup ("b":Str) = some (.ref rb)) (h:Q .none m H):CalC c (.ref 181) [.ref x,.ref rb] m H Q:=by
 refine cal_K (fd:=fdIn (K06 p) 181) (bs:=List.zip [("self":Str),"b"] [V.ref x,V.ref rb]) B hf (fnOk_of (by kernel_rfl)) (by kernel_rfl) (by kernel_rfl) (fun s vvs X r=>binds_plain rfl (fun vvs hl=>?_) s vvs X r) fun L c2 hc hk B2=>?_
 ·exact bind2 (fun v0 v1=>by kernel_rfl) vvs hl
 have e1:locOf (fdIn (K06 p) 181).scope.names (List.zip [("self":Str),"b"] [V.ref x,V.ref rb]) = [(("b":Str),V.ref rb),("self",V.ref x)]:=by kernel_rfl
 have e2:cellsAt L (fdIn (K06 p) 181) (List.zip [("self":Str),"b"] [V.ref x,V.ref rb]) = []:=by kernel_rfl
 rw [e1,e2]
 have hn:=congrArg Scope.names hc.scope
 conv at hn=>rhs; whnf
 have lSe:Lc c2 "self":=lc_of hn (by kernel_rfl)
 have lA:Lc c2 "b":=lc_of hn (by kernel_rfl)
 refine s_cons (s1_expr (e_str ?_))
 refine s_cons (s1_if (t_cmp ((Pu.n lA) _ ((Pu.attr B2 (cls02 p) (.mem hx) (.mem hd) (by kernel_rfl) (.n lSe) hb) _ (c_is .self (tru_bool ?_)))) (by with_unfolding_all rfl)))
 exact s_cons (s1_return0 h)
theorem seqss_cal (hf:c.fuel = k + 1 + 1) (B:Base c (K06 p)) {ra rb:Addr} (hx:(x,O.inst 242 d)∈H) (hd:(d,O.ns fs)∈H) (ha:fs.lookup ("a":Str) = some (.ref ra)) (hb:fs.lookup ("b":Str) = some (.ref rb)) (h1:fs.lookup ("set_seq1":Str) = .none) (h2:fs.lookup ("set_seq2":Str) = .none) (h:Q .none m H):CalC c (.ref 167) [.ref x,.ref ra,.ref rb] m H Q:=by
 refine cal_K (fd:=fdIn (K06 p) 167) (bs:=List.zip [("self":Str),"a","b"] [V.ref x,V.ref ra,V.ref rb]) B hf (fnOk_of (by kernel_rfl)) (by kernel_rfl) (by kernel_rfl) (fun s vvs X r=>binds_plain rfl (fun vvs hl=>?_) s vvs X r) fun L c2 hc hk B2=>?_
 ·exact bind3 (fun v0 v1 v2=>by kernel_rfl) vvs hl
 have e1:locOf (fdIn (K06 p) 167).scope.names (List.zip [("self":Str),"a","b"] [V.ref x,V.ref ra,V.ref rb]) = [(("b":Str),V.ref rb),("a",V.ref ra),("self",V.ref x)]:=by kernel_rfl
 have e2:cellsAt L (fdIn (K06 p) 167) (List.zip [("self":Str),"a","b"] [V.ref x,V.ref ra,V.ref rb]) = []:=by kernel_rfl
 rw [e1,e2]
 have hn:=congrArg Scope.names hc.scope
 conv at hn=>rhs; whnf
 have hC:=cls02 p
 have lSe:Lc c2 "self":=lc_of hn (by kernel_rfl)
 have lA:Lc c2 "a":=lc_of hn (by kernel_rfl)
 have lB:Lc c2 "b":=lc_of hn (by kernel_rfl)
 refine s_cons (s1_expr (e_str ?_))
 refine s_cons (s1_expr (e_method ((Pu.n lSe) _ ⟨_,_,gm_inst (K:=K06 p) (C:=242) (f:=174) B2 hC (by kernel_rfl) (by kernel_rfl) (.mem hx) (.mem hd) h1,items_cons ((Pu.n lA) _ (items_nil ⟨keep_K B2 (by kernel_rfl),CalC.cal (seq1s_cal p hk B2 hx hd ha ?_)⟩))⟩)))
 exact s_cons (s1_expr (e_method ((Pu.n lSe) _ ⟨_,_,gm_inst (K:=K06 p) (C:=242) (f:=181) B2 hC (by kernel_rfl) (by kernel_rfl) (.mem hx) (.mem hd) h2,items_cons ((Pu.n lB) _ (items_nil ⟨keep_K B2 (by kernel_rfl),CalC.cal (seq2s_cal p hk B2 hx hd hb (s_nil h))⟩))⟩)))
theorem seqsn_cal (hf:c.fuel = k + 1 + 1) (B:Base c (K06 p)) {ra rb:Addr} {ua:At} (hfa:fs.lookup ("a":Str) = some (.at ua)) (hua:(V.at ua).notBi = true) (hne:NotSame ra ua H) (hz:fs.length≤90) (hb:fs.lookup ("b":Str) = some (.ref rb)) (h1:fs.lookup ("set_seq1":Str) = .none) (h2:fs.lookup ("set_seq2":Str) = .none)
  (h:Q .none m ((x,.inst 242 d) :: (d,.ns (("opcodes",.none) :: ("matching_blocks",.none) :: ("a",.ref ra) :: fs)) :: H)):CalC c (.ref 167) [.ref x,.ref ra,.ref rb] m ((x,.inst 242 d) :: (d,.ns fs) :: H) Q:=by
 refine cal_K (fd:=fdIn (K06 p) 167) (bs:=List.zip [("self":Str),"a","b"] [V.ref x,V.ref ra,V.ref rb]) B hf (fnOk_of (by kernel_rfl)) (by kernel_rfl) (by kernel_rfl) (fun s vvs X r=>binds_plain rfl (fun vvs hl=>?_) s vvs X r) fun L c2 hc hk B2=>?_
 ·exact bind3 (fun v0 v1 v2=>by kernel_rfl) vvs hl
 have e1:locOf (fdIn (K06 p) 167).scope.names (List.zip [("self":Str),"a","b"] [V.ref x,V.ref ra,V.ref rb]) = [(("b":Str),V.ref rb),("a",V.ref ra),("self",V.ref x)]:=by kernel_rfl
 have e2:cellsAt L (fdIn (K06 p) 167) (List.zip [("self":Str),"a","b"] [V.ref x,V.ref ra,V.ref rb]) = []:=by kernel_rfl
 rw [e1,e2]
 have hn:=congrArg Scope.names hc.scope
 conv at hn=>rhs; whnf
 have hC:=cls02 p
 have lSe:Lc c2 "self":=lc_of hn (by kernel_rfl)
 have lA:Lc c2 "a":=lc_of hn (by kernel_rfl)
 have lB:Lc c2 "b":=lc_of hn (by kernel_rfl)
 refine s_cons (s1_expr (e_str ?_))
 refine s_cons (s1_expr (e_method ((Pu.n lSe) _ ⟨_,_,gm_inst (K:=K06 p) (C:=242) (f:=174) B2 hC (by kernel_rfl) (by kernel_rfl) (.mem mS) (.mem (mT mS)) h1,items_cons ((Pu.n lA) _ (items_nil ⟨keep_K B2 (by kernel_rfl),CalC.cal (seq1_cal p hk B2 hfa hua hne (Nat.le_trans hz (by decide)) ?_)⟩))⟩)))
 exact s_cons (s1_expr (e_method ((Pu.n lSe) _ ⟨_,_,gm_inst (K:=K06 p) (C:=242) (f:=181) B2 hC (by kernel_rfl) (by kernel_rfl) (.mem mS) (.mem (mT mS)) ((look_skip (by decide)).trans ((look_skip (by decide)).trans ((look_skip (by decide)).trans h2))),items_cons ((Pu.n lB) _ (items_nil ⟨keep_K B2 (by kernel_rfl),CalC.cal (seq2s_cal p hk B2 mS (mT mS) ((look_skip (by decide)).trans ((look_skip (by decide)).trans ((look_skip (by decide)).trans hb))) (s_nil h))⟩))⟩)))
end
theorem flm_b4 {fd:FuncData} {T:Addr} {s:Shared} {o:Obj} {d1 d2 d3 d4:Value} {n:Nat} (hp:fd.params = flmParams) (hd:fd.defaults = .ref T) (ho:s.heap.get? T = some o) (hs:o.data = .seq #[d1,d2,d3,d4] n) (v0 v1 v2 v3:Value) :
  BindsTo s fd ⟨[v0,v1,v2,v3],[]⟩ (List.zip [("self":Str),"alo","ahi","blo","bhi"] [v0,v1,v2,v3,d4]):=by
 cases fd
 dsimp only at hp hd
 subst hp hd
 exact BindsTo.of_defaults rfl ho hs rfl rfl
theorem flm_b1 {fd:FuncData} {T:Addr} {s:Shared} {o:Obj} {d1 d2 d3 d4:Value} {n:Nat} (hp:fd.params = flmParams) (hd:fd.defaults = .ref T) (ho:s.heap.get? T = some o) (hs:o.data = .seq #[d1,d2,d3,d4] n) (v0:Value) :
  BindsTo s fd ⟨[v0],[]⟩ (List.zip [("self":Str),"alo","ahi","blo","bhi"] [v0,d1,d2,d3,d4]):=by
 cases fd
 dsimp only at hp hd
 subst hp hd
 exact BindsTo.of_defaults rfl ho hs rfl rfl
theorem vals1 {P:List Value→Prop} (h:∀ a0,P [a0]) (l:List Value) (e:l.length = 1):P l:=by
 obtain ⟨a0,l0,rfl,e0⟩:=len_cons e
 cases List.length_eq_zero_iff.mp e0
 exact h a0
theorem flm_calD (p:Params) {c:Ctx} {k:Nat} (hf:c.fuel = k + 1 + 1 + 1) (B:Base c (K06 p)) {m:Lo} {Q:V→Lo→Hp→Prop} {H:Hp} {x d ra rb D S:Addr} {fs:List (Str × V)} {as bs:List Int} {ep:Nat} {es:List (IS × V)} {z:Raw} {ks:List IS} {idx:Int→List Nat} {alo ahi blo:Nat} {ah:V} {vs:List V}
  (hx:(x,O.inst 242 d)∈H) (hd:(d,O.ns fs)∈H) (ha:fs.lookup ("a":Str) = some (.ref ra)) (hb:fs.lookup ("b":Str) = some (.ref rb)) (hD:fs.lookup ("b2j":Str) = some (.ref D)) (hS:fs.lookup ("bjunk":Str) = some (.ref S))
  (hra:(ra,O.list (as.map .int))∈H) (hrb:(rb,O.list (bs.map .int))∈H) (hes:(D,O.dict ep es)∈H) (hks:(S,O.set z ks)∈H) (hidx:IdxOk H es idx) (hpw:∀ v,(idx v).Pairwise (· < ·)) (hpn:∀ v,(idx v).length≤1000)
  (hv:(vs = [.int alo,.int ahi,.int blo]∧ah = .int ahi) ∨ (vs = []∧alo = 0∧blo = 0∧ahi = as.length∧ah = .none)) (h1:alo≤ahi) (h2:ahi≤as.length) (h3:blo≤bs.length) (h5:as.length≤1000) (h6:bs.length≤1000)
  (h:∀ i j k,FlmR (flmQ as bs) (flmE as idx alo ahi blo bs.length) (flmD bs ks) alo ahi blo bs.length i j k→Q (.tup (some 135) [.int (i:Nat),.int (j:Nat),.int (k:Nat)]) m H):CalC c (.ref 196) (.ref x :: vs) m H Q:=by
 refine cal_K (fd:=fdIn (K06 p) 196) (bs:=List.zip [("self":Str),"alo","ahi","blo","bhi"] [V.ref x,.int alo,ah,.int blo,.none]) B hf (fnOk_of (by kernel_rfl)) (by kernel_rfl) (by kernel_rfl) ?_ fun L c2 hc hk B2=>?_
 ·intro s vvs X r
  rcases hv with ⟨rfl,rfl⟩ | ⟨rfl,rfl,rfl,_,rfl⟩
  ·revert r
   refine fun r=>vals4 (P:=fun l=>Reps s.heap _ l→∃ binds,BindsTo s _ ⟨l,[]⟩ binds∧BRep s.heap _ binds) (fun v0 v1 v2 v3 r=>?_) vvs r.length r
   exact ⟨_,flm_b4 (by kernel_rfl) (by kernel_rfl) (X _ _ (flm_dfl p)) rfl v0 v1 v2 v3,rfl,Reps.append (ys:=[V.none]) (ws:=[Value.none]) r (Reps.one (x:=V.none) rfl)⟩
  ·revert r
   refine fun r=>vals1 (P:=fun l=>Reps s.heap _ l→∃ binds,BindsTo s _ ⟨l,[]⟩ binds∧BRep s.heap _ binds) (fun v0 r=>?_) vvs r.length r
   exact ⟨_,flm_b1 (by kernel_rfl) (by kernel_rfl) (X _ _ (flm_dfl p)) rfl v0,rfl,Reps.append (ys:=[V.int (0:Nat),.none,.int (0:Nat),.none]) (ws:=[.int 0 464,.none,.int 0 465,.none]) r (.cons ⟨464,rfl⟩ (.cons rfl (.cons ⟨465,rfl⟩ (.one rfl))))⟩
 ·have e1:locOf (fdIn (K06 p) 196).scope.names (List.zip [("self":Str),"alo","ahi","blo","bhi"] [V.ref x,.int alo,ah,.int blo,.none]) = [(("bhi":Str),.none),("blo",.int blo),("ahi",ah),("alo",.int alo),("self",V.ref x)]:=by kernel_rfl
  have e2:cellsAt L (fdIn (K06 p) 196) (List.zip [("self":Str),"alo","ahi","blo","bhi"] [V.ref x,.int alo,ah,.int blo,.none]) = []:=by kernel_rfl
  rw [e1,e2]
  refine WPs.post (WPs.mono (flm_ok p c2 hk B2 hc.scope hx hd ha hb hD hS hra hrb hes hks hidx hpw hpn (hv.imp (fun q=>q.2) fun q=>⟨q.2.2.2.2,q.2.2.2.1⟩) (.inr ⟨rfl,rfl⟩) h1 h2 h3 (Nat.le_refl _) h5 h6) ?_)
  rintro f m' H' ⟨i,j,k,rfl,hl,hr⟩
  exact ⟨[],_,⟨(fun _ _ e=>nomatch e),hl.2⟩,h i j k hr⟩
inductive Dia:Nat→Nat→List Tri→Prop
 | nil (n:Nat):Dia n n []
 | cons {n m k:Nat} {L:List Tri}:0 < k→Dia (n + k) m L→Dia n m ((n,n,k) :: L)
theorem Dia.append {n m o:Nat} {L M:List Tri} (h:Dia n m L) (h':Dia m o M):Dia n o (L ++ M):=by
 induction h with
 | nil=>exact h'
 | cons hk _ ih=>exact .cons hk (ih h')
theorem Dia.mrg {n m:Nat} {L:List Tri} (h:Dia n m L):∀ {i k:Nat},i + k = n→mrg (i,i,k) L = if m - i = 0 then [] else [(i,i,m - i)]:=by
 induction h with
 | nil n=>
  intro i k e
  rw [mrg_nil]
  rw [show n - i = k by exact as1 3 (.e (.a Z0 Z1) Z2) (.e (.s Z2 Z0) Z1) [_,_,_] e]
 | @cons n m k2 L hk hd ih=>
  intro i k e
  rw [mrg_cons]
  rw [if_pos ⟨e,e⟩]
  exact ih (by exact as1 4 (.e (.a Z0 Z1) Z2) (.e (.a Z0 (.a Z1 Z3)) (.a Z2 Z3)) [_,_,_,_] e)
theorem ok_zero {e d:Nat→Bool} {n:Nat} (h:OkTo e d n) (h0:e 0 = false):n = 0:=by
 rcases Nat.eq_zero_or_pos n with q | q
 ·exact q
 ·have:=h.1 0 q; rw [h0] at this; cases this
theorem ok_one {e d:Nat→Bool} (h0:e 0 = true):OkTo e d 1:=by
 refine ⟨fun t ht=>by rw [Nat.lt_one_iff.mp ht]; exact h0,?_⟩
 cases q:d 0 with
 | true=>exact ⟨0,Nat.zero_le _,fun t ht=>(nomatch ht),fun t _ ht=>by rw [Nat.lt_one_iff.mp ht]; exact q⟩
 | false=>exact ⟨1,Nat.le_refl _,fun t ht=>by rw [Nat.lt_one_iff.mp ht]; exact q,fun t h1 h2=>absurd h2 (Nat.not_lt.mpr h1)⟩
section
variable {q E:Nat→Nat→Bool} {d:Nat→Bool} {K:Nat}
theorem best_dia {lo hi bhi:Nat} (hE1:∀ i j,i < K→E i j = true→i≤j→E i i = true) (hE2:∀ i j,i < K→E i j = true→j≤i→E j j = true) (h1:lo≤hi) (h2:hi≤K) (h3:hi≤bhi) {bi bj bz:Nat}
  (hb:BestTo (winE E lo hi lo bhi) lo lo (fun p q=>winE E lo hi lo bhi p q = true) bi bj bz):bi = bj:=by
 rcases Nat.eq_zero_or_pos bz with z | z
 ·obtain ⟨rfl,rfl⟩:=hb.zero z; rfl
 have dia:∀ x,(∀ t,t < bz→lo≤x + t∧x + t < hi∧E (x + t) (x + t) = true)→LexLe (bi + bz - 1) (bj + bz - 1) (x + bz - 1) (x + bz - 1):=fun x hx=>by
  have w:∀ t,t < bz→winE E lo hi lo bhi (x + t) (x + t) = true:=fun t ht=>by
   obtain ⟨a,b,c⟩:=hx t ht
   exact winE_iff.mpr ⟨a,b,a,Nat.lt_of_lt_of_le b h3,c⟩
  refine hb.first _ _ ?_ z (by exact as0 2 (.l Z0 (.a (.s (.a Z1 Z0) N1) N1)) [_,_]) (by exact as0 2 (.l Z0 (.a (.s (.a Z1 Z0) N1) N1)) [_,_]) fun t ht=>?_
  ·have:=w (bz - 1) (by exact as1 1 (.t (.n 0) Z0) (.t (.s Z0 N1) Z0) [_] z)
   rwa [show x + (bz - 1) = x + bz - 1 by exact as1 2 (.t (.n 0) Z0) (.e (.a Z1 (.s Z0 N1)) (.s (.a Z1 Z0) N1)) [_,_] z] at this
  ·rw [show x + bz - 1 + 1 - bz = x by exact as1 3 (.t Z0 Z1) (.e (.s (.a (.s (.a Z2 Z1) N1) N1) Z1) Z2) [_,_,_] ht]
   exact w t ht
 rcases Nat.le_total bi bj with e | e
 ·have:=dia bi fun t ht=>by
   obtain ⟨w1,w2,w3,w4,w5⟩:=winE_iff.mp (hb.run t ht)
   exact ⟨w1,w2,hE1 _ _ (Nat.lt_of_lt_of_le w2 h2) w5 (Nat.add_le_add_right e t)⟩
  unfold LexLe at this
  exact as3 3 (.t (.n 0) Z0) (.l Z1 Z2) (.o (.t (.s (.a Z1 Z0) N1) (.s (.a Z1 Z0) N1)) (.an (.e (.s (.a Z1 Z0) N1) (.s (.a Z1 Z0) N1)) (.l (.s (.a Z2 Z0) N1) (.s (.a Z1 Z0) N1)))) (.e Z1 Z2) [_,_,_] z e this
 ·have:=dia bj fun t ht=>by
   obtain ⟨w1,w2,w3,w4,w5⟩:=winE_iff.mp (hb.run t ht)
   exact ⟨w3,Nat.lt_of_le_of_lt (Nat.add_le_add_right e t) w2,hE2 _ _ (Nat.lt_of_lt_of_le w2 h2) w5 (Nat.add_le_add_right e t)⟩
  unfold LexLe at this
  exact as3 3 (.t (.n 0) Z0) (.l Z1 Z2) (.o (.t (.s (.a Z2 Z0) N1) (.s (.a Z1 Z0) N1)) (.an (.e (.s (.a Z2 Z0) N1) (.s (.a Z1 Z0) N1)) (.l (.s (.a Z1 Z0) N1) (.s (.a Z1 Z0) N1)))) (.e Z2 Z1) [_,_,_] z e this
theorem flm_diaP {lo hi bhi:Nat} (hq:∀ i,i < K→q i i = true) (hE1:∀ i j,i < K→E i j = true→i≤j→E i i = true) (hE2:∀ i j,i < K→E i j = true→j≤i→E j j = true) (h1:lo≤hi) (h2:hi≤K) (h3:hi≤bhi)
  {i j k:Nat} (h:FlmR q (winE E lo hi lo bhi) d lo hi lo bhi i j k):i = j∧(lo < hi→0 < k):=by
 obtain ⟨bi,bj,bz,l,r,hb,hl,hr,rfl,rfl,rfl⟩:=h
 have e:=best_dia hE1 hE2 h1 h2 h3 hb
 subst e
 refine ⟨rfl,fun hlt=>?_⟩
 rcases Nat.eq_zero_or_pos bz with z | z
 ·obtain ⟨rfl,_⟩:=hb.zero z
  subst z
  have:=hr.le (ok_one (d:=_) (eqR_iff.mpr ⟨hlt,Nat.lt_of_lt_of_le hlt h3,hq _ (Nat.lt_of_lt_of_le hlt h2)⟩))
  exact as1 2 (.l N1 Z0) (.t (.n 0) (.a (.a Z1 (.n 0)) Z0)) [_,_] this
 ·exact as1 3 (.t (.n 0) Z0) (.t (.n 0) (.a (.a Z1 Z0) Z2)) [_,_,_] z
theorem blk_diaP (hq:∀ i,i < K→q i i = true) (hE1:∀ i j,i < K→E i j = true→i≤j→E i i = true) (hE2:∀ i j,i < K→E i j = true→j≤i→E j j = true) {alo ahi blo bhi:Nat} {L:List Tri}
  (h:Blk q E d alo ahi blo bhi L):alo = blo→ahi≤bhi→alo≤ahi→ahi≤K→Dia alo ahi L:=by
 induction h with
 | @none alo ahi blo bhi i j hf=>
  rintro rfl h3 h1 h2
  have:=flm_diaP hq hE1 hE2 h1 h2 h3 hf
  have e:alo = ahi:=by
   rcases Nat.eq_or_lt_of_le h1 with e | e
   ·exact e
   ·exact absurd (this.2 e) (Nat.lt_irrefl 0)
  subst e
  exact .nil _
 | @some alo ahi blo bhi i j k L1 L2 hf hk _ _ ih1 ih2=>
  rintro rfl h3 h1 h2
  obtain ⟨a1,a2,a3,a4⟩:=flmR_in h1 (Nat.le_trans h1 h3) hf
  obtain ⟨rfl,_⟩:=flm_diaP hq hE1 hE2 h1 h2 h3 hf
  exact (ih1 rfl (Nat.le_refl _) a1 (by exact as2 4 (.l Z0 Z1) (.l (.a Z2 Z3) Z0) (.l Z2 Z1) [_,_,_,_] h2 a2)).append (.cons hk (ih2 rfl h3 a2 h2))
theorem blk_begin (hq:∀ i,i < K→q i i = true) (hE1:∀ i j,i < K→E i j = true→i≤j→E i i = true) (hE2:∀ i j,i < K→E i j = true→j≤i→E j j = true) {n:Nat} {L:List Tri} (hn:K≤n)
  (h:Blk q E d 0 K 0 n L):mrg (0,0,0) L = if K = 0 then [] else [(0,0,K)]:=by
 rw [(blk_diaP hq hE1 hE2 h rfl hn (Nat.zero_le _) (Nat.le_refl _)).mrg (Nat.add_zero 0),Nat.sub_zero]
theorem flm_begin (hq:∀ i,i < K→q i i = true) (hE1:∀ i j,i < K→E i j = true→i≤j→E i i = true) (hE2:∀ i j,i < K→E i j = true→j≤i→E j j = true) (hd:∀ j,d j = false) {n:Nat} (hn:K≤n)
  {i j k:Nat} (h:FlmR q (winE E 0 K 0 n) d 0 K 0 n i j k):i = 0∧j = 0∧k = K:=by
 have hin:=flmR_in (Nat.zero_le _) (Nat.zero_le _) h
 obtain ⟨bi,bj,bz,l,r,hb,hl,hr,rfl,rfl,rfl⟩:=h
 obtain ⟨a1,a2,a3,a4⟩:=best_in (Nat.zero_le _) (Nat.zero_le _) hb
 have e:=best_dia hE1 hE2 (Nat.zero_le _) (Nat.le_refl _) hn hb
 subst e
 have g1:=hl.le (k:=bi) ⟨fun t ht=>eqL_iff.mpr ⟨by exact as1 2 (.t Z0 Z1) (.t (.a (.n 0) Z0) Z1) [_,_] ht,by exact as1 2 (.t Z0 Z1) (.t (.a (.n 0) Z0) Z1) [_,_] ht,hq _ (by exact as2 4 (.l (.a Z0 Z1) Z2) (.t Z3 Z0) (.t (.s (.s Z0 N1) Z3) Z2) [_,_,_,_] a2 ht)⟩,bi,Nat.le_refl _,fun t _=>hd _,fun t x y=>absurd y (Nat.not_lt.mpr x)⟩
 have g2:=hr.le (k:=K - (bi + bz)) ⟨fun t ht=>eqR_iff.mpr ⟨by exact as1 4 (.t Z0 (.s Z1 (.a Z2 Z3))) (.t (.a (.a Z2 Z3) Z0) Z1) [_,_,_,_] ht,by exact as2 5 (.l Z0 Z1) (.t Z2 (.s Z0 (.a Z3 Z4))) (.t (.a (.a Z3 Z4) Z2) Z1) [_,_,_,_,_] hn ht,hq _ (by exact as1 4 (.t Z0 (.s Z1 (.a Z2 Z3))) (.t (.a (.a Z2 Z3) Z0) Z1) [_,_,_,_] ht)⟩,K - (bi + bz),Nat.le_refl _,fun t _=>hd _,fun t x y=>absurd y (Nat.not_lt.mpr x)⟩
 exact as3 6 (.an (.l (.n 0) (.s Z0 Z1)) (.an (.l (.a (.s Z0 Z1) (.a (.a Z1 Z2) Z3)) Z4) (.an (.l (.n 0) (.s Z0 Z1)) (.l (.a (.s Z0 Z1) (.a (.a Z1 Z2) Z3)) Z5)))) (.l Z0 Z1) (.l (.s Z4 (.a Z0 Z2)) Z3) (.an (.e (.s Z0 Z1) (.n 0)) (.an (.e (.s Z0 Z1) (.n 0)) (.e (.a (.a Z1 Z2) Z3) Z4))) [_,_,_,_,_,_] hin g1 g2
theorem flm_one {p w n:Nat} (hw:w≤n) {i j k:Nat} (h:FlmR q (winE E p (p + 1) w n) d p (p + 1) w n i j k) :
  i = p∧(((∀ t,w≤t→t < n→E p t = false)∧j = w∧k = if w < n∧q p w = true then 1 else 0) ∨ (w≤j∧j < n∧E p j = true∧(∀ t,w≤t→t < j→E p t = false)∧k = 1)):=by
 have hin:=flmR_in (Nat.le_succ _) hw h
 obtain ⟨bi,bj,bz,l,r,hb,hl,hr,rfl,rfl,rfl⟩:=h
 obtain ⟨a1,a2,a3,a4⟩:=best_in (Nat.le_succ _) hw hb
 have run1:∀ t,w≤t→t < n→E p t = true→RunAt (winE E p (p + 1) w n) (p + 1 - 1) (t + 1 - 1) 1:=fun t h1 h2 h3 t' ht'=>by
  rw [Nat.lt_one_iff.mp ht']
  exact winE_iff.mpr ⟨by exact as0 1 (.l Z0 (.a (.s (.a Z0 N1) N1) (.n 0))) [_],by exact as0 1 (.t (.a (.s (.a Z0 N1) N1) (.n 0)) (.a Z0 N1)) [_],by exact as1 2 (.l Z0 Z1) (.l Z0 (.a (.s (.a Z1 N1) N1) (.n 0))) [_,_] h1,by exact as1 2 (.t Z0 Z1) (.t (.a (.s (.a Z0 N1) N1) (.n 0)) Z1) [_,_] h2,h3⟩
 have l0:bi = p→l = 0:=fun e=>by
  rw [e] at hl
  refine ok_zero hl.1 ?_
  cases z:eqL q p w p bj 0 with
  | false=>rfl
  | true=>have:=(eqL_iff.mp z).1; exfalso; exact as1 1 (.t (.a Z0 (.n 0)) Z0) .f [_] this
 rcases Nat.eq_zero_or_pos bz with z | z
 ·obtain ⟨rfl,rfl⟩:=hb.zero z
  have l9:=l0 rfl
  subst z
  subst l9
  refine ⟨rfl,.inl ⟨fun t h1 h2=>?_,rfl,?_⟩⟩
  ·cases y:E bi t with
   | false=>rfl
   | true=>
    have:=hb.most bi t 1 (winE_iff.mpr ⟨Nat.le_refl _,Nat.lt_succ_self _,h1,h2,y⟩) (by exact as0 1 (.l N1 (.a Z0 N1)) [_]) (by exact as0 1 (.l N1 (.a Z0 N1)) [_]) (run1 t h1 h2 y)
    exfalso; exact as1 0 (.l N1 (.n 0)) .f [] this
  ·have r1:r≤1:=by omega
   split
   ·rename_i y
    have:=hr.le (ok_one (eqR_iff.mpr ⟨Nat.lt_succ_self _,y.1,y.2⟩))
    exact as2 1 (.l Z0 N1) (.l N1 Z0) (.e (.a (.a (.n 0) (.n 0)) Z0) N1) [_] r1 this
   ·rename_i y
    have:r = 0:=ok_zero hr.1 (by
     cases x:eqR q (bi + 1) n (bi + 0) (bj + 0) 0 with
     | false=>rfl
     | true=>exact absurd ⟨(eqR_iff.mp x).2.1,(eqR_iff.mp x).2.2⟩ y)
    exact as1 1 (.e Z0 (.n 0)) (.e (.a (.a (.n 0) (.n 0)) Z0) (.n 0)) [_] this
 ·have z1:bz = 1:=by omega
  subst z1
  have ep:bi = p:=by omega
  have l9:=l0 ep
  subst ep
  subst l9
  have r0:r = 0:=by omega
  subst r0
  have w1:=winE_iff.mp (hb.run 0 Nat.one_pos)
  refine ⟨rfl,.inr ⟨w1.2.2.1,w1.2.2.2.1,w1.2.2.2.2,fun t h1 h2=>?_,rfl⟩⟩
  cases y:E bi t with
  | false=>rfl
  | true=>
   have hj:bj < n:=w1.2.2.2.1
   have g2:t < bj:=h2
   have:=hb.first bi t (winE_iff.mpr ⟨Nat.le_refl _,Nat.lt_succ_self _,h1,by exact as2 3 (.l (.a Z0 N1) Z1) (.t Z2 Z0) (.t Z2 Z1) [_,_,_] a4 g2,y⟩) Nat.one_pos (by exact as0 1 (.l N1 (.a Z0 N1)) [_]) (by exact as0 1 (.l N1 (.a Z0 N1)) [_]) (run1 t h1 (by exact as2 3 (.l (.a Z0 N1) Z1) (.t Z2 Z0) (.t Z2 Z1) [_,_,_] a4 g2) y)
   unfold LexLe at this
   exfalso; exact as2 3 (.t Z0 Z1) (.o (.t (.s (.a Z2 N1) N1) Z2) (.an (.e (.s (.a Z2 N1) N1) Z2) (.l (.s (.a Z1 N1) N1) Z0))) .f [_,_,_] g2 this
end
theorem g_key {bs:List IS} {G:GL} (gi:IsGrp bs bs.length (gP G)) {k:IS}:k∈G.map (·.1) ↔ k∈bs:=by
 rw [← gP_keys,gi.mem,List.mem_iff_getElem?]
 exact ⟨fun ⟨i,_,h⟩=>⟨i,h⟩,fun ⟨i,h⟩=>⟨i,(List.getElem?_eq_some_iff.mp h).1,h⟩⟩
theorem g_nd {bs:List IS} {G:GL} (gi:IsGrp bs bs.length (gP G)):(G.map (·.1)).Nodup:=by have:=gi.nd; rwa [gP_keys] at this
noncomputable def pnN (bs:List Int) (v:Int):List Nat:=(List.range bs.length).filter fun i=>decide (bs[i]? = some v)
theorem pnN_mem {bs:List Int} {v:Int} {j:Nat}:j∈pnN bs v ↔ bs[j]? = some v:=by
 unfold pnN
 rw [List.mem_filter,List.mem_range,decide_eq_true_eq]
 exact ⟨fun h=>h.2,fun h=>⟨(List.getElem?_eq_some_iff.mp h).1,h⟩⟩
theorem pnN_count (v:Int):∀ bs:List Int,(pnN bs v).length = bs.count v
 | []=>rfl
 | b :: bs=>by
  have e:((List.map Nat.succ (List.range bs.length)).filter fun i=>decide ((b :: bs)[i]? = some v)).length = bs.count v:=by
   rw [List.filter_map,List.length_map,← pnN_count v bs]; rfl
  unfold pnN
  rw [List.length_cons,List.range_succ_eq_map,List.filter_cons,List.count_cons]
  by_cases h:b = v
  ·subst h; simp [e]
  ·simp [h,e]
noncomputable def popN (bs:List Int) (on:Bool) (v:Int):Bool:=on && decide (200≤bs.length) && decide (bs.length / 100 + 1 < bs.count v)
noncomputable def idxG (bs:List Int) (jk:Int→Bool) (on:Bool) (v:Int):List Nat:=if jk v || popN bs on v then [] else pnN bs v
theorem idxG_pw (bs:List Int) (jk:Int→Bool) (on:Bool) (v:Int):(idxG bs jk on v).Pairwise (· < ·):=by
 unfold idxG; split
 ·exact .nil
 ·exact List.Pairwise.filter _ List.pairwise_lt_range
theorem idxG_len (bs:List Int) (jk:Int→Bool) (on:Bool) (v:Int) (h:bs.length≤1000):(idxG bs jk on v).length≤1000:=by
 unfold idxG; split
 ·exact Nat.zero_le _
 ·exact Nat.le_trans (List.length_filter_le _ _) (by rw [List.length_range]; exact h)
theorem dictAt_split {G:GL} {k:IS} (h:k∈G.map (·.1)):∃ e∈G,e.1 = k∧dictAt (gD G) k = some (.ref e.2.1):=by
 obtain ⟨G1,a,ps,G2,rfl,h1⟩:=split_key h
 exact ⟨_,List.mem_append.mpr (.inr mS),rfl,dictAt_gD_mid h1⟩
section
variable {bs:List Int} {jk:Int→Bool} {on:Bool} {G:GL} {jk':IS→Bool}
theorem grp_get (gi:IsGrp (bs.map IS.i) (bs.map IS.i).length (gP G)) {e:IS × Addr × List Int} (he:e∈G) {v:Int} (hv:e.1 = .i v):e.2.2 = (pnN bs v).map fun (n:Nat)=>(n:Int):=by
 have:=gi.at_ (e.1,e.2.2) (List.mem_map.mpr ⟨e,he,rfl⟩)
 rw [show e.2.2 = placesTo _ _ _ from this]
 unfold placesTo pnN
 rw [hv,List.length_map]
 congr 1
 refine List.filter_congr fun i _=>?_
 rw [decide_eq_decide,List.getElem?_map]
 cases bs[i]? with
 | none=>simp
 | some w=>simp
theorem grp_pop (gi:IsGrp (bs.map IS.i) (bs.map IS.i).length (gP G)) {e:IS × Addr × List Int} (he:e∈G) {v:Int} (hv:e.1 = .i v):chPop (bs.map IS.i).length on e = popN bs on v:=by
 unfold chPop popN
 rw [grp_get gi he hv,List.length_map,List.length_map,pnN_count]
theorem idx_ok (hG:gP G = grp (bs.map IS.i)) (hjk:∀ v:Int,jk' (.i v) = jk v) {H:Hp} (hL:∀ q∈gL G,q∈H):IdxOk H (gD ((G.filter fun e=>!jk' e.1).filter fun e=>!chPop (bs.map IS.i).length on e)) (idxG bs jk on):=fun v=>by
 have gi:IsGrp (bs.map IS.i) (bs.map IS.i).length (gP G):=by rw [hG]; exact isGrp _
 by_cases h:IS.i v∈(((G.filter fun e=>!jk' e.1).filter fun e=>!chPop (bs.map IS.i).length on e)).map (·.1)
 ·obtain ⟨e,he,hv,hd⟩:=dictAt_split h
  rw [List.mem_filter,List.mem_filter] at he
  obtain ⟨⟨h1,h2⟩,h3⟩:=he
  rw [grp_pop gi h1 hv] at h3
  rw [hv,hjk] at h2
  refine .inr ⟨e.2.1,hd,?_⟩
  have:=hL _ (gL_mem h1)
  rw [grp_get gi h1 hv,List.map_map] at this
  unfold idxG
  rw [if_neg (by simpa using ⟨by simpa using h2,by simpa using h3⟩)]
  exact this
 ·refine .inl ⟨dictAt_gD_none h,?_⟩
  unfold idxG
  split
  ·rfl
  ·rename_i q
   rw [Bool.or_eq_true,not_or] at q
   unfold pnN
   rw [List.filter_eq_nil_iff]
   intro i _ hi
   have hm:IS.i v∈bs.map IS.i:=List.mem_map.mpr ⟨v,List.mem_iff_getElem?.mpr ⟨i,of_decide_eq_true hi⟩,rfl⟩
   obtain ⟨e,he,hv⟩:=List.mem_map.mp ((g_key gi).mpr hm)
   refine h (List.mem_map.mpr ⟨e,?_,hv⟩)
   rw [List.mem_filter,List.mem_filter,grp_pop gi he hv,hv,hjk]
   exact ⟨⟨he,by simpa using q.1⟩,by simpa using q.2⟩
end
noncomputable def inB (js:List Int) (v:Int):Bool:=decide (v∈js)
theorem memJ (js:List Int) (v:Int):decide (IS.i v∈js.map IS.i) = inB js v:=by
 unfold inB
 rw [decide_eq_decide]
 simp
theorem isV (l:List Int):(l.map IS.i).map IS.v = l.map V.int:=by rw [List.map_map]; rfl
theorem take_getD {l:List Int} {n i:Nat} (h:i < n):(l.take n).getD i 0 = l.getD i 0:=by
 rw [List.getD_eq_getElem?_getD,List.getD_eq_getElem?_getD,List.getElem?_take,if_pos h]
theorem log_E {lg as:List Int} {il:Nat} {jk:Int→Bool} (hz:lg.length < 200) (i j:Nat) :
  idxE as (idxG (lg.take il) jk true) i j = true ↔ jk (as.getD i 0) = false∧j < il∧lg[j]? = some (as.getD i 0):=by
 show decide _ = true ↔ _
 rw [decide_eq_true_eq]
 have hp:popN (lg.take il) true (as.getD i 0) = false:=by
  unfold popN
  rw [decide_eq_false (show ¬ 200≤(lg.take il).length by rw [List.length_take]; exact as1 2 (.t Z0 (.n 200)) (.no (.l (.n 200) (.mn Z1 Z0))) [_,_] hz)]; rfl
 unfold idxG
 rw [hp,Bool.or_false]
 cases jk (as.getD i 0) with
 | true=>simp
 | false=>rw [if_neg (by decide),pnN_mem,List.getElem?_take]; simp
section
variable {lg:List Int} {rl il:Nat} {jk:Int→Bool}
theorem log_hq (i:Nat) (h:i < rl):flmQ (lg.take rl) lg i i = true:=decide_eq_true (take_getD h)
theorem log_some {i:Nat} {v:Int} (h:lg[i]? = some v):lg.getD i 0 = v:=by rw [List.getD_eq_getElem?_getD,h]; rfl
theorem log_hE1 (hz:lg.length < 200) (hr:rl≤lg.length) (i j:Nat) (hi:i < rl) (h:idxE (lg.take rl) (idxG (lg.take il) jk true) i j = true) (hij:i≤j):idxE (lg.take rl) (idxG (lg.take il) jk true) i i = true:=by
 obtain ⟨a,b,e⟩:=(log_E hz i j).mp h
 refine (log_E hz i i).mpr ⟨a,Nat.lt_of_le_of_lt hij b,?_⟩
 rw [take_getD hi,List.getElem?_eq_getElem (Nat.lt_of_lt_of_le hi hr),List.getD_eq_getElem?_getD,List.getElem?_eq_getElem (Nat.lt_of_lt_of_le hi hr)]; rfl
theorem log_hE2 (hz:lg.length < 200) (i j:Nat) (hi:i < rl) (h:idxE (lg.take rl) (idxG (lg.take il) jk true) i j = true) (hij:j≤i):idxE (lg.take rl) (idxG (lg.take il) jk true) j j = true:=by
 obtain ⟨a,b,e⟩:=(log_E hz i j).mp h
 have e2:(lg.take rl).getD j 0 = (lg.take rl).getD i 0:=(take_getD (Nat.lt_of_le_of_lt hij hi)).trans (log_some e)
 exact (log_E hz j j).mpr ⟨e2 ▸ a,b,e2 ▸ e⟩
noncomputable def blkL (k n:Nat):List Tri:=(if k = 0 then [] else [(0,0,k)]) ++ [(k,n,0)]
noncomputable def codL (k n:Nat):List (List At):=(if 0 < k then [[.str "equal",.int (0:Nat),.int (k:Nat),.int (0:Nat),.int (k:Nat)]] else []) ++ (if k < n then [[.str "insert",.int (k:Nat),.int (k:Nat),.int (k:Nat),.int (n:Nat)]] else [])
theorem log_blk (hz:lg.length < 200) (hr:rl≤lg.length) {d:Nat→Bool} {L:List Tri} (h:Blk (flmQ (lg.take rl) lg) (idxE (lg.take rl) (idxG (lg.take il) jk true)) d 0 (lg.take rl).length 0 lg.length L) :
  mrg (0,0,0) L ++ [((lg.take rl).length,lg.length,0)] = blkL rl lg.length:=by
 rw [List.length_take_of_le hr] at h ⊢
 rw [blk_begin (fun i hi=>log_hq i hi) (fun i j hi=>log_hE1 hz hr i j hi) (fun i j hi=>log_hE2 hz i j hi) hr h]; rfl
theorem cod_blk (k n:Nat):opcs 0 0 (blkL k n) = codL k n:=by
 have last:opcs k k [(k,n,0)] = if k < n then [[.str "insert",.int (k:Nat),.int (k:Nat),.int (k:Nat),.int (n:Nat)]] else []:=by
  rw [opcs_cons,opcs_nil,if_pos rfl,List.append_nil,List.append_nil]
  unfold tagL
  by_cases h:k < n
  ·rw [if_pos (.inr h),if_pos h,decide_eq_false (Nat.lt_irrefl k),decide_eq_true h]; rfl
  ·rw [if_neg (fun q=>q.elim (Nat.lt_irrefl k) h),if_neg h]
 unfold blkL codL
 by_cases h:k = 0
 ·subst h
  rw [if_pos rfl,if_neg (Nat.lt_irrefl 0),List.nil_append,List.nil_append,last]
 ·rw [if_neg h,if_pos (Nat.pos_of_ne_zero h),List.singleton_append,opcs_cons,if_neg h]
  rw [show tagL 0 0 0 0 = [] from if_neg (by decide),List.nil_append,Nat.zero_add,last]
theorem blk_sum (k n:Nat):((blkL k n).map (·.2.2)).sum = k:=by
 unfold blkL
 split
 ·rename_i h; rw [h]; rfl
 ·simp
theorem blk_len (k n:Nat):(blkL k n).length≤2:=by unfold blkL; split <;> simp
theorem log_whole (hz:lg.length < 200) (hr:rl≤lg.length) {d:Nat→Bool} (hd:∀ j,d j = false) {i j k:Nat} (h:FlmR (flmQ (lg.take rl) lg) (flmE (lg.take rl) (idxG (lg.take il) jk true) 0 rl 0 lg.length) d 0 rl 0 lg.length i j k):i = 0∧j = 0∧k = rl:=
 flm_begin (fun i hi=>log_hq i hi) (fun i j hi=>log_hE1 hz hr i j hi) (fun i j hi=>log_hE2 hz i j hi) hd hr h
noncomputable def plG (lg:List Int) (jk:Int→Bool) (v:Int) (q t:Nat):Bool:=(lg.getD (q + t) 0 == v) && !jk v
noncomputable def plN (lg:List Int) (jk:Int→Bool) (v:Int) (q il:Nat):List Nat:=((List.range (il - q)).filter (plG lg jk v q)).map (q + ·)
theorem pl_mem {v:Int} {q j:Nat} (hil:il≤lg.length):j∈plN lg jk v q il ↔ q≤j∧j < il∧lg[j]? = some v∧jk v = false:=by
 unfold plN plG
 rw [List.mem_map]
 constructor
 ·rintro ⟨t,ht,rfl⟩
  rw [List.mem_filter,List.mem_range,Bool.and_eq_true,beq_iff_eq,Bool.not_eq_true'] at ht
  have hlt:q + t < lg.length:=by exact as2 4 (.l Z0 Z1) (.t Z2 (.s Z0 Z3)) (.t (.a Z3 Z2) Z1) [_,_,_,_] hil ht.1
  refine ⟨by exact as0 2 (.l Z0 (.a Z0 Z1)) [_,_],by exact as1 3 (.t Z0 (.s Z1 Z2)) (.t (.a Z2 Z0) Z1) [_,_,_] ht.1,?_,ht.2.2⟩
  rw [List.getElem?_eq_getElem hlt,← ht.2.1,List.getD_eq_getElem?_getD,List.getElem?_eq_getElem hlt]; rfl
 ·rintro ⟨h1,h2,h3,h4⟩
  refine ⟨j - q,?_,by exact as1 2 (.l Z0 Z1) (.e (.a Z0 (.s Z1 Z0)) Z1) [_,_] h1⟩
  rw [List.mem_filter,List.mem_range,Bool.and_eq_true,beq_iff_eq,Bool.not_eq_true',show q + (j - q) = j by exact as1 2 (.l Z0 Z1) (.e (.a Z0 (.s Z1 Z0)) Z1) [_,_] h1]
  exact ⟨by exact as2 3 (.l Z0 Z1) (.t Z1 Z2) (.t (.s Z1 Z0) (.s Z2 Z0)) [_,_,_] h1 h2,log_some h3,h4⟩
theorem pl_sorted (v:Int) (q il:Nat):(plN lg jk v q il).Pairwise (· < ·):=by
 unfold plN
 refine List.Pairwise.map _ (fun a b h=>Nat.add_lt_add_left h q) ?_
 exact List.Pairwise.filter _ List.pairwise_lt_range
noncomputable def dueN (lg:List Int) (jk:Int→Bool) (v:Int) (q il:Nat):Nat × Nat:=if plN lg jk v q il = [] then (q,((lg.drop q).take 1).count v) else ((plN lg jk v q il).headD 0,1)
theorem log_one (hz:lg.length < 200) (hr:rl≤lg.length) (hil:il≤lg.length) {d:Nat→Bool} {p q:Nat} (hp:p < rl) (hq:q≤lg.length) {i j k:Nat}
  (h:FlmR (flmQ (lg.take rl) lg) (flmE (lg.take rl) (idxG (lg.take il) jk true) p (p + 1) q lg.length) d p (p + 1) q lg.length i j k):i = p∧dueN lg jk ((lg.take rl).getD p 0) q il = (j,k):=by
 obtain ⟨e,h⟩:=flm_one hq h
 refine ⟨e,?_⟩
 have hE:∀ t,idxE (lg.take rl) (idxG (lg.take il) jk true) p t = true ↔ t < il∧lg[t]? = some ((lg.take rl).getD p 0)∧jk ((lg.take rl).getD p 0) = false:=fun t=>by
  rw [log_E hz]; exact ⟨fun h=>⟨h.2.1,h.2.2,h.1⟩,fun h=>⟨h.2.2,h.1,h.2.1⟩⟩
 have hQ:flmQ (lg.take rl) lg p q = true ↔ lg.getD q 0 = (lg.take rl).getD p 0:=by
  unfold flmQ; rw [decide_eq_true_eq]; exact eq_comm
 generalize (lg.take rl).getD p 0 = v at hE hQ ⊢
 unfold dueN
 rcases h with ⟨h1,rfl,h3⟩ | ⟨h1,h2,h3,h4,rfl⟩
 ·have hn:plN lg jk v j il = []:=by
   refine List.eq_nil_iff_forall_not_mem.mpr fun t ht=>?_
   obtain ⟨a,b,e,f⟩:=(pl_mem hil).mp ht
   exact Bool.false_ne_true ((h1 t a (Nat.lt_of_lt_of_le b hil)).symm.trans ((hE t).mpr ⟨b,e,f⟩))
  rw [if_pos hn]
  congr 1
  by_cases hl:j < lg.length
  ·have e2:(lg.drop j).take 1 = [lg.getD j 0]:=by
    rw [List.drop_eq_getElem_cons hl,List.getD_eq_getElem?_getD,List.getElem?_eq_getElem hl]; rfl
   rw [e2,h3]
   by_cases g:lg.getD j 0 = v
   ·rw [if_pos (show j < lg.length∧flmQ (lg.take rl) lg p j = true from ⟨hl,hQ.mpr g⟩),g,List.count_singleton_self]
   ·rw [if_neg (show ¬ (j < lg.length∧flmQ (lg.take rl) lg p j = true) from fun x=>g (hQ.mp x.2))]
    exact List.count_eq_zero.mpr fun x=>g (List.mem_singleton.mp x).symm
  ·rw [List.drop_eq_nil_of_le (Nat.not_lt.mp hl),h3,if_neg fun x=>hl x.1]; rfl
 ·obtain ⟨a,b,e⟩:=(hE j).mp h3
  have hj:j∈plN lg jk v q il:=(pl_mem hil).mpr ⟨h1,a,b,e⟩
  have hs:=pl_sorted (lg:=lg) (jk:=jk) v q il
  have hm:=fun t (ht:t∈plN lg jk v q il)=>(pl_mem hil).mp ht
  generalize plN lg jk v q il = P at hj hs hm
  cases P with
  | nil=>cases hj
  | cons x P=>
   rw [if_neg (by simp)]
   show (x,1) = (j,1)
   rcases List.mem_cons.mp hj with e | hj
   ·rw [e]
   ·have hlt:=(List.pairwise_cons.mp hs).1 j hj
    obtain ⟨x1,x2,x3,x4⟩:=hm x mS
    exact absurd ((h4 x x1 hlt).symm.trans ((hE x).mpr ⟨x2,x3,x4⟩)) Bool.false_ne_true
theorem log_junk {js ns ns':List Int} {G:GL} (hG:gP G = grp ((lg.take il).map IS.i)) (hjs:js.Pairwise (· < ·)) (hk:(G.map (·.1)).filter (fun x=>decide (x∈js.map IS.i)) = ns.map IS.i) (hp:ns'.Perm ns) (hs:ns'.Pairwise (·≤·)) :
  ns' = js.filter fun v=>decide (v∈lg.take il):=by
 have gi:IsGrp ((lg.take il).map IS.i) ((lg.take il).map IS.i).length (gP G):=by rw [hG]; exact isGrp _
 have hnd:ns.Nodup:=by
  have:=(g_nd gi).filter (fun x=>decide (x∈js.map IS.i))
  rw [hk] at this
  exact (List.pairwise_map.mp this).imp fun h e=>h (congrArg _ e)
 have hm:∀ v,v∈ns ↔ v∈js∧v∈lg.take il:=fun v=>by
  have e:v∈ns ↔ IS.i v∈ns.map IS.i:=by simp
  have inj:∀ l:List Int,IS.i v∈l.map IS.i ↔ v∈l:=fun l=>by simp
  rw [e,← hk,List.mem_filter,g_key gi,decide_eq_true_eq,inj,inj]
  exact and_comm
 refine List.Perm.eq_of_pairwise (fun a b _ _ h1 h2=>Int.le_antisymm h1 h2) hs ((hjs.imp Int.le_of_lt).filter _) (hp.trans ?_)
 refine (List.perm_ext_iff_of_nodup hnd ((hjs.imp Int.ne_of_lt).filter _)).mpr fun v=>?_
 rw [hm,List.mem_filter,decide_eq_true_eq]
theorem key_ints {lg:List Int} {il:Nat} {js:List Int} {G:GL} (hG:gP G = grp ((lg.take il).map IS.i)):∃ ns:List Int,(G.map (·.1)).filter (fun x=>decide (x∈js.map IS.i)) = ns.map IS.i:=by
 have:∀ l:List IS,(∀ k∈l,k∈js.map IS.i)→∃ ns:List Int,l = ns.map IS.i:=by
  intro l
  induction l with
  | nil=>exact fun _=>⟨[],rfl⟩
  | cons k l ih=>
   intro h
   obtain ⟨v,_,e⟩:=List.mem_map.mp (h k mS)
   obtain ⟨ns,e2⟩:=ih fun k hk=>h k (mT hk)
   exact ⟨v :: ns,by rw [e2,← e]; rfl⟩
 exact this _ fun k hk=>of_decide_eq_true (List.mem_filter.mp hk).2
end
@[reducible] noncomputable def boolKey:PyProof.Rows.KeyKind where
 α:=Bool
 blt a b:=!a && b
 irrefl a:=by cases a <;> rfl
 trans a b c h1 h2:=by cases a <;> cases b <;> cases c <;> simp_all
 negTrans a b c h:=by cases a <;> cases b <;> cases c <;> simp_all
 total a b h1 h2:=by cases a <;> cases b <;> simp_all
 keyOf v:=match v with | .bool x=>some x | _=>none
 dflt:=false
section
variable {c:Ctx} {m:Lo} {H:Hp} {Q:V→Lo→Hp→Prop}
end
noncomputable def Ce (c:Ctx) (x:Str) (a:Addr):Prop:=cellAt c x = some a∧(x == ("__debug__":Str)) = false
section
variable {c:Ctx} {m:Lo} {H:Hp} {pos p1 p2:Pos} {k1:Nat} {Q:V→Lo→Hp→Prop}
noncomputable def ceB (ns:List (Str × NameKind)) (x:Str):Bool:=ns.lookup x == some .cell && !(x == ("__debug__":Str))
theorem ce_of {ns:List (Str × NameKind)} {cs:List (Str × Addr)} (hn:c.env.scope.names = ns) (hc:c.env.cells = cs) {x:Str} {a:Addr} (h:ceB ns x = true) (hl:cs.lookup x = some a):Ce c x a:=by
 unfold ceB at h
 rw [Bool.and_eq_true] at h
 refine ⟨?_,by simpa using h.2⟩
 unfold cellAt
 rw [kind_of hn (beq_iff_eq.mp h.1),hc]
 exact hl
theorem Pu.cel {x:Str} {a:Addr} {u:V} (l:Ce c x a) (hv:Sees c H a (.cell (some u))):Pu c (.Name x pos) m H u:=fun _ h=>e_cell l.1 hv h l.2
theorem sto_ce {x:Str} {v:V} {a:Addr} {u:Option V} {H':Hp} {Q:Lo→Hp→Prop} (hk:c.env.kindOf x = some .cell) (l:Ce c x a) (up:Upd a (.cell u) (.cell (some v)) H H') (h:Q m H'):Sto c x v m H Q:=by
 refine sto_cell hk ?_ up h
 obtain ⟨h1,h2⟩:=cellAt_cases l.1
 exact h1
theorem filterMap_range {xs:List V} (f:V→Option V):(List.range xs.length).filterMap (fun i=>f (xs.getD i .none)) = xs.filterMap f:=by
 conv=>rhs; rw [show xs = (List.range xs.length).map (fun i=>xs.getD i .none) by
  refine List.ext_getElem (by simp) fun i h1 h2=>?_
  simp [List.getD,h1]]
 rw [List.filterMap_map]
 rfl
theorem WPe.post {e:Expr} (h:WPe c e m H fun v m' H'=>∃ m2 H2,Less m' H' m2 H2∧Q v m2 H2):WPe c e m H Q:=
 fun s R P k=>h s R P fun b v m' H' h tk R' F r ⟨m2,H2,l,q⟩=>k b v m2 H2 h tk (R'.weaken l.1 l.2.1 (l.2.2 R'.nd)) ⟨F.keep,fun b hb=>F.dom b (by obtain ⟨p,hp,e⟩:=List.mem_map.mp hb; exact e ▸ List.mem_map.mpr ⟨p,l.2.1 p hp,rfl⟩),F.alive⟩ r q
theorem e_compL {t elt iter:Expr} {ifs:List Expr} {scope:Scope} {cl:List (Str × Addr)} (hclos:closureFor scope c.env = pure cl) (hk:scope.kind = .function) {l:Addr} {xs:List V} (f:V→Option V) (h1:Pu c iter m H (.ref l)) (hx:(l,O.list xs)∈H) (hz:xs.length≤1000)
  (hstep:∀ c2,Inner c scope cl c2→∀ v∈xs,Asg c2 t v [] H fun m3 H3=>WPelt c2 elt ifs m3 H3 fun o H5=>o = f v∧Less [] H5 [] H) (h:∀ D,Q (.ref D) m ((D,.list (xs.filterMap f)) :: H))
  (ht:autoParam (isNameOrTuple t = true) auRfl) (hcell:autoParam (∀ y∈scope.names,y.2≠.cell) auDec) (hnames:autoParam (∀ y∈scope.names,y.2 = .local→scope.names.lookup y.1 = some .local) auDec)
  (hs:autoParam (∀ x,foldedSetIterable iter c.env x = pure x) auFun):WPe c (.ListComp elt [⟨t,iter,ifs,0⟩] scope pos) m H Q:=by
 refine WPe.post (e_comp hclos hk (it_list ht (h1 _ ⟨l,xs,rfl,.mem hx,by have:sizeLine = 16777216:=rfl; exact as2 2 (.l Z0 (.n 1000)) (.e Z1 (.n 16777216)) (.l Z0 Z1) [_,_] hz this,compOver (f:=fun i=>f (xs.getD i .none)) (H':=H) (fun _=>⟨fun _ _ e=>(nomatch e),fun _ h=>h,id⟩) (fun c2 hc i hi=>?_) (fun H2 hl=>Sees.less hl hx) (fun H2 hl D=>?_)⟩)) hcell hnames hs)
 ·have:xs.getD i .none∈xs:=by simp [List.getD,hi]
  exact hstep c2 hc _ this
 ·rw [filterMap_range]
  exact ⟨m,_,Less.lift hl,h D⟩
theorem e_compR {t elt iter:Expr} {ifs:List Expr} {scope:Scope} {cl:List (Str × Addr)} (hclos:closureFor scope c.env = pure cl) (hk:scope.kind = .function) {a b:Int} (f:Nat→Option V) (h1:∀ Q:V→Lo→Hp→Prop,(∀ r,Q (.ref r) m ((r,.range a b 1) :: H))→WPe c iter m H Q) (ha:-1000≤a∧a≤1000) (hb:-1000≤b∧b≤1000)
  (hstep:∀ c2,Inner c scope cl c2→∀ i:Nat,i < (b - a).toNat→Asg c2 t (.int (a + i)) [] H fun m3 H3=>WPelt c2 elt ifs m3 H3 fun o H5=>o = f i∧Less [] H5 [] H) (h:∀ D,Q (.ref D) m ((D,.list ((List.range (b - a).toNat).filterMap f)) :: H))
  (ht:autoParam (isNameOrTuple t = true) auRfl) (hcell:autoParam (∀ y∈scope.names,y.2≠.cell) auDec) (hnames:autoParam (∀ y∈scope.names,y.2 = .local→scope.names.lookup y.1 = some .local) auDec)
  (hs:autoParam (∀ x,foldedSetIterable iter c.env x = pure x) auFun):WPe c (.ListComp elt [⟨t,iter,ifs,0⟩] scope pos) m H Q:=by
 refine WPe.post (e_comp hclos hk (it_range ht (h1 _ fun r=>⟨r,a,b,rfl,.mem mS,in_lo ha,in_lo hb,in_span ha.1 hb.2,compOver (f:=f) (H':=H) (fun _=>Less.trans (m1:=[]) (H1:=H) ⟨fun _ _ e=>(nomatch e),fun _ h=>mT h,fun nd=>(List.nodup_cons.mp nd).2⟩ (Less.refl _ _)) (fun c2 hc i hi=>hstep c2 hc i hi) (fun H2 hl=>trivial) (fun H2 hl D=>⟨m,_,Less.lift hl,h D⟩)⟩)) hcell hnames hs)
end
section
variable {c:Ctx} {m:Lo} {H:Hp} {pos p1 p2:Pos} {k1:Nat} {Q:V→Lo→Hp→Prop}
theorem c_inI {a:Addr} {js:List Int} {k:Int} (ha:Sees c H a (.list (js.map .int))) (h:Q (.bool (decide (k∈js))) m H):Cmp c .In (.int k) (.ref a) m H Q:=by
 have e:(js.map IS.i).map IS.v = js.map V.int:=by rw [List.map_map]; rfl
 refine c_in (k:=.i k) (ks:=js.map IS.i) (by rw [e]; exact ha) ?_
 rw [show decide (IS.i k∈js.map IS.i) = decide (k∈js) by by_cases z:k∈js <;> simp [z]]
 exact h
theorem c_notinI {a:Addr} {js:List Int} {k:Int} (ha:Sees c H a (.list (js.map .int))) (h:Q (.bool (!decide (k∈js))) m H):Cmp c .NotIn (.int k) (.ref a) m H Q:=by
 have e:(js.map IS.i).map IS.v = js.map V.int:=by rw [List.map_map]; rfl
 refine c_notin (k:=.i k) (ks:=js.map IS.i) (by rw [e]; exact ha) ?_
 rw [show decide (IS.i k∈js.map IS.i) = decide (k∈js) by by_cases z:k∈js <;> simp [z]]
 exact h
theorem e_upto {α:Type} {f:α→V} {v e:Expr} {p:Pos} {l:Addr} {xs:List α} {n:Nat} (h1:Pu c v m H (.ref l)) (h2:Pu c e m H (.int n)) (hx:Sees c H l (.list (xs.map f))) (hz:xs.length≤1000) (h:∀ x,Q (.ref x) m ((x,.list ((xs.take n).map f)) :: H))
  (ht:autoParam (∀ o r,letTemporaryGo v o r = pure ()) auFun2):WPe c (.Subscript v (.Slice .none (some e) .none p) pos) m H Q:=by
 refine e_slice (h1 _ ?_) ht
 show WPe c e m H _
 refine h2 _ ⟨n,rfl,l,xs.map f,rfl,hx,by rw [List.length_map]; exact as1 1 (.l Z0 (.n 1000)) (.l Z0 (.n 1000000)) [_] hz,fun x=>?_⟩
 rw [pick_upto,← List.map_take]
 exact h x
theorem e_from {α:Type} {f:α→V} {v e:Expr} {p:Pos} {l:Addr} {xs:List α} {n:Nat} (h1:Pu c v m H (.ref l)) (h2:Pu c e m H (.int n)) (hx:Sees c H l (.list (xs.map f))) (hz:xs.length≤1000) (h:∀ x,Q (.ref x) m ((x,.list ((xs.drop n).map f)) :: H))
  (ht:autoParam (∀ o r,letTemporaryGo v o r = pure ()) auFun2):WPe c (.Subscript v (.Slice (some e) .none .none p) pos) m H Q:=by
 refine e_slice (h1 _ ?_) ht
 show WPe c e m H _
 refine h2 _ ⟨n,rfl,?_⟩
 show ∃ l xs,_
 refine ⟨l,xs.map f,rfl,hx,by rw [List.length_map]; exact as1 1 (.l Z0 (.n 1000)) (.l Z0 (.n 1000000)) [_] hz,fun x=>?_⟩
 rw [pick_from,← List.map_drop]
 exact h x
end
theorem Pu.lenM {c:Ctx} {m:Lo} {H:Hp} {pos p1:Pos} {α:Type} {f:α→V} {e:Expr} {a:Addr} {xs:List α} (gl:Glob c "len" (.bi "len")) (h2:Pu c e m H (.ref a)) (ha:Sees c H a (.list (xs.map f))) (hz:xs.length≤1000)
  (he:autoParam (starEach [e] c.env = (false,eval e c.env) :: starEach [] c.env) auRfl)
  (hE:∀ Q,(WPe c (.Name ("len":Str) p1) m H fun f m0 H0=>WPitems c pos [e] m0 H0 fun vs m1 H1=>KeepOk c f H1∧Cal c f vs m1 H1 Q)→WPe c (.Call (.Name ("len":Str) p1) [e] [] pos) m H Q):Pu c (.Call (.Name ("len":Str) p1) [e] [] pos) m H (.int (xs.length:Nat)):=by
 have:=Pu.len gl h2 ha (by rw [List.length_map]; exact as1 1 (.l Z0 (.n 1000)) (.l Z0 (.n 1000000)) [_] hz) he hE
 rwa [List.length_map] at this
section
variable {c:Ctx} {m:Lo} {H:Hp} {pos:Pos}
end
noncomputable def nsB (ks:List Str) (fs:List (Str × V)):Bool:=fs.all fun p=>ks.any fun k=>k == p.1
theorem nsB_none {ks:List Str} {x:Str} (h:(ks.any fun k=>k == x) = false):∀ {fs:List (Str × V)},nsB ks fs = true→fs.lookup x = .none
 | [],_=>rfl
 | (y,v) :: fs,e=>by
  unfold nsB at e
  rw [List.all_cons,Bool.and_eq_true] at e
  rw [List.lookup_cons]
  cases q:x == y with
  | true=>rw [beq_iff_eq] at q; subst q; rw [h] at e; exact absurd e.1 (by decide)
  | false=>exact nsB_none h e.2
noncomputable def NsEq (ks:List Str) (fs fs':List (Str × V)):Prop:=nsB ks fs = true∧nsB ks fs' = true∧ks.map (fun x=>fs.lookup x) = ks.map fun x=>fs'.lookup x
theorem map_at {α β:Type} {f g:α→β}:∀ {l:List α},l.map f = l.map g→∀ x∈l,f x = g x
 | y :: l,e,x,hx=>by
  rw [List.map_cons,List.map_cons] at e
  injection e with e1 e2
  rcases List.mem_cons.mp hx with rfl | hx
  ·exact e1
  ·exact map_at e2 x hx
theorem NsEq.eq {ks:List Str} {fs fs':List (Str × V)} (h:NsEq ks fs fs') (x:Str):fs.lookup x = fs'.lookup x:=by
 cases q:ks.any fun k=>k == x with
 | true=>
  obtain ⟨k,hk,e⟩:=List.any_eq_true.mp q
  cases beq_iff_eq.mp e
  exact map_at h.2.2 _ hk
 | false=>rw [nsB_none q h.1,nsB_none q h.2.1]
theorem O.ns_eq {prog:Program} {w:World} {h:Heap} {a:Addr} {fs fs':List (Str × V)} (e:∀ x,fs.lookup x = fs'.lookup x) (r:(O.ns fs).rep prog w h a):(O.ns fs').rep prog w h a:=by
 obtain ⟨m,hm,q,hr⟩:=r
 exact ⟨m,hm,fun x=>e x ▸ q x,fun x u hu=>hr x u ((e x).trans hu)⟩
noncomputable def To (c:Ctx) (m:Lo) (H:Hp) (m':Lo) (H':Hp):Prop:=(∀ s,Rel c ⟨m,H⟩ s→Rel c ⟨m',H'⟩ s)∧∀ b∈dom H',b∈dom H
section
variable {c:Ctx} {m m' m2:Lo} {H H' H2:Hp} {α β:Type} {Rr:Heap→β→α→Prop}
theorem To.less (l:Less m H m' H'):To c m H m' H':=⟨fun s R=>R.weaken l.1 l.2.1 (l.2.2 R.nd),fun b hb=>by obtain ⟨p,hp,e⟩:=List.mem_map.mp hb; exact e ▸ List.mem_map.mpr ⟨p,l.2.1 p hp,rfl⟩⟩
theorem To.trans (h:To c m H m' H') (h':To c m' H' m2 H2):To c m H m2 H2:=⟨fun s R=>h'.1 s (h.1 s R),fun b hb=>h.2 b (h'.2 b hb)⟩
theorem To.ns {d:Addr} {fs fs':List (Str × V)} {P:Addr × O} (e:∀ x,fs.lookup x = fs'.lookup x):To c m (P :: (d,.ns fs) :: H) m (P :: (d,.ns fs') :: H):=by
 refine ⟨fun s R=>⟨R.loc,fun a o ho=>?_,R.nd,R.apart,R.keep,R.gl,R.bare⟩,fun b hb=>hb⟩
 rcases List.mem_cons.mp ho with e1 | ho
 ·exact R.obj a o (e1 ▸ mS)
 ·rcases List.mem_cons.mp ho with e1 | ho
  ·cases e1
   exact O.ns_eq e (R.obj _ _ (mT mS))
  ·exact R.obj a o (mT (mT ho))
theorem Fp.pre {L:Addr} {h h':Heap} (s:∀ b∈Mine.dom H',b∈Mine.dom H) (F:Fp L H' H2 h h'):Fp L H H2 h h':=⟨fun b o hb hL e=>F.keep b o (fun q=>hb (s b q)) hL e,fun b hb=>(F.dom b hb).imp (s b) id,F.alive⟩
theorem Fp.post {L:Addr} {h h':Heap} (s:∀ b∈Mine.dom H2,b∈Mine.dom H') (F:Fp L H H' h h'):Fp L H H2 h h':=⟨F.keep,fun b hb=>F.dom b (s b hb),F.alive⟩
theorem WPs.to {b:List Stmt} {Q:Fl→Lo→Hp→Prop} (l:To c m H m' H') (h:WPs c b m' H' Q):WPs c b m H Q:=fun s R P k=>h s (l.1 s R) P fun b v m' H2 h tk R' F r q=>k b v m' H2 h tk R' (F.pre l.2) r q
theorem WPe.postT {e:Expr} {Q:V→Lo→Hp→Prop} (h:WPe c e m H fun v m' H'=>∃ m2 H2,To c m' H' m2 H2∧Q v m2 H2):WPe c e m H Q:=
 fun s R P k=>h s R P fun b v m' H' h tk R' F r ⟨m2,H2,l,q⟩=>k b v m2 H2 h tk (l.1 _ R') (F.post l.2) r q
end
theorem Less.sink {m:Lo} {s1 s2 s3 s4 s5 s6 s7 s8 s9 n:Addr × O} {R:Hp}:Less m (n :: s1 :: s2 :: s3 :: s4 :: s5 :: s6 :: s7 :: s8 :: s9 :: R) m (s1 :: s2 :: s3 :: s4 :: s5 :: s6 :: s7 :: s8 :: s9 :: n :: R):=
 Less.perm (List.perm_middle (l₁:=[s1,s2,s3,s4,s5,s6,s7,s8,s9]))
theorem WPs.sink {c:Ctx} {b:List Stmt} {Q:Fl→Lo→Hp→Prop} {m:Lo} {s1 s2 s3 s4 s5 s6 s7 s8 s9 n:Addr × O} {R:Hp} (h:WPs c b m (s1 :: s2 :: s3 :: s4 :: s5 :: s6 :: s7 :: s8 :: s9 :: n :: R) Q):WPs c b m (n :: s1 :: s2 :: s3 :: s4 :: s5 :: s6 :: s7 :: s8 :: s9 :: R) Q:=WPs.less .sink h
theorem WPs.drop1 {c:Ctx} {b:List Stmt} {Q:Fl→Lo→Hp→Prop} {m:Lo} {n:Addr × O} {R:Hp} (h:WPs c b m R Q):WPs c b m (n :: R) Q:=WPs.less (Less.heap (.cons _ (.refl _))) h
theorem WPs.loc {c:Ctx} {b:List Stmt} {Q:Fl→Lo→Hp→Prop} {m m':Lo} {R:Hp} (h:WPs c b m' R Q) (l:LessM m m'):WPs c b m R Q:=WPs.less (less_m l) h
section
open PySem.SeqAt
section
variable {c:Ctx} {m:Lo} {H:Hp} {pos:Pos} {Q:V→Lo→Hp→Prop}
theorem ints_of {h:Heap}:∀ {ns:List Int} {vs:List Value},Reps h (ns.map V.int) vs→IntsAre vs ns
 | [],_,r=>by cases (r:_ = []); exact .nil
 | n :: ns,vs,r=>by
  obtain ⟨a,r',rfl,⟨t,rfl⟩,r2⟩:=r
  exact .cons n t (ints_of r2)
theorem k_countI {a:Addr} {ns:List Int} {k:Int} (ha:Sees c H a (.list (ns.map .int))) (h:Q (.int (ns.count k:Nat)) m H):Cal c (.bi "list.count") [.ref a,.int k] m H Q:=fun s vf vvs R rf rv=>by
 cases (rf:vf = _)
 obtain ⟨va,vb,rfl,ra,rb⟩:=rv.two
 cases (ra:va = _); obtain ⟨t,rfl⟩:=rb
 obtain ⟨items,n,hl,hr⟩:=O.list_get (ha m s R)
 exact .val R h fun P p=>count_list_ints (vs:=items.toList) (by rw [Array.toArray_toList]; exact IsL.isList hl) (ints_of hr) (p _ _ ⟨_,rfl⟩)
end
end
section
open PySem.SeqAt
section
variable {prog:Program} {w:World} {A:Around} {E:Value→Shared→Prop} {s:Shared}
noncomputable abbrev lstO (acc:Array Value) (n:Nat):Obj:={ cls:=.type "list",dict:=none,data:=.seq acc n,slots:=#[] }
theorem rawAt_list {h:Heap} {a S:Addr} {z:Raw} {acc:Array Value} {n:Nat} (r:RawAt h a z) (hS:h.get? S = some (lstO acc n)):a≠S:=fun e=>by
 obtain ⟨o,ho,_,hd⟩:=r
 rw [e,hS] at ho; cases ho; cases hd
theorem ext_set_loop {z:Raw} {a it S:Addr} {W:List (Int × Value)} {ks:List IS} {res:Value} {R:Result→Shared→Prop} (hh:A.handled = .none) (I:SetInv prog w z ks) (hl:W.length = z.1.size) (hW:W.length≤1000) (hSi:it≠S) :
  ∀ k i s acc n,W.length - i = k→i≤W.length→SetJ w z a it W (·≠S) i s.heap→RawAt s.heap a z→s.heap.get? S = some (lstO acc n)→acc.toList = (W.take i).map (·.2) →
  (∀ h' n' acc',(∀ b o,b≠S→b≠it→s.heap.get? b = some o→h'.get? b = some o)→h'.get? S = some (lstO acc' n')→acc'.toList = W.map (·.2)→R (.ok (.ret res)) { s with heap:=h' }) →
  codeAny (model prog w) A (.builtin "list.extend.loop" ⟨[.ref S,.ref it,res],[]⟩) R s:=by
 intro k
 induction k with
 | zero=>
  intro i s acc n hk hi j r hS hacc hR
  have hin:i = W.length:=by exact as2 2 (.e (.s Z0 Z1) (.n 0)) (.l Z1 Z0) (.e Z1 Z0) [_,_] hk hi
  subst hin
  refine codeAny_builtin PySem.F.entry_extend_loop ?_
  rw [Around.under_plainId PySem.F.plain_extend_loop _]
  show wpAny _ A.in1 (pyNext (.ref it) >>= _) _ _ s
  refine wpAny_bind (j.done (A:=A.in1) hh r I hl fun h' hk'=>?_)
  rw [List.take_length] at hacc
  exact wpAny_pure (hR h' n acc (fun b o _ hb e=>hk' b o hb e) (hk' S _ (Ne.symm hSi) hS) hacc)
 | succ k ih=>
  intro i s acc n hk hi j r hS hacc hR
  have hlt:i < W.length:=by exact as1 3 (.e (.s Z0 Z1) (.a Z2 N1)) (.t Z1 Z0) [_,_,_] hk
  have hz:acc.size = i:=by rw [← Array.length_toList,hacc,List.length_map,List.length_take,Nat.min_eq_left hi]
  refine codeAny_builtin PySem.F.entry_extend_loop ?_
  rw [Around.under_plainId PySem.F.plain_extend_loop _]
  show wpAny _ A.in1 (pyNext (.ref it) >>= _) _ _ s
  refine wpAny_bind (j.item (A:=A.in1) r I (List.getElem?_eq_getElem hlt) hl fun h1 j1 hs1=>?_)
  have hS1:h1.get? S = some (lstO acc n):=(hs1.2 S (Ne.symm hSi)).trans hS
  have hai:a≠it:=fun e=>by
   obtain ⟨o,ho,_,hd⟩:=r
   obtain ⟨f,hit,_⟩:=j
   rw [e,hit] at ho; cases ho; cases hd
  have r1:RawAt h1 a z:=let ⟨o,ho,q⟩:=r; ⟨o,(hs1.2 a hai).trans ho,q⟩
  show wpAny _ A.in1 (updateSeq S (·.push _) >>= _) _ _ _
  refine wpAny_bind ?_
  refine wpAny_updateSeq hS1 rfl (wpAny_pure ⟨plainId_quiet PySem.F.plain_extend_loop _,ih (i + 1) _ (acc.push W[i].2) _ (by exact as1 3 (.e (.s Z0 Z1) (.a Z2 N1)) (.e (.s Z0 (.a Z1 N1)) Z2) [_,_,_] hk) hlt ?_ ?_ (Heap.get?_update_self _ hS1 rfl) ?_ fun h' n' acc' hk' hS' ha'=>?_⟩) (by have:sizeLine = 16777216:=rfl; exact as4 4 (.l Z0 (.n 1000)) (.t Z1 Z0) (.e Z2 Z1) (.e Z3 (.n 16777216)) (.l Z2 Z3) [_,_,_,_] hW hlt hz this) (by have:sizeLine = 16777216:=rfl; show (acc.push _).size≤_; rw [Array.size_push]; exact as4 4 (.l Z0 (.n 1000)) (.t Z1 Z0) (.e Z2 Z1) (.e Z3 (.n 16777216)) (.l (.a Z2 N1) (.a Z3 N1)) [_,_,_,_] hW hlt hz this)
  ·exact j1.keep (fun o e=>upd_kp _ _ hSi e) fun b o hb e=>⟨upd_kp _ _ hb e,hb⟩
  ·obtain ⟨o,ho,q⟩:=r1
   exact ⟨o,upd_kp _ _ (rawAt_list ⟨o,ho,q⟩ hS1) ho,q⟩
  ·rw [Array.toList_push,hacc,List.take_add_one,List.getElem?_eq_getElem hlt,List.map_append]; rfl
  ·exact hR h' n' acc' (fun b o b1 b2 e=>hk' b o b1 b2 (upd_kp _ _ b1 ((hs1.2 b b2).trans e))) hS' ha'
theorem set_collect {z:Raw} {a:Addr} {ks:List IS} {Q:List Value→Shared→Prop} (hh:A.handled = .none) (r:RawAt s.heap a z) (I:SetInv prog w z ks) (hz:z.1.size≤1000)
  (h:∀ (W:List (Int × Value)) h' d,List.Perm W z.1.toList→(∀ b o,s.heap.get? b = some o→h'.get? b = some o)→Q (W.map (·.2)) { s with heap:=h',drawn:=d }):wpAny (model prog w) A (collect (.ref a)) Q E s:=by
 unfold collect
 refine wpAny_bind (wpAny_runValue (codeAny_builtin PySem.F.entry_proto_collect ?_))
 rw [Around.under_plainId PySem.F.plain_proto_collect _]
 show wpAny _ A.in1 (newList [] >>= fun l=>again (.builtin "list.__iadd__" ⟨[l,.ref a],[]⟩)) _ _ s
 refine wpAny_bind (wpAny_newObj_type ?_)
 refine wpAny_pure ⟨plainId_quiet PySem.F.plain_list_iadd _,codeAny_builtin PySem.F.entry_list_iadd ?_⟩
 rw [Around.under_plainId PySem.F.plain_list_iadd _]
 have hg1:∀ b o,s.heap.get? b = some o→(s.heap.push { cls:=.type "list",data:=.seq ([]:List Value).toArray }).get? b = some o:=push_grow
 have hS₁:(s.heap.push { cls:=.type "list",data:=.seq ([]:List Value).toArray }).get? s.heap.objs.size = some (lstO #[] 0):=Heap.get?_push_size _ rfl
 have r1:RawAt (s.heap.push { cls:=.type "list",data:=.seq ([]:List Value).toArray }) a z:=let ⟨o,ho,q⟩:=r; ⟨o,hg1 _ _ ho,q⟩
 have hT:Shared.TypeIs { s with heap:=s.heap.push { cls:=.type "list",data:=.seq ([]:List Value).toArray } } (.ref a) "set":=let ⟨o,ho,hex,_⟩:=r1; ⟨o,ho,hex.1⟩
 have hSa:s.heap.objs.size≠a:=fun e=>rawAt_list r1 hS₁ e.symm
 show wpAny _ A.in1 (Builtin.List.listExtendWith (.ref s.heap.objs.size) (.ref a) (.ref s.heap.objs.size)) _ _ _
 unfold Builtin.List.listExtendWith
 refine wpAny_bind (wpAny_typeOf hT ?_)
 have q1:Builtin.List.listSameRef (.ref s.heap.objs.size) (.ref a) = false:=by simp [Builtin.List.listSameRef,hSa]
 have q2:(Value.type "set" == Value.type "list") = false:=by decide
 have q3:(Value.type "set" == Value.type "tuple") = false:=by decide
 repeat (first | rw [q1] | rw [q2] | rw [q3] | rw [Bool.or_false] | rw [Bool.false_or] | rw [if_neg Bool.false_ne_true])
 refine wpAny_bind (set_pyIter (Cl:=(·≠s.heap.objs.size)) r1 I (fun b hb e=>by rw [e,hS₁] at hb; cases hb) fun h2 d W it hp j hg hf=>?_)
 have hSi:it≠s.heap.objs.size:=fun e=>by rw [e,hS₁] at hf; cases hf
 have hS₂:=hg _ _ hS₁
 have r2:RawAt h2 a z:=let ⟨o,ho,q⟩:=r1; ⟨o,hg _ _ ho,q⟩
 have hT2:Shared.TypeIs { s with heap:=h2,drawn:=d } (.ref a) "set":=let ⟨o,ho,hex,_⟩:=r2; ⟨o,ho,hex.1⟩
 refine wpAny_bind (wpAny_holding ?_)
 unfold Builtin.List.listLengthHint
 refine wpAny_bind (wpAny_specialOf hT2 PySem.F.slot_set_len.lookup ?_)
 dsimp only
 rw [show splitId "set.__len__" = some ("set","__len__") by decide +kernel]
 dsimp only
 refine wpAny_bind (wpAny_isInstance (b:=true) hT2 PySem.F.sub_set_set ?_)
 rw [if_neg (by decide)]
 rw [if_pos (by kernel_rfl)]
 refine wpAny_bind (wpAny_typeOf hT2 ?_)
 refine wpAny_pure ?_
 rw [if_pos (by kernel_rfl)]
 refine wpAny_bind (wpAny_rule (wpAny_bind ?_))
 show wpAny _ _ (updateSeq s.heap.objs.size (·.push .none) >>= fun _=>updateSeq s.heap.objs.size (·.pop)) _ _ _
 refine wpAny_bind (wpAny_updateSeq hS₂ rfl ?_)
 have hS₃:=Heap.get?_update_self (Obj.mapSeq (·.push Value.none)) hS₂ rfl
 refine wpAny_updateSeq (hz:=by seq_fits) hS₃ rfl ?_
 have hS₄:=Heap.get?_update_self (Obj.mapSeq (·.pop)) hS₃ rfl
 have k4:∀ b o,b≠s.heap.objs.size→h2.get? b = some o→((h2.update s.heap.objs.size (Obj.mapSeq (·.push Value.none))).update s.heap.objs.size (Obj.mapSeq (·.pop))).get? b = some o:=fun b o hb e=>upd_kp _ _ hb (upd_kp _ _ hb e)
 have hl:W.length = z.1.size:=hp.length_eq.trans Array.length_toList
 refine wpAny_pure ⟨plainId_quiet PySem.F.plain_extend_loop _,?_⟩
 refine ext_set_loop (a:=a) hh I hl (by exact as2 2 (.l Z0 (.n 1000)) (.e Z1 Z0) (.l Z1 (.n 1000)) [_,_] hz hl) hSi W.length 0 _ #[] _ rfl (Nat.zero_le _) ?_ ?_ hS₄ rfl fun h' n' acc' hk' hS' ha'=>?_
 ·exact j.keep (fun o e=>k4 _ _ hSi e) fun b o hb e=>⟨k4 _ _ hb e,hb⟩
 ·obtain ⟨o,ho,q⟩:=r2
  exact ⟨o,k4 _ _ (Ne.symm hSa) ho,q⟩
 ·show wpAny (model prog w) A (do
    let o ← load s.heap.objs.size
    match o.data with
    | .seq xs _=>pure xs.toList
    | _=>unsupported "internal:collect") Q E _
  refine wpAny_bind (wpAny_load hS' ?_)
  show wpAny _ _ (pure acc'.toList) Q E _
  rw [ha']
  refine wpAny_pure (h W h' d hp fun b o e=>?_)
  have hb:b≠s.heap.objs.size:=Nat.ne_of_lt (Heap.lt_size e)
  refine hk' b o hb (fun q=>?_) (k4 b o hb (hg b o (hg1 b o e)))
  rw [q] at e
  rw [hg1 _ _ e] at hf; cases hf
end
section
variable {c:Ctx} {m:Lo} {H:Hp} {Q:V→Lo→Hp→Prop}
noncomputable def intOf:Value→Int
 | .int n _=>n
 | _=>0
theorem ints_are:∀ {vs:List Value},(∀ v∈vs,∃ n t,v = .int n t)→IntsAre vs (vs.map intOf)
 | [],_=>.nil
 | v :: vs,h=>by
  obtain ⟨n,t,rfl⟩:=h v mS
  exact .cons n t (ints_are fun u hu=>h u (mT hu))
theorem ia_reps {h:Heap}:∀ {ns:List Int} {vs:List Value},IntsAre vs ns→Reps h (ns.map V.int) vs
 | _,_,.nil=>rfl
 | _,_,.cons n t r=>.cons ⟨t,rfl⟩ (ia_reps r)
theorem k_sortedS {a:Addr} {z:Raw} {ns:List Int} (ha:Sees c H a (.set z (ns.map IS.i))) (hz:ns.length < 64) (h:∀ x ns',List.Perm ns' ns→ns'.Pairwise (·≤·)→Q (.ref x) m ((x,.list (ns'.map .int)) :: H)):Cal c (.bi "sorted") [.ref a] m H Q:=fun s vf vvs R rf rv P k=>by
 cases (rf:vf = _)
 obtain ⟨va,rfl,ra⟩:=rv.sole
 cases (ra:va = _)
 obtain ⟨r,I⟩:=set_get (ha m s R)
 have hsz:z.1.size = ns.length:=by rw [I.size,List.length_map]
 refine Calls.call_function_entry kind_sorted plain_sorted entry_sorted (args_sorted1 _) ?_
 unfold Builtin.«sorted»
 refine wpAny_bind (m:=checkCount "sorted" 1 1 _) (wpAny_pure ?_)
 refine wpAny_bind (set_collect (A:=c.A.in1) c.hh r I (by exact as2 2 (.t Z0 (.n 64)) (.e Z1 Z0) (.l Z1 (.n 1000)) [_,_] hz hsz) fun W h' d hp hg=>?_)
 have hkk:∀ e∈W,∃ n,keyOf e = .i n∧∃ t,e.2 = .int n t:=fun e he=>by
  obtain ⟨⟨q,hq0,_⟩,_⟩:=I.el e (hp.mem_iff.mp he)
  have hq:isIS q e.2 = true:=hq0
  have hko:=keyOf_is (k:=q) hq
  have hm:keyOf e∈ns.map IS.i:=(I.keys.mem_iff).mp (List.mem_map.mpr ⟨e,hp.mem_iff.mp he,rfl⟩)
  obtain ⟨n,_,hn⟩:=List.mem_map.mp hm
  rw [← hko,← hn] at hq
  rcases isIS_shape hq with ⟨n',t,e1,e2⟩ | ⟨x,t,e1,e2⟩
  ·cases e1; exact ⟨n,hn.symm,t,e2⟩
  ·cases e1
 have hI:IntsAre (W.map (·.2)) ((W.map (·.2)).map intOf):=ints_are fun v hv=>by
  obtain ⟨e,he,rfl⟩:=List.mem_map.mp hv
  obtain ⟨n,_,t,ht⟩:=hkk e he
  exact ⟨n,t,ht⟩
 have hperm:List.Perm ((W.map (·.2)).map intOf) ns:=by
  have e1:(W.map keyOf).map (fun q=>match q with | .i n=>n | _=>0) = (W.map (·.2)).map intOf:=by
   rw [List.map_map,List.map_map]
   refine List.map_congr_left fun e he=>?_
   obtain ⟨n,hn,t,ht⟩:=hkk e he
   show (match keyOf e with | .i n=>n | _=>0) = intOf e.2
   rw [hn,ht]; rfl
  have e2:((ns.map IS.i).map fun q=>match q with | .i n=>n | _=>0) = ns:=by rw [List.map_map]; exact List.map_id _
  have:=((hp.map keyOf).trans I.keys).map (fun q=>match q with | .i n=>n | _=>(0:Int))
  rw [e1,e2] at this
  exact this
 have hlW:(W.map (·.2)).length < 64:=by
  rw [List.length_map,hp.length_eq,Array.length_toList,hsz]; exact hz
 refine wpAny_bind (wpAny_newList ?_)
 have hoL:(h'.push (seqObj "list" (W.map (·.2)).toArray 0)).get? h'.objs.size = some (seqObj "list" (W.map (·.2)).toArray 0):=Heap.get?_push_size _ rfl
 refine wpAny_bind (wpAny_holding (wpAny_call_entry slot_list_sort ⟨_,hoL,rfl⟩ entry_list_sort (list_sort_tree hoL hI hlW fun out ns' a1 a2 a3=>⟨_,rfl,?_⟩) (args_list_sort _)))
 refine wpAny_pure ⟨_,rfl,?_⟩
 have hsnew:s.heap.get? h'.objs.size = .none:=by
  cases q:s.heap.get? h'.objs.size with
  | none=>rfl
  | some o=>have:=hg _ _ q; rw [get_size] at this; cases this
 have hgr:∀ b o,s.heap.get? b = some o→(sortedHeap (h'.push (seqObj "list" (W.map (·.2)).toArray 0)) h'.objs.size (W.map (·.2)) out).get? b = some o:=fun b o e=>by
  have e1:=hg b o e
  have lt1:=Heap.lt_size e1
  rw [sortedHeap_old (Nat.ne_of_lt lt1) (by rw [size_push']; exact Nat.lt_succ_of_lt lt1)]
  exact push_grow _ _ e1
 obtain ⟨e,he⟩:=sortedHeap_at (out:=out) (vs:=W.map (·.2)) hoL
 exact k (.ref h'.objs.size) _ m ((h'.objs.size,.list (ns'.map .int)) :: H) _ ⟨s.toks,d,s.gens⟩ (R.new ⟨s.toks,d,s.gens⟩ hgr hsnew (O.list_mk he (ia_reps a1))) (.new hgr hsnew) rfl (h _ ns' (a2.trans hperm) a3)
end
end
section
open PySem.SeqAt
noncomputable def At.plain:At→Bool
 | .int _=>true
 | .str _=>true
 | _=>false
noncomputable def V.plain:V→Bool
 | .tup .none xs=>xs.all At.plain
 | .at x=>x.plain
 | _=>false
theorem at_same {A:Around} {s:Shared} {x:At} {v w:Value} (h:x.plain = true) (hv:x.rep v) (hw:x.rep w):EqAt A s v w true:=by
 cases x with
 | int i=>
  have:=isIS_eqAt (A:=A) (s:=s) (isIS_rep (k:=.i i) (h:=s.heap) hv) (isIS_rep (k:=.i i) (h:=s.heap) hw)
  rwa [decide_eq_true rfl] at this
 | str x=>
  have:=isIS_eqAt (A:=A) (s:=s) (isIS_rep (k:=.s x) (h:=s.heap) hv) (isIS_rep (k:=.s x) (h:=s.heap) hw)
  rwa [decide_eq_true rfl] at this
 | none=>cases h
 | bool b=>cases h
 | float f=>cases h
 | ty n=>cases h
 | bi n=>cases h
 | ref a=>cases h
theorem ats_same {A:Around} {s:Shared} {xs:List At} {vs ws:Array Value} (h:xs.all At.plain = true) (hv:AtReps xs vs.toList) (hw:AtReps xs ws.toList) (j:Nat) (h1:j < vs.size) (h2:j < ws.size):EqAt A s vs[j] ws[j] true:=by
 have e1:=AtReps.reps (h:=s.heap) hv
 have e2:=AtReps.reps (h:=s.heap) hw
 have hl:vs.size = xs.length:=by rw [← Array.length_toList,hv.length]
 have hj:j < xs.length:=hl ▸ h1
 obtain ⟨a,ha,ra⟩:=e1.get (show (xs.map V.at)[j]? = some (.at xs[j]) by rw [List.getElem?_map,List.getElem?_eq_getElem hj]; rfl)
 obtain ⟨b,hb,rb⟩:=e2.get (show (xs.map V.at)[j]? = some (.at xs[j]) by rw [List.getElem?_map,List.getElem?_eq_getElem hj]; rfl)
 rw [Array.getElem?_toList,Array.getElem?_eq_getElem h1] at ha
 rw [Array.getElem?_toList,Array.getElem?_eq_getElem h2] at hb
 cases ha; cases hb
 exact at_same (List.all_eq_true.mp h _ (List.getElem_mem hj)) ra rb
theorem all_true (n:Nat):(List.range n).all (fun _=>true) = true:=List.all_eq_true.mpr fun _ _=>rfl
theorem rep_sizes {xs:List At} {vs ws:Array Value} (hv:AtReps xs vs.toList) (hw:AtReps xs ws.toList):vs.size = ws.size:=by
 rw [← Array.length_toList,← Array.length_toList,hv.length,hw.length]
section
variable {c:Ctx} {m:Lo} {H:Hp} {pos p1 p2:Pos} {k1:Nat} {Q:V→Lo→Hp→Prop}
theorem v_same {s:Shared} {x:V} {v w:Value} (h:x.plain = true) (hv:x.rep s.heap v) (hw:x.rep s.heap w):EqAt c.A.in1 s v w true:=by
 cases x with
 | «at» x=>exact at_same h hv hw
 | tup k xs=>
  cases k with
  | some k=>cases h
  | none=>
   obtain ⟨a,i1,rfl,t1,r1⟩:=hv
   obtain ⟨b,i2,rfl,t2,r2⟩:=hw
   by_cases hab:a = b
   ·subst hab; exact EqAt.same _
   ·have key:=RcAt.tuples (A:=c.A.in1) (e:=fun _=>true) t1.plain t2.plain c.hu1 fun j h1 h2=>ats_same h r1 r2 j h1 h2
    rw [all_true,Bool.true_and,beq_iff_eq.mpr (rep_sizes r1 r2)] at key
    exact EqAt.of_refs hab key
theorem c_neSame {a b:Addr} {xs:List V} (hp:xs.all V.plain = true) (ha:Sees c H a (.list xs)) (hb:Sees c H b (.list xs)) (h:Q (.bool false) m H):Cmp c .NotEq (.ref a) (.ref b) m H Q:=fun s va vb R ra rb=>by
 cases (ra:va = _); cases (rb:vb = _)
 obtain ⟨i1,n1,l1,r1⟩:=O.list_get (ha m s R)
 obtain ⟨i2,n2,l2,r2⟩:=O.list_get (hb m s R)
 have z1:i1.size = xs.length:=by rw [← Array.length_toList,r1.length]
 have z2:i2.size = xs.length:=by rw [← Array.length_toList,r2.length]
 refine .val R h fun P k=>cmp_ofNotEq ?_
 refine RcNeAt.lists (IsL.isList l1) (IsL.isList l2) (z1.trans z2.symm) c.hu0 (e:=fun _=>true) (fun j h1 h2=>?_) _ _ _ _ (k _ s.toks ?_)
 ·have hj:j < xs.length:=z1 ▸ h1
  obtain ⟨a,ha,ra⟩:=r1.get (List.getElem?_eq_getElem hj)
  obtain ⟨b,hb,rb⟩:=r2.get (List.getElem?_eq_getElem hj)
  rw [Array.getElem?_toList,Array.getElem?_eq_getElem h1] at ha
  rw [Array.getElem?_toList,Array.getElem?_eq_getElem h2] at hb
  cases ha; cases hb
  exact v_same (List.all_eq_true.mp hp _ (List.getElem_mem hj)) ra rb
 ·show _ = _
  rw [all_true]; rfl
theorem c_neTup {xs:List At} (hp:xs.all At.plain = true) (h:Q (.bool false) m H):Cmp c .NotEq (.tup .none xs) (.tup .none xs) m H Q:=fun s va vb R ra rb=>by
 obtain ⟨a,i1,rfl,t1,r1⟩:=ra
 obtain ⟨b,i2,rfl,t2,r2⟩:=rb
 refine .val R h fun P k=>cmp_ofNotEq ?_
 refine RcNeAt.tuples t1.plain t2.plain c.hu0 (e:=fun _=>true) (fun j h1 h2=>ats_same hp r1 r2 j h1 h2) _ _ _ _ (k _ s.toks ?_)
 show _ = _
 rw [all_true,beq_iff_eq.mpr (rep_sizes r1 r2)]; rfl
theorem c_isTup {k:Option Addr} {xs:List At} (h:Q (.bool false) m H):Cmp c .Is (.tup k xs) .none m H Q:=fun s va vb R ra rb=>by
 obtain ⟨a,items,rfl,_⟩:=ra
 exact c_is (u:=.ref a) .ref h s _ vb R rfl rb
theorem PuT.tupIsNone {l:Expr} {k:Option Addr} {xs:List At} (h1:Pu c l m H (.tup k xs)) (hm:autoParam (behindInMarks .Is (.Constant .none k1 p1) = false) auAll):PuT c (.Compare l [.Is] [.Constant .none k1 p1] pos) m H false:=fun _ h=>
 t_cmp (h1 _ (e_none (c_isTup (tru_bool h)))) hm
end
theorem pick_between {α:Type} (xs:List α) (a b:Nat):pick xs (some a) (some b) none = (xs.drop a).take (b - a):=by
 have e:sliceBounds (some (a:Int)) (some (b:Int)) none xs.length = (((min a xs.length:Nat):Int),((min b xs.length:Nat):Int),1):=by
  simp only [sliceBounds,Option.getD_none]
  have h1:¬ ((a:Int) < 0):=Int.not_lt.mpr (Int.natCast_nonneg a)
  have h2:¬ ((b:Int) < 0):=Int.not_lt.mpr (Int.natCast_nonneg b)
  simp only [h1,h2,if_false,show (1:Int) > 0 by decide,if_true]
  congr 1
  ·exact in_clip
  ·congr 1; exact in_clip
 unfold pick
 rw [e]
 simp only [sliceRange_one,picks_run]
 rcases Nat.le_total a xs.length with q | q
 ·rw [Nat.min_eq_left q]
  rcases Nat.le_total b xs.length with r | r
  ·rw [Nat.min_eq_left r]
  ·rw [Nat.min_eq_right r,List.take_of_length_le (by rw [List.length_drop]; exact Nat.le_refl _),List.take_of_length_le (by rw [List.length_drop]; exact Nat.sub_le_sub_right r a)]
 ·rw [Nat.min_eq_right q,List.drop_length,List.drop_eq_nil_of_le q,List.take_nil,List.take_nil]
section
variable {c:Ctx} {m:Lo} {H:Hp} {pos p1 p2:Pos} {k1:Nat} {Q:V→Lo→Hp→Prop}
theorem e_between {α:Type} {f:α→V} {v e1 e2:Expr} {p:Pos} {l:Addr} {xs:List α} {a b:Nat} (h1:Pu c v m H (.ref l)) (h2:Pu c e1 m H (.int a)) (h3:Pu c e2 m H (.int b)) (hx:Sees c H l (.list (xs.map f))) (hz:xs.length≤1000) (h:∀ x,Q (.ref x) m ((x,.list (((xs.drop a).take (b - a)).map f)) :: H))
  (ht:autoParam (∀ o r,letTemporaryGo v o r = pure ()) auFun2):WPe c (.Subscript v (.Slice (some e1) (some e2) .none p) pos) m H Q:=by
 refine e_slice (h1 _ ?_) ht
 show WPe c e1 m H _
 refine h2 _ ⟨a,rfl,?_⟩
 show WPe c e2 m H _
 refine h3 _ ⟨b,rfl,l,xs.map f,rfl,hx,by rw [List.length_map]; exact Nat.le_trans hz (by decide),fun x=>?_⟩
 rw [pick_between,← List.map_drop,← List.map_take]
 exact h x
theorem e_whole {α:Type} {f:α→V} {v:Expr} {p:Pos} {l:Addr} {xs:List α} (h1:Pu c v m H (.ref l)) (hx:Sees c H l (.list (xs.map f))) (hz:xs.length≤1000) (h:∀ x,Q (.ref x) m ((x,.list (xs.map f)) :: H))
  (ht:autoParam (∀ o r,letTemporaryGo v o r = pure ()) auFun2):WPe c (.Subscript v (.Slice .none .none .none p) pos) m H Q:=by
 refine e_slice (h1 _ ?_) ht
 show ∃ l xs,_
 refine ⟨l,xs.map f,rfl,hx,by rw [List.length_map]; exact Nat.le_trans hz (by decide),fun x=>?_⟩
 rw [pick_all]
 exact h x
end
end
section
variable {c:Ctx} {m:Lo} {H:Hp} {pos:Pos} {Q:V→Lo→Hp→Prop}
theorem e_slice2 {v:Expr} {lower upper:Option Expr} {p:Pos} (h:WPe c v m H fun a m1 H1=>WPpart c lower m1 H1 fun lo m2 H2=>WPpart c upper m2 H2 fun hi m3 H3=>∃ l xs,a = .ref l∧Sees c H3 l (.list xs)∧xs.length≤1000000∧∀ x,Q (.ref x) m3 ((x,.list (pick xs lo hi none)) :: H3)):WPe c (.Subscript v (.Slice lower upper none p) pos) m H Q:=fun s R P k=>by
 refine Subscript_ (h s R _ fun a va m1 H1 h1 tk1 R1 F1 r1 q1=>wpAny_Slice (q1.run R1 _ fun vl lo m2 H2 h2 tk2 R2 F2 pl q2=>q2.run R2 _ fun vu hi m3 H3 h3 tk3 R3 F3 pu q3=>?_))
 rw [evalPart_none]
 refine wpAny_pure ?_
 obtain ⟨l,xs,rfl,hx,hz,q⟩:=q3
 cases (r1:va = _)
 obtain ⟨items,n,hl,hr⟩:=O.list_get (hx m3 _ R3)
 have hlen:=hr.length
 have g1:∀ b o,h3.get? b = some o→(h3.push { cls:=.type "slice",data:=.fields #[vl,vu,.none] }).get? b = some o:=push_grow
 have hl1:(h3.push { cls:=.type "slice",data:=.fields #[vl,vu,.none] }).IsList l items:=IsL.isList (g1 _ _ hl)
 refine tail_any hl1.typeIs list_getitem_lookup (wpAny_getItem_list_slice hl1 (Heap.IsSliceOf.new ..) pl pu .none (by simp) ?_ ?_) (ops:=[_,_]) rfl
 ·have g:∀ b o,h3.get? b = some o→((h3.push { cls:=.type "slice",data:=.fields #[vl,vu,.none] }).push { cls:=.type "list",data:=.seq (slicePick items lo hi none) }).get? b = some o:=fun b o e=>push_grow _ _ (push_grow _ _ e)
  have e1:(h3.push { cls:=.type "slice",data:=.fields #[vl,vu,.none] }).objs.size = h3.objs.size + 1:=by simp
  have hn:h3.get? (h3.objs.size + 1) = none:=get_ge (Nat.le_succ _)
  have hN:((h3.push { cls:=.type "slice",data:=.fields #[vl,vu,.none] }).push { cls:=.type "list",data:=.seq (slicePick items lo hi none) }).get? (h3.objs.size + 1) = some { cls:=.type "list",data:=.seq (slicePick items lo hi none) }:=by
   rw [← e1]; exact Heap.get?_push_size _ rfl
  have F:=(F1.trans R1.hasL F2).trans R2.hasL F3
  show P (.ref (h3.push { cls:=.type "slice",data:=.fields #[vl,vu,.none] }).objs.size) _
  rw [e1]
  refine k (.ref (h3.objs.size + 1)) _ m3 _ _ tk3 (R3.new tk3 g hn (o:=.list (pick xs lo hi none)) (O.list_mk (n:=0) hN ?_)) (F.trans R3.hasL (.new g hn)) rfl (q _)
  have e2:(slicePick items lo hi none).toList = pick items.toList lo hi none:=by rw [pick_array]
  rw [e2]
  exact (R3.liftL (.grow (H:=H3) g) hr).pick lo hi none
 ·rw [← Array.length_toList,hlen]; have:sizeLine = 16777216:=rfl; exact as2 2 (.l Z0 (.n 1000000)) (.e Z1 (.n 16777216)) (.l Z0 Z1) [_,_] hz this
end
section
set_option genSizeOfSpec false
set_option genInjectivity false
set_option genSizeOf false
structure A6 where
 x:Addr
 d:Addr
 clo:Addr
 cre:Addr
 cin:Addr
 cp:Addr
 cju:Addr
 rj:Addr
 dz:Addr
 js:List Int
 dl:List Int
 J:At
 W:Hp
structure S6 where
 lg:List Int
 rl:Nat
 il:Nat
 nt:Option (Nat × Nat)
 ct:Option Nat
 la:Addr
 ra:Addr
 D:Addr
 S:Addr
 S2:Addr
 mb:At
 op:At
 fc:At
 pv:Option V
 ps:Array Value
noncomputable def mKeys:List Str:=["bpopular","bjunk","b2j","fullbcount","opcodes","matching_blocks","b","a","autojunk","isjunk"]
noncomputable abbrev f6 (J:At) (s:S6):List (Str × V):=[("bpopular",.ref s.S2),("bjunk",.ref s.S),("b2j",.ref s.D),("fullbcount",.at s.fc),("opcodes",.at s.op),("matching_blocks",.at s.mb),("b",.ref s.la),("a",.ref s.ra),("autojunk",.bool true),("isjunk",.at J)]
noncomputable abbrev rd6 (s:S6):List Int:=s.lg.take s.rl
noncomputable abbrev T6 (a:A6) (s:S6) (ci:Option V) (o:O) (R:Hp):Hp:=(s.la,.list (s.lg.map .int)) :: (s.ra,.list ((rd6 s).map .int)) :: (a.clo,.cell (some (.ref s.la))) :: (a.cre,.cell (some (.ref s.ra))) :: (a.cin,.cell ci) :: (a.cp,.cell s.pv) :: (220,o) :: R
noncomputable abbrev Hw6 (a:A6) (s:S6) (ci:Option V) (R:Hp):Hp:=(a.x,.inst 242 a.d) :: (a.d,.ns (f6 a.J s)) :: T6 a s ci (.obj (tabObj s.ps)) R
noncomputable abbrev H6 (a:A6) (s:S6) (R:Hp):Hp:=Hw6 a s (some (.int s.il)) R
structure Bs6 (c:Ctx) (a:A6) (R:Hp):Prop where
 bi:(V.at a.J).notBi = true
 jk:∀ k,JunkIn c (k + 1) (.at a.J) (fun x=>decide (x∈a.js.map IS.i)) a.W
 jw:∀ q∈a.W,q∈R
 hju:(a.cju,O.cell (some (.ref a.rj)))∈R
 hrj:(a.rj,O.list (a.js.map .int))∈R
 hdz:(a.dz,O.list (a.dl.map .int))∈R
 tab:∃ ps,(248,O.obj (tabObj ps))∈R
 jp:a.js.Pairwise (· < ·)
 jl:a.js.length≤3
 dl:a.dl.length≤74
structure Sz6 (s:S6):Prop where
 z:s.lg.length≤62
 z0:0 < s.lg.length
 rz:s.rl≤s.lg.length
 tri:TriplesOk s.ps.toList
noncomputable def Ch6 (R:Hp) (lg:List Int) (il:Nat) (D S:Addr) (js:List Int):Prop:=il≤lg.length∧∃ ep z G,gP G = grp ((lg.take il).map IS.i)∧(D,O.dict ep (gD ((G.filter fun e=>!decide (e.1∈js.map IS.i)).filter fun e=>!chPop ((lg.take il).map IS.i).length true e)))∈R∧(S,O.set z ((G.map (·.1)).filter fun x=>decide (x∈js.map IS.i)))∈R∧∀ q∈gL G,q∈R
noncomputable def Kept (R:Hp) (mb op:At) (k n:Nat):Prop:=∃ r an,mb = .ref r∧op = .ref an∧(r,O.list ((blkL k n).map (triV 135)))∈R∧(an,O.list ((codL k n).map (V.tup .none)))∈R
noncomputable def Nt6 (R:Hp) (n0:Nat) (mb op:At) (nt:Option (Nat × Nat)):Prop:=(nt = .none∧mb = .none∧op = .none) ∨ ∃ k n,nt = some (k,n)∧k≤n∧n≤n0∧Kept R mb op k n
noncomputable def Ct6 (R:Hp) (lg:List Int) (fc:At) (ct:Option Nat):Prop:=(ct = .none∧fc = .none) ∨ ∃ n D ep es,ct = some n∧fc = .ref D∧n≤lg.length∧(D,O.dict ep es)∈R∧CntOk es (lg.take n)
structure Ok6 (c:Ctx) (a:A6) (s:S6) (R:Hp):Prop where
 bs:Bs6 c a R
 sz:Sz6 s
 ch:Ch6 R s.lg s.il s.D s.S a.js
 nt:Nt6 R s.lg.length s.mb s.op s.nt
 ct:Ct6 R s.lg s.fc s.ct
section
variable {c:Ctx} {a:A6} {s:S6} {R R':Hp}
theorem Bs6.mono (h:Bs6 c a R) (u:∀ q∈R,q∈R'):Bs6 c a R':=⟨h.bi,h.jk,fun q hq=>u q (h.jw q hq),u _ h.hju,u _ h.hrj,u _ h.hdz,h.tab.imp fun ps q=>u _ q,h.jp,h.jl,h.dl⟩
theorem Ch6.mono {lg:List Int} {il:Nat} {D S:Addr} {js:List Int} (h:Ch6 R lg il D S js) (u:∀ q∈R,q∈R'):Ch6 R' lg il D S js:=by
 obtain ⟨h0,ep,z,G,h1,h2,h3,h4⟩:=h
 exact ⟨h0,ep,z,G,h1,u _ h2,u _ h3,fun q hq=>u q (h4 q hq)⟩
theorem Kept.mono {mb op:At} {k n:Nat} (h:Kept R mb op k n) (u:∀ q∈R,q∈R'):Kept R' mb op k n:=by
 obtain ⟨r,an,h1,h2,h3,h4⟩:=h
 exact ⟨r,an,h1,h2,u _ h3,u _ h4⟩
theorem Nt6.mono {n0:Nat} {mb op:At} {nt:Option (Nat × Nat)} (h:Nt6 R n0 mb op nt) (u:∀ q∈R,q∈R'):Nt6 R' n0 mb op nt:=by
 refine h.imp id fun h=>?_
 obtain ⟨k,n,h1,h2,h3,h4⟩:=h
 exact ⟨k,n,h1,h2,h3,h4.mono u⟩
theorem Ct6.mono {lg:List Int} {fc:At} {ct:Option Nat} (h:Ct6 R lg fc ct) (u:∀ q∈R,q∈R'):Ct6 R' lg fc ct:=by
 refine h.imp id fun h=>?_
 obtain ⟨n,D,ep,es,h1,h2,h3,h4,h5⟩:=h
 exact ⟨n,D,ep,es,h1,h2,h3,u _ h4,h5⟩
theorem Ch6.grow {lg:List Int} {il:Nat} {D S:Addr} {js:List Int} (h:Ch6 R lg il D S js) (e:List Int):Ch6 R (lg ++ e) il D S js:=by
 have q:(lg ++ e).take il = lg.take il:=List.take_append_of_le_length h.1
 unfold Ch6 at h ⊢
 rw [q]
 exact ⟨Nat.le_trans h.1 (by rw [List.length_append]; exact Nat.le_add_right _ _),h.2⟩
theorem Ct6.grow {lg:List Int} {fc:At} {ct:Option Nat} (h:Ct6 R lg fc ct) (e:List Int):Ct6 R (lg ++ e) fc ct:=by
 refine h.imp id fun h=>?_
 obtain ⟨n,D,ep,es,h1,h2,h3,h4,h5⟩:=h
 exact ⟨n,D,ep,es,h1,h2,Nat.le_trans h3 (by rw [List.length_append]; exact Nat.le_add_right _ _),h4,by rw [List.take_append_of_le_length h3]; exact h5⟩
theorem Nt6.grow {n0 n1:Nat} {mb op:At} {nt:Option (Nat × Nat)} (h:Nt6 R n0 mb op nt) (u:n0≤n1):Nt6 R n1 mb op nt:=by
 refine h.imp id fun h=>?_
 obtain ⟨k,n,h1,h2,h3,h4⟩:=h
 exact ⟨k,n,h1,h2,Nat.le_trans h3 u,h4⟩
theorem rd_len (z:Sz6 s):(rd6 s).length = s.rl:=List.length_take_of_le z.rz
end
noncomputable def ntV:Option (Nat × Nat)→V
 | .none=>.none
 | some (k,n)=>.tup .none [.int (k:Nat),.int (n:Nat)]
noncomputable def ctV:Option Nat→V
 | .none=>.none
 | some n=>.int (n:Nat)
noncomputable abbrev m0 (a:A6) (s:S6):Lo:=[("noted",ntV s.nt),("counted",ctV s.ct),("matcher",.ref a.x),("deeds",.ref a.dz)]
noncomputable abbrev mw6 (a:A6) (t:Nat) (x:Int):Lo:=[("kind",.int (x.fmod 5)),("x",.int x),("turn",.int (t:Nat)),("matcher",.ref a.x),("deeds",.ref a.dz)]
noncomputable abbrev m6 (a:A6) (s:S6) (t:Nat) (x:Int):Lo:=("kind",.int (x.fmod 5)) :: ("x",.int x) :: ("turn",.int (t:Nat)) :: m0 a s
noncomputable abbrev mx6 (a:A6) (s:S6) (t:Nat) (x:Int):Lo:=("whole",.int (s.rl + s.lg.length:Nat)) :: ("x",.int x) :: ("turn",.int (t:Nat)) :: m0 a s
noncomputable abbrev cs6 (a:A6) (che:Addr):List (Str × Addr):=[(("junk":Str),a.cju),("p",a.cp),("indexed",a.cin),("reader",a.cre),("log",a.clo),("head",che)]
noncomputable def sBody:Stmt→List Stmt
 | .For _ _ b _ _=>b
 | .If _ b _ _=>b
 | _=>[]
noncomputable def hBody:List Stmt→List Stmt
 | s :: _=>sBody s
 | []=>[]
noncomputable def lb6 (p:Params):List Stmt:=hBody ((bodyIn (fdIn (K06 p) 251)).drop 6)
section
variable {c:Ctx} {m:Lo} {H:Hp} {pos p1 p2 p3:Pos} {k1:Nat}
theorem Pu.div {l r:Expr} {a b:Int} (h1:Pu c l m H (.int a)) (h2:Pu c r m H (.int b)) (h0:autoParam (b≠0) auDec) (hb:autoParam (b.natAbs < 1073741824) auDec):Pu c (.BinOp l .FloorDiv r pos) m H (.int (a.fdiv b)):=fun _ h=>e_binop (h1 _ (h2 _ (o_div h h0 hb)))
theorem Pu.mod {l r:Expr} {a b:Int} (h1:Pu c l m H (.int a)) (h2:Pu c r m H (.int b)) (h0:autoParam (b≠0) auDec):Pu c (.BinOp l .Mod r pos) m H (.int (a.fmod b)):=fun _ h=>e_binop (h1 _ (h2 _ (o_mod h h0)))
theorem Pu.modN {l r:Expr} {a b:Nat} (h1:Pu c l m H (.int a)) (h2:Pu c r m H (.int b)) (h0:autoParam (((b:Nat):Int)≠0) auDec):Pu c (.BinOp l .Mod r pos) m H (.int ((a % b:Nat):Int)):=by
 have e:((a:Int)).fmod (b:Int) = ((a % b:Nat):Int):=by rw [Int.fmod_eq_emod_of_nonneg _ (Int.natCast_nonneg b)]; rfl
 exact e ▸ h1.mod h2 h0
theorem Pu.dbl {l r:Expr} {a:Nat} (h1:Pu c l m H (.int 2)) (h2:Pu c r m H (.int a)):Pu c (.BinOp l .Mult r pos) m H (.int ((2 * a:Nat):Int)):=fun Q h=>by
 refine e_binop (h1 _ (h2 _ (o_mul ?_ (.of_left (by decide)))))
 rw [show (2:Int) * (a:Int) = ((2 * a:Nat):Int) by rw [Int.natCast_mul]; rfl]
 exact h
theorem PuT.neI {l r:Expr} {a b:Int} (h1:Pu c l m H (.int a)) (h2:Pu c r m H (.int b)) (hm:autoParam (behindInMarks .NotEq r = false) auAll):PuT c (.Compare l [.NotEq] [r] pos) m H (a != b):=fun _ h=>t_cmp (h1 _ (h2 _ (c_ne (tru_bool h)))) hm
theorem cut_nat (x:Int) (n:Nat):∃ k:Nat,x.fmod ((n + 1:Nat):Int) = (k:Int)∧k≤n:=by
 have h1:=Int.fmod_nonneg_of_pos x (b:=((n + 1:Nat):Int)) (Int.natCast_pos.mpr (Nat.succ_pos n))
 have h2:=Int.fmod_lt_of_pos x (b:=((n + 1:Nat):Int)) (Int.natCast_pos.mpr (Nat.succ_pos n))
 exact ⟨(x.fmod ((n + 1:Nat):Int)).toNat,(Int.toNat_of_nonneg h1).symm,Nat.le_of_lt_succ ((Int.toNat_lt h1).mpr h2)⟩
theorem filterMap_if {α:Type} (l:List α) (g:α→Bool) (h:α→Int):(l.filterMap fun i=>if g i then some (V.int (h i)) else none) = ((l.filter g).map h).map V.int:=by
 induction l with
 | nil=>rfl
 | cons a l ih=>
  rw [List.filterMap_cons,List.filter_cons]
  cases g a with
  | false=>exact ih
  | true=>rw [if_pos rfl,if_pos rfl,List.map_cons,List.map_cons,ih]
theorem asgl_nil {c:Ctx} {m:Lo} {H:Hp} {Q:Lo→Hp→Prop} (h:Q m H):AsgL c [] [] m H Q:=h
theorem s_skipK {b r:List Stmt} {Q:Fl→Lo→Hp→Prop} {v n:Int} (lK:Lc c ("kind":Str)) (hv:m.lookup ("kind":Str) = some (.int v)) (hne:v≠n) (h:WPs c r m H Q) (hm:autoParam (behindInMarks .Eq (.Constant (.int n) k1 p1) = false) auAll):WPs c (.If (.Compare (.Name ("kind":Str) p2) [.Eq] [.Constant (.int n) k1 p1] p3) b [] pos :: r) m H Q:=
 s_cons (s1_ifP (.eqI (.nm lK hv) .one hm) (fun g=>absurd (beq_iff_eq.mp g) hne) fun _=>s_nil h)
end
end
theorem law_b0 (p:Params) (c:Ctx) (B:Base c (K06 p)) (hs:c.env.scope = (fdIn (K06 p) 251).scope) {a:A6} {m:Lo} {H:Hp} {t:Nat} {Q:Fl→Lo→Hp→Prop} (hm:m.lookup ("deeds":Str) = some (.ref a.dz)) (hz:(a.dz,O.list (a.dl.map .int))∈H) (ht:t < a.dl.length) (hl:a.dl.length≤74)
  (hQ:WPs c ((lb6 p).drop 2) (("kind",.int ((a.dl.getD t 0).fmod 5)) :: ("x",.int (a.dl.getD t 0)) :: ("turn",.int (t:Nat)) :: m) H Q):WPs c (lb6 p) (("turn",.int (t:Nat)) :: m) H Q:=by
 have hn:=congrArg Scope.names hs
 conv at hn=>rhs; whnf
 have lD:Lc c "deeds":=lc_of hn (by kernel_rfl)
 have lT:Lc c "turn":=lc_of hn (by kernel_rfl)
 have lX:Lc c "x":=lc_of hn (by kernel_rfl)
 have lK:Lc c "kind":=lc_of hn (by kernel_rfl)
 refine s_cons (s1_assignP lX (Pu.at (k:=t) (.nm lD ((look_skip (by decide)).trans hm)) (.n lT) (.mem hz) ht (Nat.le_trans hl (by decide)) (by intro _ _; with_unfolding_all rfl)) ?_)
 exact s_cons (s1_assignP lK (.mod (.n lX) .one) hQ)
theorem law_b2 (p:Params) (c:Ctx) (B:Base c (K06 p)) (hs:c.env.scope = (fdIn (K06 p) 251).scope) {a:A6} {che:Addr} (hcs:c.env.cells = cs6 a che) {s:S6} {R:Hp} {t:Nat} {x:Int} {Q:Fl→Lo→Hp→Prop} (ok:Ok6 c a s R)
  (hQ:∀ s,Ok6 c a s R→WPs c ((lb6 p).drop 3) (m6 a s t x) (H6 a s R) Q):WPs c ((lb6 p).drop 2) (m6 a s t x) (H6 a s R) Q:=by
 have hn:=congrArg Scope.names hs
 conv at hn=>rhs; whnf
 have gl:Glob c "len" (.bi "len"):=B.len hn (by kernel_rfl)
 have lT:Lc c "turn":=lc_of hn (by kernel_rfl)
 have lX:Lc c "x":=lc_of hn (by kernel_rfl)
 have lK:Lc c "kind":=lc_of hn (by kernel_rfl)
 have lLo:Ce c "log" a.clo:=ce_of hn hcs (by kernel_rfl) (by kernel_rfl)
 have hz:=ok.sz.z
 refine s_cons (s1_ifP (.and2 (.eqI (.n lK) .one) fun _=>.ltN (b:=60) (.lenM gl (.cel lLo (.mem (.tail _ (.tail _ (.tail _ (.tail _ (.head _))))))) (.mem (.tail _ (.tail _ (.head _)))) (Nat.le_trans hz (by decide)) (hE:=fun _ h=>e_call h)) .one) (fun g=>?_) fun _=>s_nil (hQ s ok))
 have hlt:s.lg.length < 60:=by
  rw [Bool.and_eq_true] at g
  exact of_decide_eq_true g.2
 refine s_cons (s1_expr (e_method (Pu.cel lLo (.mem (.tail _ (.tail _ (.tail _ (.tail _ (.head _)))))) _ ⟨_,_,gm_list (.mem (.tail _ (.tail _ (.head _)))) PySem.F.slot_list_extend PySem.F.type_list_extend,items_cons (e_slice2 (e_list (items_cons ((Pu.mod (Pu.div (.n lX) .one) .one) _ (items_cons ((Pu.mod (Pu.div (.n lX) .one) .one) _ (items_cons ((Pu.n lX) _ (items_nil ⟨Nat.le_of_ble_eq_true rfl,fun y1=>?_⟩)))))))))⟩)))
 show WPe c _ _ _ _
 refine Pu.addN (a:=1) .one (.modN (b:=3) (.n lT) .one) _ ⟨_,rfl,y1,[x.fdiv 5 |>.fmod 3,x.fdiv 15 |>.fmod 3,x].map V.int,rfl,.mem mS,by simp,fun y2=>items_nil ⟨keep_bi,k_extend (.mem mS) (.tail (.tail (.tail (.tail (.head _))))) (s_nil ?_) ?_⟩⟩
 ·rw [pick_upto,← List.map_take,← List.map_append]
  generalize he:([x.fdiv 5 |>.fmod 3,x.fdiv 15 |>.fmod 3,x].take (1 + t % 3)) = e
  have hel:e.length≤3:=by rw [← he,List.length_take]; exact Nat.min_le_right _ _
  refine WPs.less (Less.heap (.cons _ (.cons _ (.refl _)))) ?_
  have e1:(s.lg ++ e).take s.rl = s.lg.take s.rl:=List.take_append_of_le_length ok.sz.rz
  have hl2:(s.lg ++ e).length = s.lg.length + e.length:=List.length_append
  show WPs c _ _ ((a.x,.inst 242 a.d) :: (a.d,.ns (f6 a.J s)) :: (s.la,.list ((s.lg ++ e).map .int)) :: (s.ra,.list ((s.lg.take s.rl).map .int)) :: (a.clo,.cell (some (.ref s.la))) :: (a.cre,.cell (some (.ref s.ra))) :: (a.cin,.cell (some (.int s.il))) :: (a.cp,.cell s.pv) :: (220,.obj (tabObj s.ps)) :: R) _
  rw [← e1]
  exact hQ { s with lg:=s.lg ++ e } ⟨ok.bs,⟨by rw [hl2]; exact as2 2 (.t Z0 (.n 60)) (.l Z1 (.n 3)) (.l (.a Z0 Z1) (.n 62)) [_,_] hlt hel,by rw [hl2]; exact Nat.lt_of_lt_of_le ok.sz.z0 (Nat.le_add_right _ _),by rw [hl2]; exact Nat.le_trans ok.sz.rz (Nat.le_add_right _ _),ok.sz.tri⟩,ok.ch.grow e,ok.nt.grow (by rw [hl2]; exact Nat.le_add_right _ _),ok.ct.grow e⟩
 ·rw [pick_upto,← List.map_take,List.length_map,List.length_map,List.length_take]
  have:min (1 + t % 3) [x.fdiv 5 |>.fmod 3,x.fdiv 15 |>.fmod 3,x].length≤3:=Nat.min_le_right _ _
  exact as2 3 (.t Z0 (.n 60)) (.l (.mn (.a N1 Z1) Z2) (.n 3)) (.l (.a Z0 (.mn (.a N1 Z1) Z2)) (.n 1000000)) [_,_,_] hlt this
theorem mix_perm {α:Type} {P s1 G s2 R:List α}:List.Perm (s1 ++ (s2 ++ (P ++ (G ++ R)))) (P ++ (s1 ++ (G ++ (s2 ++ R)))):=
 ((List.perm_append_comm_assoc s2 P (G ++ R)).append_left s1).trans ((List.perm_append_comm_assoc s1 P _).trans (((List.perm_append_comm_assoc s2 G R).append_left s1).append_left P))
theorem law_b3 (p:Params) (c:Ctx) (hfu:c.fuel = 70) (B:Base c (K06 p)) (hs:c.env.scope = (fdIn (K06 p) 251).scope) {a:A6} {che:Addr} (hcs:c.env.cells = cs6 a che) {s:S6} {R:Hp} {t:Nat} {x:Int} {Q:Fl→Lo→Hp→Prop}
  (hQ:WPs c ((lb6 p).drop 4) (m6 a s t x) (H6 a s R) Q):WPs c ((lb6 p).drop 3) (m6 a s t x) (H6 a s R) Q:=by
 have hn:=congrArg Scope.names hs
 conv at hn=>rhs; whnf
 have hC:=cls02 p
 have lMa:Lc c "matcher":=lc_of hn (by kernel_rfl)
 have lK:Lc c "kind":=lc_of hn (by kernel_rfl)
 have lLo:Ce c "log" a.clo:=ce_of hn hcs (by kernel_rfl) (by kernel_rfl)
 have lRe:Ce c "reader" a.cre:=ce_of hn hcs (by kernel_rfl) (by kernel_rfl)
 refine s_cons (s1_ifP (.eqI (.n lK) .one) (fun g=>?_) fun _=>s_nil hQ)
 exact s_cons (s1_expr (e_method ((Pu.n lMa) _ ⟨_,_,gm_inst (K:=K06 p) (C:=242) (f:=167) B hC (by kernel_rfl) (by kernel_rfl) (.mem (.head _)) (.mem (.tail _ (.head _))) rfl,items_cons (Pu.cel lRe (.mem (.tail _ (.tail _ (.tail _ (.tail _ (.tail _ (.head _))))))) _ (items_cons (Pu.cel lLo (.mem (.tail _ (.tail _ (.tail _ (.tail _ (.head _)))))) _ (items_nil ⟨keep_K B (by kernel_rfl),CalC.cal (seqss_cal p (k:=68) hfu B (.head _) (.tail _ (.head _)) rfl rfl rfl rfl (s_nil hQ))⟩))))⟩)))
theorem law_b4y (p:Params) (c:Ctx) (hfu:c.fuel = 70) (B:Base c (K06 p)) (hs:c.env.scope = (fdIn (K06 p) 251).scope) {a:A6} {che:Addr} (hcs:c.env.cells = cs6 a che) {s:S6} {R:Hp} {t:Nat} {x:Int} {Q:Fl→Lo→Hp→Prop} {m:Lo} {ci:Option V}
  (hm:LessM m (mw6 a t x)) (hk:x.fmod 5 = 2) (bs:Bs6 c a R) (sz:Sz6 s) (hQ:∀ s R,Ok6 c a s R→WPs c ((lb6 p).drop 5) (m6 a s t x) (H6 a s R) Q):WPs c ((lb6 p).drop 4) m (Hw6 a s ci R) Q:=by
 have hn:=congrArg Scope.names hs
 conv at hn=>rhs; whnf
 have hC:=cls02 p
 have gl:Glob c "len" (.bi "len"):=B.len hn (by kernel_rfl)
 have lMa:Lc c "matcher":=lc_of hn (by kernel_rfl)
 have lK:Lc c "kind":=lc_of hn (by kernel_rfl)
 have lNo:Lc c "noted":=lc_of hn (by kernel_rfl)
 have lCo:Lc c "counted":=lc_of hn (by kernel_rfl)
 have lLo:Ce c "log" a.clo:=ce_of hn hcs (by kernel_rfl) (by kernel_rfl)
 have lIn:Ce c "indexed" a.cin:=ce_of hn hcs (by kernel_rfl) (by kernel_rfl)
 have kLo:c.env.kindOf "log" = some .cell:=kind_of hn (by decide +kernel)
 have kIn:c.env.kindOf "indexed" = some .cell:=kind_of hn (by decide +kernel)
 have hz:s.lg.length≤1000:=Nat.le_trans sz.z (by decide)
 refine WPs.loc (m':=mw6 a t x) ?_ hm
 refine s_cons (s1_ifP (.eqI (.n lK) .one) (fun _=>?_) fun g=>absurd hk (by simpa using g))
 refine s_cons (s1_assign (e_whole (Pu.cel lLo (.mem (.tail _ (.tail _ (.tail _ (.tail _ (.head _))))))) (.mem (.tail _ (.tail _ (.head _)))) hz (fun ln=>sto_ce kLo lLo (.tail (.tail (.tail (.tail (.tail (.head _)))))) ?_)))
 refine WPs.less (Less.perm (List.perm_middle (l₁:=[(a.x,O.inst 242 a.d),(a.d,O.ns (f6 a.J s))]))) ?_
 refine s_cons (s1_expr (e_method ((Pu.n lMa) _ ⟨_,_,gm_inst (K:=K06 p) (C:=242) (f:=181) B hC (by kernel_rfl) (by kernel_rfl) (.mem (.head _)) (.mem (.tail _ (.head _))) rfl,items_cons (Pu.cel lLo (.mem (.tail _ (.tail _ (.tail _ (.tail _ (.tail _ (.head _))))))) _ (items_nil ⟨keep_K B (by kernel_rfl),Cal.nodup fun nd=>CalC.cal (seq2_cal p (k:=68) hfu B (ub:=.ref s.la) (bs:=s.lg.map IS.i) rfl rfl (.lists (.head _) (.tail _ (.head _)) (nd_ne (List.nodup_cons.mp (List.nodup_cons.mp nd).2).2 (.head _))) rfl rfl bs.bi (bs.jk 67) (fun q hq=>.tail _ (.tail _ (.tail _ (.tail _ (.tail _ (.tail _ (.tail _ (.tail _ (bs.jw q hq))))))))) (by rw [isV]; exact .head _) rfl (by simp) (by rw [List.length_map]; exact hz) fun D S S2 z1 z2 ep G hG=>?_)⟩))⟩)))
 show WPs c _ _ _ _
 refine WPs.less ((Less.perm (mix_perm (P:=[_,_,_]) (s1:=[_,_]) (G:=gL G) (s2:=[_,_,_,_,_,_,_,_]) (R:=R))).trans (Less.heap (.cons_cons _ (.cons_cons _ (.cons_cons _ (.cons _ (.refl _))))))) ?_
 refine s_cons (s1_unpack ((Pu.tup (xs:=[.int (s.lg.length:Nat),.none,.none]) (.cons (.lenM gl (.cel lLo (.mem (.tail _ (.tail _ (.tail _ (.tail _ (.head _))))))) (.mem (.tail _ (.tail _ (.head _)))) hz (hE:=fun _ h=>e_call h)) (.cons .none (.cons .none .nil))) (by simp)) _ (asg_tuple (asg_name (sto_ce kIn lIn (.tail (.tail (.tail (.tail (.tail (.tail (.head _))))))) (asg_name (sto_local lNo.1 (asg_name (sto_local lCo.1 ?_)))))))) (hw:=swap_of hn (by kernel_rfl)))
 refine asgl_nil (s_nil ?_)
 show WPs c _ _ _ _
 refine WPs.to (To.ns (NsEq.eq (ks:=mKeys) (fs':=f6 a.J { s with il:=s.lg.length,nt:=none,ct:=none,la:=ln,D:=D,S:=S,S2:=S2,mb:=.none,op:=.none,fc:=.none }) ⟨by kernel_rfl,by kernel_rfl,by kernel_rfl⟩)) ?_
 refine WPs.loc (hQ { s with il:=s.lg.length,nt:=none,ct:=none,la:=ln,D:=D,S:=S,S2:=S2,mb:=.none,op:=.none,fc:=.none } _ ⟨bs.mono fun q hq=>.tail _ (.tail _ (.tail _ (List.mem_append_right [] (List.mem_append_right _ hq)))),⟨sz.z,sz.z0,sz.rz,sz.tri⟩,⟨Nat.le_refl _,ep,z1,G,?_,?_,.tail _ (.head _),fun q hq=>.tail _ (.tail _ (.tail _ (List.mem_append_right [] (List.mem_append_left _ hq))))⟩,.inl ⟨rfl,rfl,rfl⟩,.inl ⟨rfl,rfl⟩⟩) .k
 ·rw [List.take_length]; exact hG
 ·rw [List.take_length]; exact .tail _ (.tail _ (.head _))
theorem law_b4 (p:Params) (c:Ctx) (hfu:c.fuel = 70) (B:Base c (K06 p)) (hs:c.env.scope = (fdIn (K06 p) 251).scope) {a:A6} {che:Addr} (hcs:c.env.cells = cs6 a che) {s:S6} {R:Hp} {t:Nat} {x:Int} {Q:Fl→Lo→Hp→Prop}
  (ok:Ok6 c a s R) (hQ:∀ s R,Ok6 c a s R→WPs c ((lb6 p).drop 5) (m6 a s t x) (H6 a s R) Q):WPs c ((lb6 p).drop 4) (m6 a s t x) (H6 a s R) Q:=by
 have hn:=congrArg Scope.names hs
 conv at hn=>rhs; whnf
 by_cases h:x.fmod 5 = 2
 ·exact law_b4y p c hfu B hs hcs .k h ok.bs ok.sz hQ
 ·exact s_skipK (lc_of hn (by kernel_rfl)) rfl h (hQ s R ok) (by with_unfolding_all rfl)
theorem law_b5 (p:Params) (c:Ctx) (hfu:c.fuel = 70) (B:Base c (K06 p)) (hs:c.env.scope = (fdIn (K06 p) 251).scope) {a:A6} {che:Addr} (hcs:c.env.cells = cs6 a che) {s:S6} {R:Hp} {t:Nat} {x:Int} {Q:Fl→Lo→Hp→Prop}
  (ok:Ok6 c a s R) (hQ:∀ s R,Ok6 c a s R→WPs c ((lb6 p).drop 6) (m6 a s t x) (H6 a s R) Q):WPs c ((lb6 p).drop 5) (m6 a s t x) (H6 a s R) Q:=by
 have hn:=congrArg Scope.names hs
 conv at hn=>rhs; whnf
 have hC:=cls02 p
 have gl:Glob c "len" (.bi "len"):=B.len hn (by kernel_rfl)
 have lMa:Lc c "matcher":=lc_of hn (by kernel_rfl)
 have lK:Lc c "kind":=lc_of hn (by kernel_rfl)
 have lX:Lc c "x":=lc_of hn (by kernel_rfl)
 have lNo:Lc c "noted":=lc_of hn (by kernel_rfl)
 have lLo:Ce c "log" a.clo:=ce_of hn hcs (by kernel_rfl) (by kernel_rfl)
 have lRe:Ce c "reader" a.cre:=ce_of hn hcs (by kernel_rfl) (by kernel_rfl)
 have kRe:c.env.kindOf "reader" = some .cell:=kind_of hn (by decide +kernel)
 have hz:s.lg.length≤1000:=Nat.le_trans ok.sz.z (by decide)
 obtain ⟨k,hk,hkl⟩:=cut_nat (x.fdiv 5) s.lg.length
 refine s_cons (s1_ifP (.eqI (.n lK) .one) (fun _=>?_) fun _=>s_nil (hQ s R ok))
 refine s_cons (s1_assign (e_upto (n:=k) (Pu.cel lLo (.mem (.tail _ (.tail _ (.tail _ (.tail _ (.head _))))))) ((Pu.mod (.div (.n lX) .one) (.succ (.lenM gl (.cel lLo (.mem (.tail _ (.tail _ (.tail _ (.tail _ (.head _))))))) (.mem (.tail _ (.tail _ (.head _)))) hz (hE:=fun _ h=>e_call h))) (in_ne0 (Nat.succ_pos _))).as (congrArg V.int hk)) (.mem (.tail _ (.tail _ (.head _)))) hz (fun rn=>sto_ce kRe lRe (.tail (.tail (.tail (.tail (.tail (.tail (.head _))))))) ?_)))
 refine WPs.less (Less.perm (List.perm_middle (l₁:=[(a.x,O.inst 242 a.d),(a.d,O.ns (f6 a.J s))]))) ?_
 refine s_cons (s1_expr (e_method ((Pu.n lMa) _ ⟨_,_,gm_inst (K:=K06 p) (C:=242) (f:=167) B hC (by kernel_rfl) (by kernel_rfl) (.mem (.head _)) (.mem (.tail _ (.head _))) rfl,items_cons (Pu.cel lRe (.mem (.tail _ (.tail _ (.tail _ (.tail _ (.tail _ (.tail _ (.head _)))))))) _ (items_cons (Pu.cel lLo (.mem (.tail _ (.tail _ (.tail _ (.tail _ (.tail _ (.head _))))))) _ (items_nil ⟨keep_K B (by kernel_rfl),Cal.nodup fun nd=>CalC.cal (seqsn_cal p (k:=68) hfu B (ua:=.ref s.ra) rfl rfl (.lists (.head _) (.tail _ (.tail _ (.head _))) (nd_ne (List.nodup_cons.mp (List.nodup_cons.mp nd).2).2 (.tail _ (.head _)))) (by simp) rfl rfl rfl ?_)⟩))))⟩)))
 show WPs c _ _ _ _
 refine s_cons (s1_assignP lNo .none (s_nil ?_))
 show WPs c _ _ _ _
 refine WPs.less ((Less.heap (.cons_cons _ (.cons_cons _ (.cons_cons _ (.cons_cons _ (.cons _ (.refl _))))))).trans (Less.perm (.cons _ (.cons _ (.swap _ _ _))))) ?_
 refine WPs.to (To.ns (NsEq.eq (ks:=mKeys) (fs':=f6 a.J { s with rl:=k,nt:=none,ra:=rn,mb:=.none,op:=.none }) ⟨by kernel_rfl,by kernel_rfl,by kernel_rfl⟩)) ?_
 exact WPs.loc (hQ { s with rl:=k,nt:=none,ra:=rn,mb:=.none,op:=.none } _ ⟨ok.bs,⟨ok.sz.z,ok.sz.z0,hkl,ok.sz.tri⟩,ok.ch,.inl ⟨rfl,rfl,rfl⟩,ok.ct⟩) .k
theorem law_b6 (p:Params) (c:Ctx) (B:Base c (K06 p)) (hs:c.env.scope = (fdIn (K06 p) 251).scope) {a:A6} {che:Addr} (hcs:c.env.cells = cs6 a che) {s:S6} {R:Hp} {t:Nat} {x:Int} {Q:Fl→Lo→Hp→Prop}
  (ok:Ok6 c a s R) (hQ:∀ s,Ok6 c a s R→WPs c ((lb6 p).drop 7) (m6 a s t x) (H6 a s R) Q):WPs c ((lb6 p).drop 6) (m6 a s t x) (H6 a s R) Q:=by
 have hn:=congrArg Scope.names hs
 conv at hn=>rhs; whnf
 have gl:Glob c "len" (.bi "len"):=B.len hn (by kernel_rfl)
 have lK:Lc c "kind":=lc_of hn (by kernel_rfl)
 have lLo:Ce c "log" a.clo:=ce_of hn hcs (by kernel_rfl) (by kernel_rfl)
 have lRe:Ce c "reader" a.cre:=ce_of hn hcs (by kernel_rfl) (by kernel_rfl)
 have hz:s.lg.length≤1000:=Nat.le_trans ok.sz.z (by decide)
 have hr:=rd_len ok.sz
 have hrz:(rd6 s).length≤1000:=by rw [hr]; exact Nat.le_trans ok.sz.rz hz
 refine s_cons (s1_ifP (.eqI (.n lK) .one) (fun _=>?_) fun _=>s_nil (hQ s ok))
 refine s_cons (s1_expr (e_method (Pu.cel lRe (.mem (.tail _ (.tail _ (.tail _ (.tail _ (.tail _ (.head _))))))) _ ⟨_,_,gm_list (.mem (.tail _ (.tail _ (.tail _ (.head _))))) PySem.F.slot_list_extend PySem.F.type_list_extend,items_cons (e_from (n:=s.rl) (Pu.cel lLo (.mem (.tail _ (.tail _ (.tail _ (.tail _ (.head _))))))) ((Pu.lenM gl (.cel lRe (.mem (.tail _ (.tail _ (.tail _ (.tail _ (.tail _ (.head _)))))))) (.mem (.tail _ (.tail _ (.tail _ (.head _))))) hrz (hE:=fun _ h=>e_call h)).as (by rw [hr])) (.mem (.tail _ (.tail _ (.head _)))) hz (fun y=>items_nil ⟨keep_bi,k_extend (.mem (.head _)) (.tail (.tail (.tail (.tail (.head _))))) (s_nil ?_) ?_⟩))⟩)))
 ·rw [← List.map_append,List.take_append_drop]
  refine WPs.drop1 ?_
  show WPs c _ _ ((a.x,.inst 242 a.d) :: (a.d,.ns (f6 a.J s)) :: (s.la,.list (s.lg.map .int)) :: (s.ra,.list (s.lg.map .int)) :: (a.clo,.cell (some (.ref s.la))) :: (a.cre,.cell (some (.ref s.ra))) :: (a.cin,.cell (some (.int s.il))) :: (a.cp,.cell s.pv) :: (220,.obj (tabObj s.ps)) :: R) _
  have:=hQ { s with rl:=s.lg.length } ⟨ok.bs,⟨ok.sz.z,ok.sz.z0,Nat.le_refl _,ok.sz.tri⟩,ok.ch,ok.nt,ok.ct⟩
  unfold H6 Hw6 T6 rd6 at this
  rw [List.take_length] at this
  exact this
 ·rw [List.length_map,List.length_map,hr,List.length_drop]
  have:=ok.sz.z; have:=ok.sz.rz
  exact as2 2 (.l Z0 (.n 1000)) (.l Z1 Z0) (.l (.a Z1 (.s Z0 Z1)) (.n 1000000)) [_,_] hz this
theorem law_b7 (p:Params) (c:Ctx) (B:Base c (K06 p)) (hs:c.env.scope = (fdIn (K06 p) 251).scope) {a:A6} {che:Addr} (hcs:c.env.cells = cs6 a che) {s:S6} {R:Hp} {t:Nat} {x:Int} {Q:Fl→Lo→Hp→Prop}
  (ok:Ok6 c a s R) (hQ:WPs c ((lb6 p).drop 8) (mx6 a s t x) (H6 a s R) Q):WPs c ((lb6 p).drop 7) (m6 a s t x) (H6 a s R) Q:=by
 have hn:=congrArg Scope.names hs
 conv at hn=>rhs; whnf
 have gl:Glob c "len" (.bi "len"):=B.len hn (by kernel_rfl)
 have lW:Lc c "whole":=lc_of hn (by kernel_rfl)
 have lLo:Ce c "log" a.clo:=ce_of hn hcs (by kernel_rfl) (by kernel_rfl)
 have lRe:Ce c "reader" a.cre:=ce_of hn hcs (by kernel_rfl) (by kernel_rfl)
 have hz:s.lg.length≤1000:=Nat.le_trans ok.sz.z (by decide)
 have hr:=rd_len ok.sz
 have hrz:(rd6 s).length≤1000:=by rw [hr]; exact Nat.le_trans ok.sz.rz hz
 exact s_cons (s1_assignP lW ((Pu.addN (.lenM gl (.cel lRe (.mem (.tail _ (.tail _ (.tail _ (.tail _ (.tail _ (.head _)))))))) (.mem (.tail _ (.tail _ (.tail _ (.head _))))) hrz (hE:=fun _ h=>e_call h)) (.lenM gl (.cel lLo (.mem (.tail _ (.tail _ (.tail _ (.tail _ (.head _))))))) (.mem (.tail _ (.tail _ (.head _)))) hz (hE:=fun _ h=>e_call h))).as (by rw [hr])) (WPs.loc hQ .k))
noncomputable def ib6 (p:Params):List Stmt:=hBody ((lb6 p).drop 8)
noncomputable abbrev blA (k:Nat):List Tri:=if k = 0 then [] else [(0,0,k)]
noncomputable abbrev Pm (R:Hp) (mb:At) (rl ll k n:Nat):Prop:=(mb = .none∧k = rl∧n = ll) ∨ ∃ r,mb = .ref r∧(r,O.list ((blkL k n).map (triV 135)))∈R
noncomputable abbrev Po (R:Hp) (op:At) (k n:Nat):Prop:=op = .none ∨ ∃ an,op = .ref an∧(an,O.list ((codL k n).map (V.tup .none)))∈R
noncomputable abbrev mk6 (a:A6) (s:S6) (t:Nat) (x:Int) (k n:Nat):Lo:=("k",.int (k:Nat)) :: ("n",.int (n:Nat)) :: mx6 a s t x
noncomputable abbrev mc6 (a:A6) (s:S6) (t:Nat) (x:Int) (k n:Nat) (bl cl:Addr):Lo:=("codes",.ref cl) :: ("blocks",.ref bl) :: mk6 a s t x k n
theorem law_i0 (p:Params) (c:Ctx) (B:Base c (K06 p)) (hs:c.env.scope = (fdIn (K06 p) 251).scope) {a:A6} {che:Addr} (hcs:c.env.cells = cs6 a che) {s:S6} {R:Hp} {t:Nat} {x:Int} {Q:Fl→Lo→Hp→Prop}
  (ok:Ok6 c a s R) (hQ:∀ k n,k≤n→n≤s.lg.length→Pm R s.mb s.rl s.lg.length k n→Po R s.op k n→WPs c ((ib6 p).drop 2) (mk6 a { s with nt:=some (k,n) } t x k n) (H6 a s R) Q):WPs c (ib6 p) (mx6 a s t x) (H6 a s R) Q:=by
 have hn:=congrArg Scope.names hs
 conv at hn=>rhs; whnf
 have gl:Glob c "len" (.bi "len"):=B.len hn (by kernel_rfl)
 have lNo:Lc c "noted":=lc_of hn (by kernel_rfl)
 have lK:Lc c "k":=lc_of hn (by kernel_rfl)
 have lN:Lc c "n":=lc_of hn (by kernel_rfl)
 have lLo:Ce c "log" a.clo:=ce_of hn hcs (by kernel_rfl) (by kernel_rfl)
 have lRe:Ce c "reader" a.cre:=ce_of hn hcs (by kernel_rfl) (by kernel_rfl)
 have hz:s.lg.length≤1000:=Nat.le_trans ok.sz.z (by decide)
 have hr:=rd_len ok.sz
 have hrz:(rd6 s).length≤1000:=by rw [hr]; exact Nat.le_trans ok.sz.rz hz
 have main:∃ k n,(k≤n∧n≤s.lg.length∧Pm R s.mb s.rl s.lg.length k n∧Po R s.op k n)∧∀ Q',WPs c ((ib6 p).drop 1) (mx6 a { s with nt:=some (k,n) } t x) (H6 a s R) Q'→WPs c (ib6 p) (mx6 a s t x) (H6 a s R) Q':=by
  rcases ok.nt with ⟨e1,e2,e3⟩ | ⟨k,n,e1,h1,h2,r,an,h3,h4,h5,h6⟩
  ·have e:ntV s.nt = .none:=by rw [e1]; rfl
   refine ⟨s.rl,s.lg.length,⟨ok.sz.rz,Nat.le_refl _,.inl ⟨e2,rfl,rfl⟩,.inl e3⟩,fun Q' hQ'=>?_⟩
   refine s_cons (s1_ifP (.isNone (Pu.nm lNo (congrArg some e)) .nn) (fun _=>?_) fun h=>nomatch h)
   exact s_cons (s1_assignP lNo (.tup (xs:=[.int (s.rl:Nat),.int (s.lg.length:Nat)]) (.cons ((Pu.lenM gl (.cel lRe (.mem (.tail _ (.tail _ (.tail _ (.tail _ (.tail _ (.head _)))))))) (.mem (.tail _ (.tail _ (.tail _ (.head _))))) hrz (hE:=fun _ h=>e_call h)).as (by rw [hr])) (.cons (.lenM gl (.cel lLo (.mem (.tail _ (.tail _ (.tail _ (.tail _ (.head _))))))) (.mem (.tail _ (.tail _ (.head _)))) hz (hE:=fun _ h=>e_call h)) .nil)) (by simp)) (s_nil (WPs.loc hQ' .k)))
  ·have e:ntV s.nt = .tup .none [.int (k:Nat),.int (n:Nat)]:=by rw [e1]; rfl
   refine ⟨k,n,⟨h1,h2,.inr ⟨r,h3,h5⟩,.inr ⟨an,h4,h6⟩⟩,fun Q' hQ'=>?_⟩
   rw [show { s with nt:=some (k,n) } = s by rw [← e1]] at hQ'
   exact s_cons (s1_ifP (.tupIsNone (Pu.nm lNo (congrArg some e)) (by with_unfolding_all rfl)) (fun h=>nomatch h) fun _=>s_nil hQ')
 obtain ⟨k,n,⟨h1,h2,h3,h4⟩,red⟩:=main
 refine red _ ?_
 refine s_cons (s1_unpack ((Pu.n lNo) _ (asg_tuple (xs:=[.int (k:Nat),.int (n:Nat)]) (asg_name (sto_local lK.1 (asg_name (sto_local lN.1 (asgl_nil ?_))))))) (hw:=swap_of hn (by kernel_rfl)))
 exact WPs.loc (hQ k n h1 h2 h3 h4) .k
theorem law_i2 (p:Params) (c:Ctx) (B:Base c (K06 p)) (hs:c.env.scope = (fdIn (K06 p) 251).scope) {a:A6} {s s':S6} {R:Hp} {t:Nat} {x:Int} {k n:Nat} {Q:Fl→Lo→Hp→Prop}
  (hQ:∀ bl cl,WPs c ((ib6 p).drop 5) (mc6 a s' t x k n bl cl) (H6 a s ((cl,.list ((codL k n).map (V.tup .none))) :: (bl,.list ((blA k).map naV)) :: R)) Q):WPs c ((ib6 p).drop 2) (mk6 a s' t x k n) (H6 a s R) Q:=by
 have hn:=congrArg Scope.names hs
 conv at hn=>rhs; whnf
 have lK:Lc c "k":=lc_of hn (by kernel_rfl)
 have lN:Lc c "n":=lc_of hn (by kernel_rfl)
 have lBl:Lc c "blocks":=lc_of hn (by kernel_rfl)
 have lCo:Lc c "codes":=lc_of hn (by kernel_rfl)
 refine s_cons (s1_assign (e_ifexp ((PuT.gtN (b:=0) (.n lK) .one) _ (if_b (fun g=>e_list (items_cons ((Pu.tup (xs:=[.int (0:Nat),.int (0:Nat),.int (k:Nat)]) (.cons .one (.cons .one (.cons (.n lK) .nil))) (by simp)) _ (items_nil ⟨Nat.le_of_ble_eq_true rfl,fun bl=>sto_local lBl.1 ?_⟩)))) fun g=>e_list (items_nil ⟨Nat.le_of_ble_eq_true rfl,fun bl=>sto_local lBl.1 ?_⟩)))))
 ·have g':0 < k:=of_decide_eq_true g
  have hQ':=fun cl=>hQ bl cl
  unfold codL blA at hQ'
  rw [if_pos g',if_neg (Nat.pos_iff_ne_zero.mp g')] at hQ'
  refine WPs.sink ?_
  refine s_cons (s1_assign (e_ifexp ((PuT.gtN (b:=0) (.n lK) .one) _ (if_b (fun g=>e_list (items_cons ((Pu.tup (xs:=[.str "equal",.int (0:Nat),.int (k:Nat),.int (0:Nat),.int (k:Nat)]) (.cons .str (.cons .one (.cons (.n lK) (.cons .one (.cons (.n lK) .nil))))) (by simp)) _ (items_nil ⟨Nat.le_of_ble_eq_true rfl,fun cl=>sto_local lCo.1 ?_⟩)))) fun q=>absurd g (by rw [q]; decide)))))
  refine s_cons (s1_ifP (.ltN (.n lK) (.n lN)) (fun q=>?_) fun q=>?_)
  ·rw [if_pos (of_decide_eq_true q)] at hQ'
   exact s_cons (s1_append (Pu.n lCo) (.tup (xs:=[.str "insert",.int (k:Nat),.int (k:Nat),.int (k:Nat),.int (n:Nat)]) (.cons .str (.cons (.n lK) (.cons (.n lK) (.cons (.n lK) (.cons (.n lN) .nil))))) (by simp)) (.mem (.head _)) (.head _) (by simp) (s_nil (WPs.sink (WPs.loc (hQ' cl) .k))) (hE:=fun _ h=>e_method h))
  ·rw [if_neg (of_decide_eq_false q)] at hQ'
   exact s_nil (WPs.sink (WPs.loc (hQ' cl) .k))
 ·have g':¬ 0 < k:=of_decide_eq_false g
  have hQ':=fun cl=>hQ bl cl
  unfold codL blA at hQ'
  rw [if_neg g',if_pos (Nat.eq_zero_of_not_pos g')] at hQ'
  refine WPs.sink ?_
  refine s_cons (s1_assign (e_ifexp ((PuT.gtN (b:=0) (.n lK) .one) _ (if_b (fun q=>absurd g (by rw [q]; decide)) fun _=>e_list (items_nil ⟨Nat.le_of_ble_eq_true rfl,fun cl=>sto_local lCo.1 ?_⟩)))))
  refine s_cons (s1_ifP (.ltN (.n lK) (.n lN)) (fun q=>?_) fun q=>?_)
  ·rw [if_pos (of_decide_eq_true q)] at hQ'
   exact s_cons (s1_append (Pu.n lCo) (.tup (xs:=[.str "insert",.int (k:Nat),.int (k:Nat),.int (k:Nat),.int (n:Nat)]) (.cons .str (.cons (.n lK) (.cons (.n lK) (.cons (.n lK) (.cons (.n lN) .nil))))) (by simp)) (.mem (.head _)) (.head _) (by simp) (s_nil (WPs.sink (WPs.loc (hQ' cl) .k))) (hE:=fun _ h=>e_method h))
  ·rw [if_neg (of_decide_eq_false q)] at hQ'
   exact s_nil (WPs.sink (WPs.loc (hQ' cl) .k))
theorem in6 {a:A6} {s:S6} {ci:Option V} {R:Hp} {q:Addr × O} (h:q∈R):q∈Hw6 a s ci R:=.tail _ (.tail _ (.tail _ (.tail _ (.tail _ (.tail _ (.tail _ (.tail _ (.tail _ h))))))))
noncomputable def asNa:V→Option V
 | .tup _ [.int x,.int y,.int z]=>some (.tup .none [.int x,.int y,.int z])
 | _=>none
theorem asNa_all (L:List Tri):(L.map (triV 135)).filterMap asNa = L.map naV:=by
 rw [List.filterMap_map,← List.filterMap_eq_map]; rfl
section
variable (p:Params) {c:Ctx} {a:A6} {s:S6} {R:Hp} {k n:Nat} {m:Lo} {Q:V→Lo→Hp→Prop} {p1 p2 p3:Pos}
theorem gmb_E (hfu:c.fuel = 70) (B:Base c (K06 p)) (lMa:Lc c "matcher") (sz:Sz6 s) (ch:Ch6 R s.lg s.il s.D s.S a.js) (pm:Pm R s.mb s.rl s.lg.length k n) (hm:m.lookup ("matcher":Str) = some (.ref a.x))
  (h:∀ r R',(∀ q∈R,q∈R')→(r,O.list ((blkL k n).map (triV 135)))∈R'→Q (.ref r) m (H6 a { s with mb:=.ref r } R')) (hE:Meth c (.Name ("matcher":Str) p1) ("get_matching_blocks":Str) p2 [] p3):WPe c (.Call (.Attribute (.Name ("matcher":Str) p1) ("get_matching_blocks":Str) p2) [] [] p3) m (H6 a s R) Q:=by
 have hC:=cls02 p
 have hz:s.lg.length≤1000:=Nat.le_trans sz.z (by decide)
 have hrz:(rd6 s).length≤1000:=by rw [rd_len sz]; exact Nat.le_trans sz.rz hz
 rcases pm with ⟨e1,rfl,rfl⟩ | ⟨r,e1,hr⟩
 ·obtain ⟨hil,ep,z,G,hG,hD,hS,hgL⟩:=ch
  refine WPe.postT (hE _ _ _ (Pu.nm lMa hm _ ⟨_,_,gm_inst (K:=K06 p) (C:=242) (f:=203) B hC (by kernel_rfl) (by kernel_rfl) (.mem (.head _)) (.mem (.tail _ (.head _))) rfl,items_nil ⟨keep_K B (by kernel_rfl),CalC.cal (gmb_cal p (k:=66) hfu B (as:=rd6 s) (bs:=s.lg) (idx:=idxG (s.lg.take s.il) (inB a.js) true) (congrArg (fun u=>some (V.at u)) e1) rfl rfl rfl rfl rfl (.tail _ (.head _)) (.head _) (.tail _ (.tail _ (.tail _ (.tail _ (.tail _ (.tail _ (.tail _ hD))))))) (.tail _ (.tail _ (.tail _ (.tail _ (.tail _ (.tail _ (.tail _ hS))))))) (idx_ok (jk':=fun x=>decide (x∈a.js.map IS.i)) (on:=true) hG (memJ a.js) fun q hq=>.tail _ (.tail _ (.tail _ (.tail _ (.tail _ (.tail _ (.tail _ (hgL q hq)))))))) (idxG_pw _ _ _) (fun v=>idxG_len _ _ _ v (Nat.le_trans (List.length_take_le _ _) (Nat.le_trans hil hz))) hrz hz (.inr (Nat.lt_of_le_of_lt sz.z (by decide))) (by simp) fun r L hL=>?_)⟩⟩))
  rw [log_blk (Nat.lt_of_le_of_lt sz.z (by decide)) sz.rz hL]
  exact ⟨m,_,(To.less .sink).trans (To.ns (NsEq.eq (ks:=mKeys) (fs':=f6 a.J { s with mb:=.ref r }) ⟨by kernel_rfl,by kernel_rfl,by kernel_rfl⟩)),h r _ (fun q hq=>.tail _ hq) (.head _)⟩
 ·have h':=h r R (fun q hq=>hq) hr
  rw [show { s with mb:=.ref r } = s by rw [← e1]] at h'
  exact hE _ _ _ (Pu.nm lMa hm _ ⟨_,_,gm_inst (K:=K06 p) (C:=242) (f:=203) B hC (by kernel_rfl) (by kernel_rfl) (.mem (.head _)) (.mem (.tail _ (.head _))) rfl,items_nil ⟨keep_K B (by kernel_rfl),CalC.cal (gmbc_cal p (k:=69) hfu B (.head _) (.tail _ (.head _)) (congrArg (fun u=>some (V.at u)) e1) h')⟩⟩)
theorem opc_E (hfu:c.fuel = 70) (B:Base c (K06 p)) (lMa:Lc c "matcher") {r:Addr} (em:s.mb = .ref r) (hr:(r,O.list ((blkL k n).map (triV 135)))∈R) (po:Po R s.op k n) (hm:m.lookup ("matcher":Str) = some (.ref a.x))
  (h:∀ an R',(∀ q∈R,q∈R')→(an,O.list ((codL k n).map (V.tup .none)))∈R'→Q (.ref an) m (H6 a { s with op:=.ref an } R')) (hE:Meth c (.Name ("matcher":Str) p1) ("get_opcodes":Str) p2 [] p3):WPe c (.Call (.Attribute (.Name ("matcher":Str) p1) ("get_opcodes":Str) p2) [] [] p3) m (H6 a s R) Q:=by
 have hC:=cls02 p
 rcases po with e1 | ⟨an,e1,ha⟩
 ·refine WPe.postT (hE _ _ _ (Pu.nm lMa hm _ ⟨_,_,gm_inst (K:=K06 p) (C:=242) (f:=210) B hC (by kernel_rfl) (by kernel_rfl) (.mem (.head _)) (.mem (.tail _ (.head _))) rfl,items_nil ⟨keep_K B (by kernel_rfl),CalC.cal (opc_cal p (k:=68) hfu B (L:=blkL k n) (congrArg (fun u=>some (V.at u)) e1) (congrArg (fun u=>some (V.at u)) em) rfl (.tail _ (.tail _ (.tail _ (.tail _ (.tail _ (.tail _ (.tail _ hr))))))) (Nat.le_trans (blk_len k n) (by decide)) (by simp) fun an=>?_)⟩⟩))
  rw [cod_blk]
  exact ⟨m,_,(To.less .sink).trans (To.ns (NsEq.eq (ks:=mKeys) (fs':=f6 a.J { s with op:=.ref an }) ⟨by kernel_rfl,by kernel_rfl,by kernel_rfl⟩)),h an _ (fun q hq=>.tail _ hq) (.head _)⟩
 ·have h':=h an R (fun q hq=>hq) ha
  rw [show { s with op:=.ref an } = s by rw [← e1]] at h'
  exact hE _ _ _ (Pu.nm lMa hm _ ⟨_,_,gm_inst (K:=K06 p) (C:=242) (f:=210) B hC (by kernel_rfl) (by kernel_rfl) (.mem (.head _)) (.mem (.tail _ (.head _))) rfl,items_nil ⟨keep_K B (by kernel_rfl),CalC.cal (opcc_cal p (k:=69) hfu B (.head _) (.tail _ (.head _)) (congrArg (fun u=>some (V.at u)) e1) h')⟩⟩)
theorem rat_E (hfu:c.fuel = 70) (B:Base c (K06 p)) {mg:Str→Option Value} (G:RatB c mg) (lMa:Lc c "matcher") {r:Addr} (sz:Sz6 s) (hkz:k≤62) (em:s.mb = .ref r) (hr:(r,O.list ((blkL k n).map (triV 135)))∈R) (hm:m.lookup ("matcher":Str) = some (.ref a.x))
  (h:∀ ps,TriplesOk ps.toList→Q (.float (ratV k (s.rl + s.lg.length))) m (H6 a { s with ps:=ps } R)) (hE:Meth c (.Name ("matcher":Str) p1) ("ratio":Str) p2 [] p3):WPe c (.Call (.Attribute (.Name ("matcher":Str) p1) ("ratio":Str) p2) [] [] p3) m (H6 a s R) Q:=by
 have hC:=cls02 p
 have hz:=sz.z
 have hr2:=rd_len sz
 have hrz:=sz.rz
 refine hE _ _ _ (Pu.nm lMa hm _ ⟨_,_,gm_inst (K:=K06 p) (C:=242) (f:=225) B hC (by kernel_rfl) (by kernel_rfl) (.mem (.head _)) (.mem (.tail _ (.head _))) rfl,items_nil ⟨keep_K B (by kernel_rfl),CalC.cal (rat_cal p (k:=68) hfu B G (F:=fun o=>(a.x,.inst 242 a.d) :: (a.d,.ns (f6 a.J s)) :: T6 a s (some (.int s.il)) o R) (as:=(rd6 s).map .int) (bs:=s.lg.map .int) (L:=blkL k n) (fun o=>.tail (.tail (.tail (.tail (.tail (.tail (.tail (.tail (.head _))))))))) (fun o=>.head _) (fun o=>.tail _ (.head _)) rfl rfl (congrArg (fun u=>some (V.at u)) em) rfl (fun o=>.tail _ (.tail _ (.tail _ (.head _)))) (fun o=>.tail _ (.tail _ (.head _))) (fun o=>.tail _ (.tail _ (.tail _ (.tail _ (.tail _ (.tail _ (.tail _ (.tail _ (.tail _ hr))))))))) sz.tri (by rw [List.length_map,hr2]; exact as2 2 (.l Z0 (.n 62)) (.l Z1 Z0) (.t Z1 (.n 128)) [_,_] hz hrz) (by rw [List.length_map]; exact as1 1 (.l Z0 (.n 62)) (.t Z0 (.n 128)) [_] hz) (by rw [blk_sum]; exact as1 1 (.l Z0 (.n 62)) (.t Z0 (.n 128)) [_] hkz) fun ps hps=>?_)⟩⟩)
 rw [blk_sum,List.length_map,List.length_map,hr2]
 exact h ps hps
end
section
variable {c:Ctx} {m:Lo} {H:Hp} {pos p1 p2:Pos} {k1:Nat}
theorem WP1.post {b:Stmt} {Q:Fl→Lo→Hp→Prop} (h:WP1 c b m H fun f m' H'=>∃ m2 H2,Less m' H' m2 H2∧Q f m2 H2):WP1 c b m H Q:=
 fun s R P k=>h s R P fun b v m' H' h tk R' F r ⟨m2,H2,l,q⟩=>k b v m2 H2 h tk (R'.weaken l.1 l.2.1 (l.2.2 R'.nd)) ⟨F.keep,fun b hb=>F.dom b (by obtain ⟨p,hp,e⟩:=List.mem_map.mp hb; exact e ▸ List.mem_map.mpr ⟨p,l.2.1 p hp,rfl⟩),F.alive⟩ r q
noncomputable def CompSrc (c:Ctx) (t elt iter:Expr) (ifs:List Expr) (scope:Scope) (cl:List (Str × Addr)) (m:Lo) (H:Hp) (Q:List V→Lo→Hp→Prop):Prop:=
 WPe c iter m H fun u m1 H1=>∃ l xs,∃ f:V→Option V,u = .ref l∧(l,O.list xs)∈H1∧xs.length≤1000∧(∀ c2,Inner c scope cl c2→∀ v∈xs,Asg c2 t v [] H1 fun m3 H3=>WPelt c2 elt ifs m3 H3 fun o H5=>o = f v∧Less [] H5 [] H1)∧Q (xs.filterMap f) m1 H1
theorem CompSrc.it {t elt iter:Expr} {ifs:List Expr} {scope:Scope} {cl:List (Str × Addr)} {Q:List V→Lo→Hp→Prop} (hk:scope.kind = .function) (ht:isNameOrTuple t = true) (h:CompSrc c t elt iter ifs scope cl m H Q) :
  WPit c t iter m H fun n x Ok m1 H1=>n≤sizeLine∧WPcomp c scope cl hk t elt ifs n x Ok H1 fun ys H2=>∃ H3,Less [] H2 [] H3∧Q ys m1 H3:=by
 refine it_list ht (WPe.mono h ?_)
 rintro u m1 H1 ⟨l,xs,f,rfl,hx,hz,hstep,q⟩
 refine ⟨l,xs,rfl,.mem hx,by have:sizeLine = 16777216:=rfl; exact as2 2 (.l Z0 (.n 1000)) (.e Z1 (.n 16777216)) (.l Z0 Z1) [_,_] hz this,compOver (f:=fun i=>f (xs.getD i .none)) (H':=H1) (fun _=>⟨fun _ _ e=>(nomatch e),fun _ h=>h,id⟩) (fun c2 hc i hi=>?_) (fun H2 hl=>Sees.less hl hx) (fun H2 hl=>?_)⟩
 ·have:xs.getD i .none∈xs:=by simp [List.getD,hi]
  exact hstep c2 hc _ this
 ·rw [filterMap_range]
  exact ⟨H1,hl,q⟩
theorem WPit.mono {t e:Expr} {Q Q':Nat→(Nat→V)→(Hp→Prop)→Lo→Hp→Prop} (h:WPit c t e m H Q) (hQ:∀ n x Ok m H,Q n x Ok m H→Q' n x Ok m H):WPit c t e m H Q':=
 fun s R P k=>h s R P fun it fp n x Ok J J' m1 H1 h1 tk1 W R1 F1 A1 fr1 j1 q=>k it fp n x Ok J J' m1 H1 h1 tk1 W R1 F1 A1 fr1 j1 (hQ _ _ _ _ _ q)
theorem WPcomp.mono {scope:Scope} {cl:List (Str × Addr)} {hk:scope.kind = .function} {t elt:Expr} {ifs:List Expr} {n:Nat} {x:Nat→V} {Ok:Hp→Prop} {Qf Qf':List V→Hp→Prop} (h:WPcomp c scope cl hk t elt ifs n x Ok H Qf) (hQ:∀ ys H2,Qf ys H2→Qf' ys H2):WPcomp c scope cl hk t elt ifs n x Ok H Qf':=
 fun C=>let ⟨I,h1,h2,h3⟩:=h C; ⟨I,h1,h2,fun ys H2 hi=>⟨(h3 ys H2 hi).1,hQ _ _ (h3 ys H2 hi).2⟩⟩
theorem e_compG {t elt iter:Expr} {ifs:List Expr} {scope:Scope} {cl:List (Str × Addr)} {Q:V→Lo→Hp→Prop} (hclos:closureFor scope c.env = pure cl) (hk:scope.kind = .function) (h:CompSrc c t elt iter ifs scope cl m H fun ys m1 H1=>∀ D,Q (.ref D) m1 ((D,.list ys) :: H1))
  (ht:autoParam (isNameOrTuple t = true) auRfl) (hcell:autoParam (∀ y∈scope.names,y.2≠.cell) auDec) (hnames:autoParam (∀ y∈scope.names,y.2 = .local→scope.names.lookup y.1 = some .local) auDec)
  (hs:autoParam (∀ x,foldedSetIterable iter c.env x = pure x) auFun):WPe c (.ListComp elt [⟨t,iter,ifs,0⟩] scope pos) m H Q:=
 WPe.post (e_comp hclos hk (WPit.mono (h.it hk ht) fun n x Ok m1 H1 q=>⟨q.1,WPcomp.mono q.2 fun ys H2 ⟨H3,l,q⟩ D=>⟨m1,(D,.list ys) :: H3,Less.lift l,q D⟩⟩) hcell hnames hs)
theorem s1_compR {y:Str} {py spos:Pos} {Q:Fl→Lo→Hp→Prop} {t elt iter:Expr} {ifs:List Expr} {scope:Scope} {cl:List (Str × Addr)} (hclos:closureFor scope c.env = pure cl) (hk:scope.kind = .function) (hy:c.env.kindOf y = some .local) {a b:Int} (f:Nat→Option V) (h1:∀ Q:V→Lo→Hp→Prop,(∀ r,Q (.ref r) m ((r,.range a b 1) :: H))→WPe c iter m H Q) (ha:-1000≤a∧a≤1000) (hb:-1000≤b∧b≤1000)
  (hstep:∀ c2,Inner c scope cl c2→∀ i:Nat,i < (b - a).toNat→Asg c2 t (.int (a + i)) [] H fun m3 H3=>WPelt c2 elt ifs m3 H3 fun o H5=>o = f i∧Less [] H5 [] H) (h:∀ D,Q .next ((y,.ref D) :: m) ((D,.list ((List.range (b - a).toNat).filterMap f)) :: H))
  (hsw:swapsWith (.ListComp elt [⟨t,iter,ifs,0⟩] scope pos) (some (.Name y py)) spos.line c.env = pure true)
  (ht:autoParam (isNameOrTuple t = true) auRfl) (hcell:autoParam (∀ y∈scope.names,y.2≠.cell) auDec) (hnames:autoParam (∀ y∈scope.names,y.2 = .local→scope.names.lookup y.1 = some .local) auDec)
  (hs:autoParam (∀ x,foldedSetIterable iter c.env x = pure x) auFun):WP1 c (.Assign [.Name y py] (.ListComp elt [⟨t,iter,ifs,0⟩] scope pos) spos) m H Q:=
 WP1.post (s1_comp hclos hk hy (it_range ht (h1 _ fun r=>⟨r,a,b,rfl,.mem mS,in_lo ha,in_lo hb,in_span ha.1 hb.2,compOver (f:=f) (H':=H) (fun _=>Less.trans (m1:=[]) (H1:=H) ⟨fun _ _ e=>(nomatch e),fun _ h=>mT h,fun nd=>(List.nodup_cons.mp nd).2⟩ (Less.refl _ _)) (fun c2 hc i hi=>hstep c2 hc i hi) (fun H2 hl=>trivial) (fun H2 hl D=>⟨_,_,Less.lift hl,h D⟩)⟩)) hsw hcell hnames hs)
end
theorem plain_tris (L:List Tri):(L.map naV).all V.plain = true:=by
 rw [List.all_map]; exact List.all_eq_true.mpr fun _ _=>rfl
theorem plain_cods (k n:Nat):((codL k n).map (V.tup .none)).all V.plain = true:=by
 unfold codL; split <;> split <;> rfl
theorem cmp_same (f:UInt64) (h:Float64.cmp f f = some .eq):(Float64.cmp f f != some .eq) = false:=by rw [h]; rfl
theorem ratV_eq {k n:Nat} (h:n≠0):ratV k n = Float64.ofFrac false (2 * k) n:=by unfold ratV; rw [if_neg h]; rfl
theorem ne_ratV {k n:Nat} (h:n≠0):(Float64.cmp (ratV k n) (Float64.ofFrac false (2 * k) n) != some .eq) = false:=by
 rw [ratV_eq h]; exact cmp_same _ (cmp_ratF k n)
theorem law_i5 (p:Params) (c:Ctx) (hfu:c.fuel = 70) (B:Base c (K06 p)) (hs:c.env.scope = (fdIn (K06 p) 251).scope) {a:A6} {s s':S6} {R:Hp} {t:Nat} {x:Int} {k n:Nat} {bl cl:Addr} {Q:Fl→Lo→Hp→Prop}
  (sz:Sz6 s) (ch:Ch6 R s.lg s.il s.D s.S a.js) (pm:Pm R s.mb s.rl s.lg.length k n) (hbl:(bl,O.list ((blA k).map naV))∈R)
  (hQ:∀ r R',(∀ q∈R,q∈R')→(r,O.list ((blkL k n).map (triV 135)))∈R'→WPs c ((ib6 p).drop 6) (mc6 a s' t x k n bl cl) (H6 a { s with mb:=.ref r } R') Q) :
  WPs c ((ib6 p).drop 5) (mc6 a s' t x k n bl cl) (H6 a s R) Q:=by
 have hn:=congrArg Scope.names hs
 conv at hn=>rhs; whnf
 have lMa:Lc c "matcher":=lc_of hn (by kernel_rfl)
 have lK:Lc c "k":=lc_of hn (by kernel_rfl)
 have lN:Lc c "n":=lc_of hn (by kernel_rfl)
 have lBl:Lc c "blocks":=lc_of hn (by kernel_rfl)
 refine s_cons (s1_if (t_cmp (e_compG (cl:=[]) (closureFor_none (by decide)) rfl (gmb_E p hfu B lMa sz ch pm rfl (fun r R' hu hr=>⟨r,(blkL k n).map (triV 135),asNa,rfl,in6 hr,by rw [List.length_map]; exact Nat.le_trans (blk_len k n) (by decide),fun c2 hc v hv=>?_,fun D=>?_⟩) (fun _ _ _ h=>e_method h))) (by with_unfolding_all rfl)))
 ·obtain ⟨⟨x1,y1,z1⟩,_,rfl⟩:=List.mem_map.mp hv
  have hn2:=hc.named hn
  have lI:Lc c2 "i":=lc_of hn2 (by kernel_rfl)
  have lJ:Lc c2 "j":=lc_of hn2 (by kernel_rfl)
  have lS:Lc c2 "size":=lc_of hn2 (by kernel_rfl)
  refine asg_tupC (hTm p _) (hc.base _ B) (xs:=[.int (x1:Nat),.int (y1:Nat),.int (z1:Nat)]) (asg_name (sto_local lI.1 (asg_name (sto_local lJ.1 (asg_name (sto_local lS.1 ?_))))))
  show WPe c2 _ _ _ _
  exact Pu.tup (xs:=[.int (x1:Nat),.int (y1:Nat),.int (z1:Nat)]) (.cons (.n lI) (.cons (.n lJ) (.cons (.n lS) .nil))) (by simp) _ ⟨rfl,Less.refl _ _⟩
 ·rw [asNa_all]
  refine e_binop ((Pu.n lBl) _ (e_list (items_cons ((Pu.tup (xs:=[.int (k:Nat),.int (n:Nat),.int (0:Nat)]) (.cons (.n lK) (.cons (.n lN) (.cons .one .nil))) (by simp)) _ (items_nil ⟨Nat.le_of_ble_eq_true rfl,fun y1=>o_cat (.mem (.tail _ (.tail _ (in6 (hu _ hbl))))) (.mem (.head _)) (fun y2=>?_) ?_⟩)))))
  ·refine c_neSame (xs:=(blkL k n).map naV) (plain_tris _) (.mem (.tail _ (.tail _ (.head _)))) ?_ (tru_bool (if_b (fun h=>nomatch h) fun _=>s_nil ?_))
   ·have e:(blA k).map naV ++ [V.tup .none [.int (k:Nat),.int (n:Nat),.int (0:Nat)]] = (blkL k n).map naV:=by unfold blkL; rw [List.map_append]; rfl
    rw [← e]; exact .mem (.head _)
   ·exact WPs.less (Less.heap (.cons _ (.cons _ (.cons _ (.refl _))))) (hQ r R' hu hr)
  ·rw [List.length_map]
   have:(blA k).length≤1:=by unfold blA; split <;> simp
   exact Nat.le_trans (Nat.add_le_add_right this _) (Nat.le_of_ble_eq_true rfl)
theorem law_i6 (p:Params) (c:Ctx) (hfu:c.fuel = 70) (B:Base c (K06 p)) {mg:Str→Option Value} (G:RatB c mg) (hs:c.env.scope = (fdIn (K06 p) 251).scope) {a:A6} {s s':S6} {R:Hp} {t:Nat} {x:Int} {k n:Nat} {bl cl r:Addr} {Q:Fl→Lo→Hp→Prop}
  (sz:Sz6 s) (hw:s'.rl + s'.lg.length = s.rl + s.lg.length) (hkz:k≤62) (em:s.mb = .ref r) (hr:(r,O.list ((blkL k n).map (triV 135)))∈R) (po:Po R s.op k n) (hcl:(cl,O.list ((codL k n).map (V.tup .none)))∈R)
  (hQ:∀ an R' ps,(∀ q∈R,q∈R')→(an,O.list ((codL k n).map (V.tup .none)))∈R'→TriplesOk ps.toList→Q .next (mc6 a s' t x k n bl cl) (H6 a { s with op:=.ref an,ps:=ps } R')) :
  WPs c ((ib6 p).drop 6) (mc6 a s' t x k n bl cl) (H6 a s R) Q:=by
 have hn:=congrArg Scope.names hs
 conv at hn=>rhs; whnf
 have lMa:Lc c "matcher":=lc_of hn (by kernel_rfl)
 have lK:Lc c "k":=lc_of hn (by kernel_rfl)
 have lW:Lc c "whole":=lc_of hn (by kernel_rfl)
 have lCo:Lc c "codes":=lc_of hn (by kernel_rfl)
 have hz:=sz.z
 have hrz:=sz.rz
 have h0:s.rl + s.lg.length≠0:=Nat.ne_of_gt (Nat.lt_of_lt_of_le sz.z0 (Nat.le_add_left _ _))
 refine s_cons (s1_if (t_bool (all_or (t_cmp (opc_E p hfu B lMa em hr po rfl (fun an R' hu ha=>(Pu.n lCo) _ (c_neSame (plain_cods k n) (.mem (in6 ha)) (.mem (in6 (hu _ hcl))) (tru_bool (if_b (fun h=>nomatch h) fun _=>?_)))) (fun _ _ _ h=>e_method h)) (by with_unfolding_all rfl)))))
 refine all_or (t_cmp (rat_E (s:={ s with op:=.ref an }) p hfu B G lMa ⟨sz.z,sz.z0,sz.rz,sz.tri⟩ hkz em (hu _ hr) rfl (fun ps hps=>?_) (fun _ _ _ h=>e_method h)) (by with_unfolding_all rfl))
 refine (Pu.divN (a:=2 * k) (n:=s.rl + s.lg.length) (.dbl .one (.n lK)) ((Pu.n lW).as (by rw [hw])) (by exact as1 1 (.l Z0 (.n 62)) (.t (.m 2 Z0) (.n 256)) [_] hkz) h0) _ (c_neF (tru_bool ?_))
 rw [ne_ratV h0]
 exact if_b (fun h=>nomatch h) fun _=>all_or_nil (if_b (fun h=>nomatch h) fun _=>s_nil (s_nil (hQ an R' ps hu ha hps)))
theorem law_b8 (p:Params) (c:Ctx) (hfu:c.fuel = 70) (B:Base c (K06 p)) {mg:Str→Option Value} (G:RatB c mg) (hs:c.env.scope = (fdIn (K06 p) 251).scope) {a:A6} {che:Addr} (hcs:c.env.cells = cs6 a che) {s:S6} {R:Hp} {t:Nat} {x:Int} {Q:Fl→Lo→Hp→Prop}
  (ok:Ok6 c a s R) (hQ:∀ s R,Ok6 c a s R→WPs c ((lb6 p).drop 9) (mx6 a s t x) (H6 a s R) Q):WPs c ((lb6 p).drop 8) (mx6 a s t x) (H6 a s R) Q:=by
 have hn:=congrArg Scope.names hs
 conv at hn=>rhs; whnf
 have lT:Lc c "turn":=lc_of hn (by kernel_rfl)
 refine s_cons (s1_ifP (.neI (.modN (b:=3) (.n lT) .one) .one) (fun _=>?_) fun _=>s_nil (hQ s R ok))
 refine law_i0 p c B hs hcs ok fun k n h1 h2 pm po=>?_
 refine law_i2 p c B hs fun bl cl=>?_
 have u1:∀ q∈R,q∈(cl,O.list ((codL k n).map (V.tup .none))) :: (bl,O.list ((blA k).map naV)) :: R:=fun q hq=>.tail _ (.tail _ hq)
 refine law_i5 p c hfu B hs ok.sz (ok.ch.mono u1) (pm.imp id fun ⟨r,e,hr⟩=>⟨r,e,u1 _ hr⟩) (.tail _ (.head _)) fun r R1 u2 hr=>?_
 refine law_i6 p c hfu B G hs (s:={ s with mb:=.ref r }) ⟨ok.sz.z,ok.sz.z0,ok.sz.rz,ok.sz.tri⟩ rfl (Nat.le_trans h1 (Nat.le_trans h2 ok.sz.z)) rfl hr (po.imp id fun ⟨an,e,ha⟩=>⟨an,e,u2 _ (u1 _ ha)⟩) (u2 _ (.head _)) fun an R2 ps u3 ha hps=>?_
 refine WPs.loc (hQ { s with nt:=some (k,n),mb:=.ref r,op:=.ref an,ps:=ps } R2 ⟨ok.bs.mono fun q hq=>u3 q (u2 q (u1 q hq)),⟨ok.sz.z,ok.sz.z0,ok.sz.rz,hps⟩,ok.ch.mono fun q hq=>u3 q (u2 q (u1 q hq)),.inr ⟨k,n,rfl,h1,h2,r,an,rfl,rfl,u3 _ hr,ha⟩,ok.ct.mono fun q hq=>u3 q (u2 q (u1 q hq))⟩) .k
noncomputable def jb6 (p:Params):List Stmt:=hBody ((lb6 p).drop 9)
noncomputable abbrev Pc (R:Hp) (lg:List Int) (fc:At) (n:Nat):Prop:=(fc = .none∧n = lg.length) ∨ ∃ D ep es,fc = .ref D∧(D,O.dict ep es)∈R∧CntOk es (lg.take n)
theorem qr_E (p:Params) {c:Ctx} {a:A6} {s:S6} {R:Hp} {n:Nat} {m:Lo} {Q:V→Lo→Hp→Prop} {p1 p2 p3:Pos} (hfu:c.fuel = 70) (B:Base c (K06 p)) (lMa:Lc c "matcher") (sz:Sz6 s) (pc:Pc R s.lg s.fc n) (hm:m.lookup ("matcher":Str) = some (.ref a.x))
  (h:∀ D ep es R',(∀ q∈R,q∈R')→(D,O.dict ep es)∈R'→CntOk es (s.lg.take n)→Q (.float (ratV (min s.rl n) (s.rl + s.lg.length))) m (H6 a { s with fc:=.ref D } R')) (hE:Meth c (.Name ("matcher":Str) p1) ("quick_ratio":Str) p2 [] p3):WPe c (.Call (.Attribute (.Name ("matcher":Str) p1) ("quick_ratio":Str) p2) [] [] p3) m (H6 a s R) Q:=by
 have hC:=cls02 p
 have hz:s.lg.length < 128:=Nat.lt_of_le_of_lt sz.z (by decide)
 have hr:=rd_len sz
 have hrz:(rd6 s).length < 128:=by rw [hr]; exact Nat.lt_of_le_of_lt sz.rz hz
 have e2:∀ n,qmN (rd6 s) (s.lg.take n) (rd6 s).length = min s.rl n:=fun n=>by rw [qmN_take _ _ _ sz.rz _ (Nat.le_of_eq hr),hr]
 rcases pc with ⟨e1,rfl⟩ | ⟨D,ep,es,e1,hD,hcn⟩
 ·refine WPe.postT (hE _ _ _ (Pu.nm lMa hm _ ⟨_,_,gm_inst (K:=K06 p) (C:=242) (f:=232) B hC (by kernel_rfl) (by kernel_rfl) (.mem (.head _)) (.mem (.tail _ (.head _))) rfl,items_nil ⟨keep_K B (by kernel_rfl),CalC.cal (qr_cal p (k:=68) hfu B (as:=rd6 s) (bs:=s.lg) rfl rfl (congrArg (fun u=>some (V.at u)) e1) (.tail _ (.head _)) (.head _) hrz hz (by simp) fun D ep es hcn=>?_)⟩⟩))
  have e3:=e2 s.lg.length
  rw [List.take_length] at e3
  rw [e3,hr]
  exact ⟨m,_,(To.less .sink).trans (To.ns (NsEq.eq (ks:=mKeys) (fs':=f6 a.J { s with fc:=.ref D }) ⟨by kernel_rfl,by kernel_rfl,by kernel_rfl⟩)),h D ep es _ (fun q hq=>.tail _ hq) (.head _) (by rw [List.take_length]; exact hcn)⟩
 ·have h':=h D ep es R (fun q hq=>hq) hD hcn
  rw [show { s with fc:=.ref D } = s by rw [← e1]] at h'
  refine hE _ _ _ (Pu.nm lMa hm _ ⟨_,_,gm_inst (K:=K06 p) (C:=242) (f:=232) B hC (by kernel_rfl) (by kernel_rfl) (.mem (.head _)) (.mem (.tail _ (.head _))) rfl,items_nil ⟨keep_K B (by kernel_rfl),CalC.cal (qr_cal2 p (k:=68) hfu B (as:=rd6 s) (bs:=s.lg) (.head _) (.tail _ (.head _)) rfl rfl (congrArg (fun u=>some (V.at u)) e1) (.tail _ (.tail _ (.tail _ (.head _)))) (.tail _ (.tail _ (.head _))) (in6 hD) hcn hrz hz ?_)⟩⟩)
  rw [e2,hr]
  exact h'
theorem law_b9 (p:Params) (c:Ctx) (hfu:c.fuel = 70) (B:Base c (K06 p)) (hs:c.env.scope = (fdIn (K06 p) 251).scope) {a:A6} {che:Addr} (hcs:c.env.cells = cs6 a che) {s:S6} {R:Hp} {t:Nat} {x:Int} {Q:Fl→Lo→Hp→Prop}
  (ok:Ok6 c a s R) (hQ:∀ s R,Ok6 c a s R→WPs c ((lb6 p).drop 10) (mx6 a s t x) (H6 a s R) Q):WPs c ((lb6 p).drop 9) (mx6 a s t x) (H6 a s R) Q:=by
 have hn:=congrArg Scope.names hs
 conv at hn=>rhs; whnf
 have gl:Glob c "len" (.bi "len"):=B.len hn (by kernel_rfl)
 have gm:Glob c "min" (.bi "min"):=B.min hn (by kernel_rfl)
 have lT:Lc c "turn":=lc_of hn (by kernel_rfl)
 have lMa:Lc c "matcher":=lc_of hn (by kernel_rfl)
 have lW:Lc c "whole":=lc_of hn (by kernel_rfl)
 have lCo:Lc c "counted":=lc_of hn (by kernel_rfl)
 have lLo:Ce c "log" a.clo:=ce_of hn hcs (by kernel_rfl) (by kernel_rfl)
 have lRe:Ce c "reader" a.cre:=ce_of hn hcs (by kernel_rfl) (by kernel_rfl)
 have hz:s.lg.length≤1000:=Nat.le_trans ok.sz.z (by decide)
 have hr:=rd_len ok.sz
 have hrz:(rd6 s).length≤1000:=by rw [hr]; exact Nat.le_trans ok.sz.rz hz
 have hz1:=ok.sz.z
 have hz2:=ok.sz.rz
 have h0:s.rl + s.lg.length≠0:=Nat.ne_of_gt (Nat.lt_of_lt_of_le ok.sz.z0 (Nat.le_add_left _ _))
 refine s_cons (s1_ifP (.eqI (.modN (b:=2) (.n lT) .one) .one) (fun _=>?_) fun _=>s_nil (hQ s R ok))
 have main:∃ n,(n≤s.lg.length∧Pc R s.lg s.fc n)∧∀ Q',WPs c ((jb6 p).drop 1) (mx6 a { s with ct:=some n } t x) (H6 a s R) Q'→WPs c (jb6 p) (mx6 a s t x) (H6 a s R) Q':=by
  rcases ok.ct with ⟨e1,e2⟩ | ⟨n,D,ep,es,e1,e2,h1,h2,h3⟩
  ·have e:ctV s.ct = .none:=by rw [e1]; rfl
   refine ⟨s.lg.length,⟨Nat.le_refl _,.inl ⟨e2,rfl⟩⟩,fun Q' hQ'=>?_⟩
   refine s_cons (s1_ifP (.isNone (Pu.nm lCo (congrArg some e)) .nn) (fun _=>?_) fun h=>nomatch h)
   exact s_cons (s1_assignP lCo (.lenM gl (.cel lLo (.mem (.tail _ (.tail _ (.tail _ (.tail _ (.head _))))))) (.mem (.tail _ (.tail _ (.head _)))) hz (hE:=fun _ h=>e_call h)) (s_nil (WPs.loc hQ' .k)))
  ·have e:ctV s.ct = .int (n:Nat):=by rw [e1]; rfl
   refine ⟨n,⟨h1,.inr ⟨D,ep,es,e2,h2,h3⟩⟩,fun Q' hQ'=>?_⟩
   rw [show { s with ct:=some n } = s by rw [← e1]] at hQ'
   exact s_cons (s1_ifP (.isNone (Pu.nm lCo (congrArg some e)) .int) (fun h=>nomatch h) fun _=>s_nil hQ')
 obtain ⟨n,⟨h1,h2⟩,red⟩:=main
 refine red _ ?_
 refine s_cons (s1_if (t_cmp (qr_E p hfu B lMa ok.sz h2 rfl (fun D ep es R' hu hD hcn=>?_) (fun _ _ _ h=>e_method h)) (by with_unfolding_all rfl)))
 refine (Pu.divN (a:=2 * min s.rl n) (n:=s.rl + s.lg.length) (.dbl .one (.min gm ((Pu.lenM gl (.cel lRe (.mem (.tail _ (.tail _ (.tail _ (.tail _ (.tail _ (.head _)))))))) (.mem (.tail _ (.tail _ (.tail _ (.head _))))) hrz (hE:=fun _ h=>e_call h)).as (by rw [hr])) (.n lCo) (hE:=fun _ h=>e_call h))) (.n lW) (by exact as2 3 (.l Z0 (.n 62)) (.l Z1 Z0) (.t (.m 2 (.mn Z2 Z1)) (.n 256)) [_,_,_] hz1 h1) h0) _ (c_neF (tru_bool ?_))
 rw [ne_ratV h0]
 exact if_b (fun h=>nomatch h) fun _=>s_nil (s_nil (WPs.loc (hQ { s with ct:=some n,fc:=.ref D } R' ⟨ok.bs.mono hu,⟨ok.sz.z,ok.sz.z0,ok.sz.rz,ok.sz.tri⟩,ok.ch.mono hu,ok.nt.mono hu,.inr ⟨n,D,ep,es,rfl,rfl,h1,hD,hcn⟩⟩) .k))
theorem law_b10 (p:Params) (c:Ctx) (hfu:c.fuel = 70) (B:Base c (K06 p)) (hs:c.env.scope = (fdIn (K06 p) 251).scope) {a:A6} {che:Addr} (hcs:c.env.cells = cs6 a che) {s:S6} {R:Hp} {t:Nat} {x:Int} {Q:Fl→Lo→Hp→Prop}
  (ok:Ok6 c a s R) (hQ:WPs c ((lb6 p).drop 11) (mx6 a s t x) (H6 a s R) Q):WPs c ((lb6 p).drop 10) (mx6 a s t x) (H6 a s R) Q:=by
 have hn:=congrArg Scope.names hs
 conv at hn=>rhs; whnf
 have hC:=cls02 p
 have gl:Glob c "len" (.bi "len"):=B.len hn (by kernel_rfl)
 have lMa:Lc c "matcher":=lc_of hn (by kernel_rfl)
 have lW:Lc c "whole":=lc_of hn (by kernel_rfl)
 have lRe:Ce c "reader" a.cre:=ce_of hn hcs (by kernel_rfl) (by kernel_rfl)
 have hr:=rd_len ok.sz
 have hz1:=ok.sz.z
 have hz2:=ok.sz.rz
 have hrz:(rd6 s).length≤1000:=by rw [hr]; exact Nat.le_trans hz2 (Nat.le_trans hz1 (by decide))
 have h0:s.rl + s.lg.length≠0:=Nat.ne_of_gt (Nat.lt_of_lt_of_le ok.sz.z0 (Nat.le_add_left _ _))
 refine s_cons (s1_if (t_cmp (e_method ((Pu.n lMa) _ ⟨_,_,gm_inst (K:=K06 p) (C:=242) (f:=239) B hC (by kernel_rfl) (by kernel_rfl) (.mem (.head _)) (.mem (.tail _ (.head _))) rfl,items_nil ⟨keep_K B (by kernel_rfl),CalC.cal (rqr_fn p (k:=68) hfu B (as:=(rd6 s).map .int) (bs:=s.lg.map .int) (.head _) (.tail _ (.head _)) rfl rfl (.tail _ (.tail _ (.tail _ (.head _)))) (.tail _ (.tail _ (.head _))) (by rw [List.length_map,hr]; exact as2 2 (.l Z0 (.n 62)) (.l Z1 Z0) (.t Z1 (.n 128)) [_,_] hz1 hz2) (by rw [List.length_map]; exact as1 1 (.l Z0 (.n 62)) (.t Z0 (.n 128)) [_] hz1) ?_)⟩⟩)) (by with_unfolding_all rfl)))
 rw [List.length_map,List.length_map,hr,Nat.min_eq_left hz2]
 refine (Pu.divN (a:=2 * s.rl) (n:=s.rl + s.lg.length) (.dbl .one ((Pu.lenM gl (.cel lRe (.mem (.tail _ (.tail _ (.tail _ (.tail _ (.tail _ (.head _)))))))) (.mem (.tail _ (.tail _ (.tail _ (.head _))))) hrz (hE:=fun _ h=>e_call h)).as (by rw [hr]))) (.n lW) (by exact as2 2 (.l Z0 (.n 62)) (.l Z1 Z0) (.t (.m 2 Z1) (.n 256)) [_,_] hz1 hz2) h0) _ (c_neF (tru_bool ?_))
 rw [ne_ratV h0]
 exact if_b (fun h=>nomatch h) fun _=>s_nil hQ
theorem plain_ints (L:List Int):(L.map V.int).all V.plain = true:=by
 rw [List.all_map]; exact List.all_eq_true.mpr fun _ _=>rfl
noncomputable def inV (l:List Int):V→Option V
 | .at (.int w)=>if decide (w∈l) then some (.int w) else .none
 | _=>.none
theorem inV_all (l js:List Int):(js.map V.int).filterMap (inV l) = (js.filter fun w=>decide (w∈l)).map V.int:=by
 rw [List.filterMap_map]
 have:=filterMap_if js (fun w=>decide (w∈l)) id
 rw [List.map_id] at this
 exact this
theorem law_b11 (p:Params) (c:Ctx) (B:Base c (K06 p)) (hs:c.env.scope = (fdIn (K06 p) 251).scope) {a:A6} {che:Addr} (hcs:c.env.cells = cs6 a che) {s:S6} {R:Hp} {t:Nat} {x:Int} {Q:Fl→Lo→Hp→Prop}
  (ok:Ok6 c a s R) (hQ:WPs c ((lb6 p).drop 12) (mx6 a s t x) (H6 a s R) Q):WPs c ((lb6 p).drop 11) (mx6 a s t x) (H6 a s R) Q:=by
 have hn:=congrArg Scope.names hs
 conv at hn=>rhs; whnf
 have hC:=cls02 p
 have gs:Glob c "sorted" (.bi "sorted"):=B.sorted hn (by kernel_rfl)
 have lMa:Lc c "matcher":=lc_of hn (by kernel_rfl)
 have lJu:Ce c "junk" a.cju:=ce_of hn hcs (by kernel_rfl) (by kernel_rfl)
 have hz:s.lg.length≤1000:=Nat.le_trans ok.sz.z (by decide)
 obtain ⟨hil,ep,z,G,hG,hD,hS,hgL⟩:=ok.ch
 obtain ⟨ns,hk⟩:=key_ints (js:=a.js) hG
 have hnl:ns.length < 64:=by
  have h1:ns.length = (ns.map IS.i).length:=(List.length_map _).symm
  have h2:(grp ((s.lg.take s.il).map IS.i)).length≤_:=grpTo_len _ _
  rw [← hG,gP_len,List.length_map,List.length_take] at h2
  rw [h1,← hk]
  have h3:=List.length_filter_le (fun x=>decide (x∈a.js.map IS.i)) (G.map (·.1))
  rw [List.length_map] at h3
  have:=ok.sz.z
  exact as3 4 (.l Z0 (.mn Z1 Z2)) (.l Z3 Z0) (.l Z2 (.n 62)) (.t Z3 (.n 64)) [_,_,_,_] h2 h3 this
 rw [hk] at hS
 refine s_cons (s1_if (t_cmp (e_call (e_glob gs (items_cons ((Pu.attr B hC (.mem (.head _)) (.mem (.tail _ (.head _))) (by kernel_rfl) (.n lMa) rfl) _ (items_nil ⟨keep_bi,k_sortedS (.mem (in6 hS)) hnl fun y ns' hp hs'=>?_⟩))))) (by with_unfolding_all rfl)))
 have e:=log_junk hG ok.bs.jp hk hp hs'
 subst e
 refine e_compG (cl:=[("log",a.clo),("indexed",a.cin)]) (clo_eq hcs ?hcl) rfl (Pu.cel lJu (.mem (.tail _ (in6 ok.bs.hju))) _ ⟨a.rj,a.js.map V.int,inV (s.lg.take s.il),rfl,.tail _ (in6 ok.bs.hrj),by rw [List.length_map]; exact Nat.le_trans ok.bs.jl (by decide),fun c2 hc v hv=>?_,fun D=>?_⟩)
 case hcl=>exact Clo.skip (by decide) (Clo.skip (by decide) (Clo.take (CLoc.tail (by decide) (CLoc.tail (by decide) (CLoc.head _))) (Clo.take (CLoc.tail (by decide) (CLoc.tail (by decide) (CLoc.tail (by decide) (CLoc.tail (by decide) (CLoc.head _))))) (Clo.nil _))))
 ·obtain ⟨w,_,rfl⟩:=List.mem_map.mp hv
  have hn2:=hc.named hn
  have lV:Lc c2 "v":=lc_of hn2 (by kernel_rfl)
  have lL2:Ce c2 "log" a.clo:=ce_of hn2 hc.cells (by kernel_rfl) (by kernel_rfl)
  have lI2:Ce c2 "indexed" a.cin:=ce_of hn2 hc.cells (by kernel_rfl) (by kernel_rfl)
  refine asg_name (sto_local lV.1 ?_)
  show WPt c2 _ _ _ _
  refine t_cmp ((Pu.n lV) _ (e_upto (n:=s.il) (.cel lL2 (.mem (.tail _ (.tail _ (.tail _ (.tail _ (.tail _ (.head _)))))))) (.cel lI2 (.mem (.tail _ (.tail _ (.tail _ (.tail _ (.tail _ (.tail _ (.tail _ (.head _)))))))))) (.mem (.tail _ (.tail _ (.tail _ (.head _))))) hz (fun y2=>c_inI (.mem (.head _)) (tru_bool (if_b (fun g=>?_) fun g=>?_))))) (by with_unfolding_all rfl)
  ·show WPe c2 _ _ _ _
   exact (Pu.n lV) _ ⟨(if_pos g).symm,Less.heap (.cons _ (.refl _))⟩
  ·exact ⟨(if_neg (by rw [g]; decide)).symm,Less.heap (.cons _ (.refl _))⟩
 ·rw [inV_all]
  exact c_neSame (plain_ints _) (.mem (.tail _ (.head _))) (.mem (.head _)) (tru_bool (if_b (fun h=>nomatch h) fun _=>s_nil (WPs.drop1 (WPs.drop1 hQ))))
theorem law_b13 (p:Params) (c:Ctx) (hfu:c.fuel = 70) (B:Base c (K06 p)) (hs:c.env.scope = (fdIn (K06 p) 251).scope) {a:A6} {che:Addr} (hcs:c.env.cells = cs6 a che) {s:S6} {R:Hp} {t:Nat} {x:Int} {Q:Fl→Lo→Hp→Prop}
  (ok:Ok6 c a s R) (hQ:∀ m,LessM m (m0 a s)→Q .next m (H6 a s R)):WPs c ((lb6 p).drop 13) (mx6 a s t x) (H6 a s R) Q:=by
 have hn:=congrArg Scope.names hs
 conv at hn=>rhs; whnf
 have hC:=cls02 p
 have gl:Glob c "len" (.bi "len"):=B.len hn (by kernel_rfl)
 have lMa:Lc c "matcher":=lc_of hn (by kernel_rfl)
 have lI:Lc c "i":=lc_of hn (by kernel_rfl)
 have lJ:Lc c "j":=lc_of hn (by kernel_rfl)
 have lS:Lc c "size":=lc_of hn (by kernel_rfl)
 have lJu:Ce c "junk" a.cju:=ce_of hn hcs (by kernel_rfl) (by kernel_rfl)
 have lRe:Ce c "reader" a.cre:=ce_of hn hcs (by kernel_rfl) (by kernel_rfl)
 have hr:=rd_len ok.sz
 have hz2:=ok.sz.rz
 have hz:s.lg.length≤1000:=Nat.le_trans ok.sz.z (by decide)
 have hrz:(rd6 s).length≤1000:=by rw [hr]; exact Nat.le_trans hz2 hz
 obtain ⟨hil,ep,z,G,hG,hD,hS,hgL⟩:=ok.ch
 refine s_cons (s1_if (t_cmp (Pu.cel lJu (.mem (in6 ok.bs.hju)) _ (e_list (items_nil ⟨Nat.le_of_ble_eq_true rfl,fun y=>c_eqG (xs:=a.js) (ys:=[]) eqF_int (.mem (.tail _ (in6 ok.bs.hrj))) (.mem (.head _)) (tru_bool (if_b (fun g=>?_) fun g=>s_nil (WPs.less (Less.heap (.cons _ (.refl _))) (s_nil (hQ _ .k)))))⟩))) (by with_unfolding_all rfl)))
 have hj:a.js = []:=of_decide_eq_true g
 refine WPs.drop1 ?_
 refine s_cons (s1_unpack (e_method ((Pu.n lMa) _ ⟨_,_,gm_inst (K:=K06 p) (C:=242) (f:=196) B hC (by kernel_rfl) (by kernel_rfl) (.mem (.head _)) (.mem (.tail _ (.head _))) rfl,items_nil ⟨keep_K B (by kernel_rfl),CalC.cal (flm_calD p (k:=67) hfu B (as:=rd6 s) (bs:=s.lg) (idx:=idxG (s.lg.take s.il) (inB a.js) true) (.head _) (.tail _ (.head _)) rfl rfl rfl rfl (.tail _ (.tail _ (.tail _ (.head _)))) (.tail _ (.tail _ (.head _))) (in6 hD) (in6 hS) (idx_ok (jk':=fun x=>decide (x∈a.js.map IS.i)) (on:=true) hG (memJ a.js) fun q hq=>in6 (hgL q hq)) (idxG_pw _ _ _) (fun v=>idxG_len _ _ _ v (Nat.le_trans (List.length_take_le _ _) (Nat.le_trans hil hz))) (.inr ⟨rfl,rfl,rfl,rfl,rfl⟩) (Nat.zero_le _) (Nat.le_refl _) (Nat.zero_le _) hrz hz fun i j k hF=>?_)⟩⟩)) (hw:=swap_of hn (by kernel_rfl)))
 rw [hr] at hF
 obtain ⟨rfl,rfl,rfl⟩:=log_whole (Nat.lt_of_le_of_lt ok.sz.z (by decide)) hz2 (fun j=>by unfold flmD; rw [hj]; simp) hF
 refine asg_tupC (hTm p _) B (xs:=[.int (0:Nat),.int (0:Nat),.int (s.rl:Nat)]) (asg_name (sto_local lI.1 (asg_name (sto_local lJ.1 (asg_name (sto_local lS.1 (asgl_nil ?_)))))))
 show WPs c _ _ _ _
 refine s_cons (s1_if (t_cmp ((Pu.tup (xs:=[.int (0:Nat),.int (0:Nat),.int (s.rl:Nat)]) (.cons (.n lI) (.cons (.n lJ) (.cons (.n lS) .nil))) (by simp)) _ ((Pu.tup (xs:=[.int (0:Nat),.int (0:Nat),.int (s.rl:Nat)]) (.cons .one (.cons .one (.cons ((Pu.lenM gl (.cel lRe (.mem (.tail _ (.tail _ (.tail _ (.tail _ (.tail _ (.head _)))))))) (.mem (.tail _ (.tail _ (.tail _ (.head _))))) hrz (hE:=fun _ h=>e_call h)).as (by rw [hr])) .nil))) (by simp)) _ (c_neTup rfl (tru_bool (if_b (fun h=>nomatch h) fun _=>s_nil (s_nil (s_nil (hQ _ .k)))))))) (by with_unfolding_all rfl)))
noncomputable def kb6 (p:Params):List Stmt:=hBody ((lb6 p).drop 12)
theorem PuT.notinI {c:Ctx} {m:Lo} {H:Hp} {pos:Pos} {l r:Expr} {k:Int} {a:Addr} {js:List Int} (h1:Pu c l m H (.int k)) (h2:Pu c r m H (.ref a)) (ha:Sees c H a (.list (js.map .int))) (hm:autoParam (behindInMarks .NotIn r = false) auAll):PuT c (.Compare l [.NotIn] [r] pos) m H (!decide (k∈js)):=fun _ h=>
 t_cmp (h1 _ (h2 _ (c_notinI ha (tru_bool h)))) hm
noncomputable abbrev plI (lg js:List Int) (v:Int) (q il:Nat):List Int:=(plN lg (inB js) v q il).map fun (n:Nat)=>(n:Int)
theorem plI_eq (lg js:List Int) (v:Int) (q il:Nat):(List.range ((il:Int) - (q:Int)).toNat).filterMap (fun i=>if plG lg (inB js) v q i then some (V.int ((q:Int) + (i:Int))) else none) = (plI lg js v q il).map V.int:=by
 rw [filterMap_if,show ((il:Int) - (q:Int)).toNat = il - q from Int.toNat_sub _ _]
 unfold plI plN
 simp only [List.map_map]
 rfl
noncomputable abbrev mp6 (a:A6) (s:S6) (t:Nat) (x:Int) (q:Nat) (pl:Addr):Lo:=("places",.ref pl) :: ("q",.int (q:Nat)) :: mx6 a s t x
theorem law_k0 (p:Params) (c:Ctx) (B:Base c (K06 p)) (hs:c.env.scope = (fdIn (K06 p) 251).scope) {a:A6} {che:Addr} (hcs:c.env.cells = cs6 a che) {s:S6} {R:Hp} {t:Nat} {x:Int} {Q:Fl→Lo→Hp→Prop}
  (ok:Ok6 c a s R) (h0:0 < s.rl)
  (hQ:∀ pp q pl,pp < s.rl→q≤s.lg.length→WPs c ((kb6 p).drop 2) (mp6 a s t x q pl) ((pl,.list ((plI s.lg a.js ((rd6 s).getD pp 0) q s.il).map .int)) :: H6 a { s with pv:=some (.int (pp:Nat)) } R) Q) :
  WPs c (kb6 p) (mx6 a s t x) (H6 a s R) Q:=by
 have hn:=congrArg Scope.names hs
 conv at hn=>rhs; whnf
 have gl:Glob c "len" (.bi "len"):=B.len hn (by kernel_rfl)
 have gr:Glob c "range" (.ty "range"):=B.range hn (by kernel_rfl)
 have lX:Lc c "x":=lc_of hn (by kernel_rfl)
 have lQ:Lc c "q":=lc_of hn (by kernel_rfl)
 have lPl:Lc c "places":=lc_of hn (by kernel_rfl)
 have lLo:Ce c "log" a.clo:=ce_of hn hcs (by kernel_rfl) (by kernel_rfl)
 have lRe:Ce c "reader" a.cre:=ce_of hn hcs (by kernel_rfl) (by kernel_rfl)
 have lIn:Ce c "indexed" a.cin:=ce_of hn hcs (by kernel_rfl) (by kernel_rfl)
 have lP:Ce c "p" a.cp:=ce_of hn hcs (by kernel_rfl) (by kernel_rfl)
 have kP:c.env.kindOf "p" = some .cell:=kind_of hn (by decide +kernel)
 have hr:=rd_len ok.sz
 have hz1:=ok.sz.z
 have hz2:=ok.sz.rz
 have hz3:=ok.ch.1
 have hz:s.lg.length≤1000:=Nat.le_trans hz1 (by decide)
 have hrz:(rd6 s).length≤1000:=by rw [hr]; exact Nat.le_trans hz2 hz
 obtain ⟨pp,hpp,hpl⟩:=cut_nat x (s.rl - 1)
 rw [show s.rl - 1 + 1 = s.rl by exact as1 1 (.t (.n 0) Z0) (.e (.a (.s Z0 N1) N1) Z0) [_] h0] at hpp
 have hpl2:pp < s.rl:=by exact as2 2 (.t (.n 0) Z0) (.l Z1 (.s Z0 N1)) (.t Z1 Z0) [_,_] h0 hpl
 obtain ⟨q,hq,hql⟩:=cut_nat (x.fdiv 7) s.lg.length
 refine s_cons (s1_unpack ((Pu.tup (xs:=[.int (pp:Nat),.int (q:Nat)]) (.cons ((Pu.mod (.n lX) ((Pu.lenM gl (.cel lRe (.mem (.tail _ (.tail _ (.tail _ (.tail _ (.tail _ (.head _)))))))) (.mem (.tail _ (.tail _ (.tail _ (.head _))))) hrz (hE:=fun _ h=>e_call h)).as (v:=.int (s.rl:Nat)) (by rw [hr])) (in_ne0 h0)).as (congrArg V.int hpp)) (.cons ((Pu.mod (.div (.n lX) .one) (.succ (.lenM gl (.cel lLo (.mem (.tail _ (.tail _ (.tail _ (.tail _ (.head _))))))) (.mem (.tail _ (.tail _ (.head _)))) hz (hE:=fun _ h=>e_call h))) (in_ne0 (Nat.succ_pos _))).as (congrArg V.int hq)) .nil)) (by simp)) _ (asg_tuple (asg_name (sto_ce kP lP (.tail (.tail (.tail (.tail (.tail (.tail (.tail (.head _)))))))) (asg_name (sto_local lQ.1 (asgl_nil ?_))))))) (hw:=swap_of hn (by kernel_rfl)))
 show WPs c _ _ _ _
 refine s_cons (s1_compR (a:=(q:Nat)) (b:=(s.il:Nat)) (cl:=[("reader",a.cre),("p",a.cp),("log",a.clo),("junk",a.cju)]) (clo_eq hcs ?hcl) rfl lPl.1 (fun i=>if plG s.lg (inB a.js) ((rd6 s).getD pp 0) q i then some (.int ((q:Int) + (i:Int))) else none) (fun Q' hQ'=>e_call (e_glob gr (items_cons ((Pu.n lQ) _ (items_cons (Pu.cel lIn (.mem (.tail _ (.tail _ (.tail _ (.tail _ (.tail _ (.tail _ (.head _)))))))) _ (items_nil ⟨keep_ty,k_range2 fun r=>hQ' r⟩))))))) (in_rngK (Nat.le_trans hql hz)) (in_rngK (Nat.le_trans hz3 hz)) (fun c2 hc i hi=>?_) (fun D=>?_) (swaps_yes hn (by decide +kernel) (by decide) (by decide)))
 case hcl=>exact Clo.skip (by decide) (Clo.skip (by decide) (Clo.take (CLoc.head _) (Clo.take (CLoc.tail (by decide) (CLoc.tail (by decide) (CLoc.tail (by decide) (CLoc.tail (by decide) (CLoc.head _))))) (Clo.take (CLoc.tail (by decide) (CLoc.head _)) (Clo.take (CLoc.tail (by decide) (CLoc.tail (by decide) (CLoc.tail (by decide) (CLoc.head _)))) (Clo.nil _))))))
 ·have hi':q + i < s.lg.length:=by
   rw [Int.toNat_sub] at hi
   exact Nat.lt_of_lt_of_le (Nat.add_lt_of_lt_sub' hi) hz3
  have hn2:=hc.named hn
  have lR2:Lc c2 "r":=lc_of hn2 (by kernel_rfl)
  have lL2:Ce c2 "log" a.clo:=ce_of hn2 hc.cells (by kernel_rfl) (by kernel_rfl)
  have lE2:Ce c2 "reader" a.cre:=ce_of hn2 hc.cells (by kernel_rfl) (by kernel_rfl)
  have lP2:Ce c2 "p" a.cp:=ce_of hn2 hc.cells (by kernel_rfl) (by kernel_rfl)
  have lJ2:Ce c2 "junk" a.cju:=ce_of hn2 hc.cells (by kernel_rfl) (by kernel_rfl)
  have rdp:∀ {pos p1 p2:Pos},Pu c2 (.Subscript (.Name "reader" p1) (.Name "p" p2) pos) [("r",.int ((q:Int) + (i:Int)))] (H6 a { s with pv:=some (.int (pp:Nat)) } R) (.int ((rd6 s).getD pp 0)):=fun {pos p1 p2}=>Pu.at (k:=pp) (.cel lE2 (.mem (.tail _ (.tail _ (.tail _ (.tail _ (.tail _ (.head _)))))))) (.cel lP2 (.mem (.tail _ (.tail _ (.tail _ (.tail _ (.tail _ (.tail _ (.tail _ (.head _)))))))))) (.mem (.tail _ (.tail _ (.tail _ (.head _))))) (by rw [hr]; exact hpl2) hrz (by intro _ _; with_unfolding_all rfl)
  refine asg_name (sto_local lR2.1 ?_)
  show WPt c2 _ _ _ _
  refine PuT.and2 (.eqI (Pu.at (k:=q + i) (.cel lL2 (.mem (.tail _ (.tail _ (.tail _ (.tail _ (.head _))))))) ((Pu.n lR2).as rfl) (.mem (.tail _ (.tail _ (.head _)))) hi' hz (by intro _ _; with_unfolding_all rfl)) rdp) (fun _=>.notinI rdp (.cel lJ2 (.mem (in6 ok.bs.hju))) (.mem (in6 ok.bs.hrj))) _ (if_b (fun g=>?_) fun g=>?_)
  ·show WPe c2 _ _ _ _
   exact (Pu.n lR2) _ ⟨(if_pos g).symm,Less.refl _ _⟩
  ·exact ⟨(if_neg (by show ¬ (plG s.lg (inB a.js) ((rd6 s).getD pp 0) q i = true); unfold plG inB; rw [g]; decide)).symm,Less.refl _ _⟩
 ·rw [plI_eq]
  exact WPs.loc (hQ pp q D hpl2 hql) .k
noncomputable abbrev md6 (a:A6) (s:S6) (t:Nat) (x:Int) (q pp:Nat) (d:Nat × Nat):Lo:=("due",.tup .none [.int (pp:Nat),.int (d.1:Nat),.int (d.2:Nat)]) :: ("q",.int (q:Nat)) :: mx6 a s t x
theorem law_k2 (p:Params) (c:Ctx) (B:Base c (K06 p)) (hs:c.env.scope = (fdIn (K06 p) 251).scope) {a:A6} {che:Addr} (hcs:c.env.cells = cs6 a che) {s s':S6} {R:Hp} {t:Nat} {x:Int} {pp q:Nat} {pl:Addr} {Q:Fl→Lo→Hp→Prop}
  (sz:Sz6 s) (hil:s.il≤s.lg.length) (hp:pp < s.rl) (hpv:s.pv = some (.int (pp:Nat)))
  (hQ:WPs c ((kb6 p).drop 3) (md6 a s' t x q pp (dueN s.lg (inB a.js) ((rd6 s).getD pp 0) q s.il)) (H6 a s R) Q) :
  WPs c ((kb6 p).drop 2) (mp6 a s' t x q pl) ((pl,.list ((plI s.lg a.js ((rd6 s).getD pp 0) q s.il).map .int)) :: H6 a s R) Q:=by
 have hn:=congrArg Scope.names hs
 conv at hn=>rhs; whnf
 have lQ:Lc c "q":=lc_of hn (by kernel_rfl)
 have lPl:Lc c "places":=lc_of hn (by kernel_rfl)
 have lDu:Lc c "due":=lc_of hn (by kernel_rfl)
 have lLo:Ce c "log" a.clo:=ce_of hn hcs (by kernel_rfl) (by kernel_rfl)
 have lRe:Ce c "reader" a.cre:=ce_of hn hcs (by kernel_rfl) (by kernel_rfl)
 have lP:Ce c "p" a.cp:=ce_of hn hcs (by kernel_rfl) (by kernel_rfl)
 have hr:=rd_len sz
 have hz2:=sz.rz
 have hz:s.lg.length≤1000:=Nat.le_trans sz.z (by decide)
 have hrz:(rd6 s).length≤1000:=by rw [hr]; exact Nat.le_trans hz2 hz
 unfold H6 Hw6 T6
 rw [hpv]
 unfold H6 Hw6 T6 at hQ
 rw [hpv] at hQ
 refine s_cons (s1_assign (e_ifexp (t_cmp ((Pu.n lPl) _ (e_list (items_nil ⟨Nat.le_of_ble_eq_true rfl,fun y=>c_neG (xs:=plI s.lg a.js ((rd6 s).getD pp 0) q s.il) (ys:=[]) eqF_int (.mem (.tail _ (.head _))) (.mem (.head _)) (tru_bool (if_b (fun g=>?_) fun g=>?_))⟩))) (by with_unfolding_all rfl))))
 ·have hne:plN s.lg (inB a.js) ((rd6 s).getD pp 0) q s.il≠[]:=fun e=>by
   unfold plI at g; rw [e] at g; exact absurd g (by decide)
  have hd:dueN s.lg (inB a.js) ((rd6 s).getD pp 0) q s.il = ((plN s.lg (inB a.js) ((rd6 s).getD pp 0) q s.il).headD 0,1):=if_neg hne
  rw [hd] at hQ
  have hzl:(plI s.lg a.js ((rd6 s).getD pp 0) q s.il).length≤1000:=by
   unfold plI plN
   rw [List.length_map,List.length_map]
   refine Nat.le_trans (List.length_filter_le _ _) ?_
   rw [List.length_range]
   exact as2 3 (.l Z0 Z1) (.l Z1 (.n 1000)) (.l (.s Z0 Z2) (.n 1000)) [_,_,_] hil hz
  have hpos:0 < (plI s.lg a.js ((rd6 s).getD pp 0) q s.il).length:=by
   unfold plI
   rw [List.length_map]; exact List.length_pos_iff.mpr hne
  refine (Pu.tup (xs:=[.int (pp:Nat),.int ((plN s.lg (inB a.js) ((rd6 s).getD pp 0) q s.il).headD 0:Nat),.int (1:Nat)]) (.cons (.cel lP (.mem (.tail _ (.tail _ (.tail _ (.tail _ (.tail _ (.tail _ (.tail _ (.tail _ (.tail _ (.head _)))))))))))) (.cons ((Pu.at (k:=0) (.n lPl) .one (.mem (.tail _ (.head _))) hpos hzl (by intro _ _; with_unfolding_all rfl)).as (congrArg V.int ?_)) (.cons .one .nil))) (by simp)) _ (sto_local lDu.1 (WPs.drop1 (WPs.drop1 (WPs.loc hQ .k))))
  unfold plI
  generalize plN s.lg (inB a.js) ((rd6 s).getD pp 0) q s.il = P at hne
  cases P with
  | nil=>exact absurd rfl hne
  | cons _ _=>rfl
 ·have he:plN s.lg (inB a.js) ((rd6 s).getD pp 0) q s.il = []:=by
   have:plI s.lg a.js ((rd6 s).getD pp 0) q s.il = []:=by simpa using g
   exact List.map_eq_nil_iff.mp this
  have hd:dueN s.lg (inB a.js) ((rd6 s).getD pp 0) q s.il = (q,((s.lg.drop q).take 1).count ((rd6 s).getD pp 0)):=if_pos he
  rw [hd] at hQ
  refine e_tuple (items_cons (Pu.cel lP (.mem (.tail _ (.tail _ (.tail _ (.tail _ (.tail _ (.tail _ (.tail _ (.tail _ (.tail _ (.head _))))))))))) _ (items_cons ((Pu.n lQ) _ (items_cons (e_method (e_between (a:=q) (b:=q + 1) (Pu.cel lLo (.mem (.tail _ (.tail _ (.tail _ (.tail _ (.tail _ (.tail _ (.head _))))))))) (.n lQ) (.succ (.n lQ)) (.mem (.tail _ (.tail _ (.tail _ (.tail _ (.head _)))))) hz (fun y2=>⟨_,_,gm_list (.mem (.head _)) PySem.F.slot_list_count PySem.F.type_list_count,items_cons (Pu.at (k:=pp) (.cel lRe (.mem (.tail _ (.tail _ (.tail _ (.tail _ (.tail _ (.tail _ (.tail _ (.tail _ (.head _))))))))))) (.cel lP (.mem (.tail _ (.tail _ (.tail _ (.tail _ (.tail _ (.tail _ (.tail _ (.tail _ (.tail _ (.tail _ (.head _))))))))))))) (.mem (.tail _ (.tail _ (.tail _ (.tail _ (.tail _ (.tail _ (.head _)))))))) (by rw [hr]; exact hp) hrz (by intro _ _; with_unfolding_all rfl) _ (items_nil ⟨keep_bi,k_countI (.mem (.head _)) (items_nil ⟨[.int (pp:Nat),.int (q:Nat),.int (((s.lg.drop q).take (q + 1 - q)).count ((rd6 s).getD pp 0):Nat)],rfl,Nat.le_of_ble_eq_true rfl,sto_local lDu.1 ?_⟩)⟩))⟩))))))))
  rw [Nat.add_sub_cancel_left]
  exact WPs.drop1 (WPs.drop1 (WPs.drop1 (WPs.loc hQ .k)))
theorem law_k3 (p:Params) (c:Ctx) (hfu:c.fuel = 70) (B:Base c (K06 p)) (hs:c.env.scope = (fdIn (K06 p) 251).scope) {a:A6} {che:Addr} (hcs:c.env.cells = cs6 a che) {s s':S6} {R:Hp} {t:Nat} {x:Int} {pp q:Nat} {Q:Fl→Lo→Hp→Prop}
  (sz:Sz6 s) (ch:Ch6 R s.lg s.il s.D s.S a.js) (hp:pp < s.rl) (hq:q≤s.lg.length) (hpv:s.pv = some (.int (pp:Nat)))
  (hQ:∀ m,LessM m (mx6 a s' t x)→Q .next m (H6 a s R)) :
  WPs c ((kb6 p).drop 3) (md6 a s' t x q pp (dueN s.lg (inB a.js) ((rd6 s).getD pp 0) q s.il)) (H6 a s R) Q:=by
 have hn:=congrArg Scope.names hs
 conv at hn=>rhs; whnf
 have hC:=cls02 p
 have lMa:Lc c "matcher":=lc_of hn (by kernel_rfl)
 have lQ:Lc c "q":=lc_of hn (by kernel_rfl)
 have lI:Lc c "i":=lc_of hn (by kernel_rfl)
 have lJ:Lc c "j":=lc_of hn (by kernel_rfl)
 have lS:Lc c "size":=lc_of hn (by kernel_rfl)
 have lDu:Lc c "due":=lc_of hn (by kernel_rfl)
 have lP:Ce c "p" a.cp:=ce_of hn hcs (by kernel_rfl) (by kernel_rfl)
 have hr:=rd_len sz
 have hz2:=sz.rz
 have hz:s.lg.length≤1000:=Nat.le_trans sz.z (by decide)
 have hrz:(rd6 s).length≤1000:=by rw [hr]; exact Nat.le_trans hz2 hz
 obtain ⟨hil,ep,z,G,hG,hD,hS,hgL⟩:=ch
 have hcp:(a.cp,O.cell (some (.int (pp:Nat))))∈H6 a s R:=by rw [← hpv]; exact .tail _ (.tail _ (.tail _ (.tail _ (.tail _ (.tail _ (.tail _ (.head _)))))))
 refine s_cons (s1_unpack (e_method ((Pu.n lMa) _ ⟨_,_,gm_inst (K:=K06 p) (C:=242) (f:=196) B hC (by kernel_rfl) (by kernel_rfl) (.mem (.head _)) (.mem (.tail _ (.head _))) rfl,items_cons (Pu.cel lP (.mem hcp) _ (items_cons ((Pu.succ (.cel lP (.mem hcp))) _ (items_cons ((Pu.n lQ) _ (items_nil ⟨keep_K B (by kernel_rfl),CalC.cal (flm_calD p (k:=67) hfu B (as:=rd6 s) (bs:=s.lg) (alo:=pp) (ahi:=pp + 1) (blo:=q) (idx:=idxG (s.lg.take s.il) (inB a.js) true) (.head _) (.tail _ (.head _)) rfl rfl rfl rfl (.tail _ (.tail _ (.tail _ (.head _)))) (.tail _ (.tail _ (.head _))) (in6 hD) (in6 hS) (idx_ok (jk':=fun x=>decide (x∈a.js.map IS.i)) (on:=true) hG (memJ a.js) fun q hq=>in6 (hgL q hq)) (idxG_pw _ _ _) (fun v=>idxG_len _ _ _ v (Nat.le_trans (List.length_take_le _ _) (Nat.le_trans hil hz))) (.inl ⟨rfl,rfl⟩) (Nat.le_succ _) (by rw [hr]; exact hp) hq hrz hz fun i j k hF=>?_)⟩))))))⟩)) (hw:=swap_of hn (by kernel_rfl)))
 obtain ⟨rfl,hd⟩:=log_one (Nat.lt_of_le_of_lt sz.z (by decide)) hz2 hil hp hq hF
 rw [hd]
 refine asg_tupC (hTm p _) B (xs:=[.int (i:Nat),.int (j:Nat),.int (k:Nat)]) (asg_name (sto_local lI.1 (asg_name (sto_local lJ.1 (asg_name (sto_local lS.1 (asgl_nil ?_)))))))
 show WPs c _ _ _ _
 exact s_cons (s1_if (t_cmp ((Pu.tup (xs:=[.int (i:Nat),.int (j:Nat),.int (k:Nat)]) (.cons (.n lI) (.cons (.n lJ) (.cons (.n lS) .nil))) (by simp)) _ ((Pu.n lDu) _ (c_neTup rfl (tru_bool (if_b (fun h=>nomatch h) fun _=>s_nil (s_nil (hQ _ .k))))))) (by with_unfolding_all rfl)))
theorem law_b12 (p:Params) (c:Ctx) (hfu:c.fuel = 70) (B:Base c (K06 p)) (hs:c.env.scope = (fdIn (K06 p) 251).scope) {a:A6} {che:Addr} (hcs:c.env.cells = cs6 a che) {s:S6} {R:Hp} {t:Nat} {x:Int} {Q:Fl→Lo→Hp→Prop}
  (ok:Ok6 c a s R) (hQ:∀ s,Ok6 c a s R→WPs c ((lb6 p).drop 13) (mx6 a s t x) (H6 a s R) Q):WPs c ((lb6 p).drop 12) (mx6 a s t x) (H6 a s R) Q:=by
 have hn:=congrArg Scope.names hs
 conv at hn=>rhs; whnf
 have lRe:Ce c "reader" a.cre:=ce_of hn hcs (by kernel_rfl) (by kernel_rfl)
 have hr:=rd_len ok.sz
 refine s_cons (s1_if (t_cmp (Pu.cel lRe (.mem (.tail _ (.tail _ (.tail _ (.tail _ (.tail _ (.head _))))))) _ (e_list (items_nil ⟨Nat.le_of_ble_eq_true rfl,fun y=>c_neG (xs:=rd6 s) (ys:=[]) eqF_int (.mem (.tail _ (.tail _ (.tail _ (.tail _ (.head _)))))) (.mem (.head _)) (tru_bool (if_b (fun g=>?_) fun g=>s_nil (WPs.drop1 (hQ s ok))))⟩))) (by with_unfolding_all rfl)))
 have h0:0 < s.rl:=by
  rw [← hr]
  exact List.length_pos_iff.mpr (by simpa using g)
 refine WPs.drop1 ?_
 refine law_k0 p c B hs hcs ok h0 fun pp q pl hp hq=>?_
 refine law_k2 p c B hs hcs (s:={ s with pv:=some (.int (pp:Nat)) }) ⟨ok.sz.z,ok.sz.z0,ok.sz.rz,ok.sz.tri⟩ ok.ch.1 hp rfl ?_
 refine law_k3 p c hfu B hs hcs (s:={ s with pv:=some (.int (pp:Nat)) }) ⟨ok.sz.z,ok.sz.z0,ok.sz.rz,ok.sz.tri⟩ ok.ch hp hq rfl fun m hm=>?_
 exact WPs.loc (hQ { s with pv:=some (.int (pp:Nat)) } ⟨ok.bs,⟨ok.sz.z,ok.sz.z0,ok.sz.rz,ok.sz.tri⟩,ok.ch,ok.nt,ok.ct⟩) hm
section
variable (p:Params) (c:Ctx) (hfu:c.fuel = 70) (B:Base c (K06 p)) {mg:Str→Option Value} (G:RatB c mg) (hs:c.env.scope = (fdIn (K06 p) 251).scope) {a:A6} {che:Addr} (hcs:c.env.cells = cs6 a che) {s:S6} {R:Hp} {t:Nat} {x:Int} {Q:Fl→Lo→Hp→Prop}
include hfu B G hs hcs
theorem law_b5f (ok:Ok6 c a s R) (hQ:∀ s R m,Ok6 c a s R→LessM m (m0 a s)→Q .next m (H6 a s R)):WPs c ((lb6 p).drop 5) (m6 a s t x) (H6 a s R) Q:=by
 refine law_b5 p c hfu B hs hcs ok fun s R ok=>?_
 refine law_b6 p c B hs hcs ok fun s ok=>?_
 refine law_b7 p c B hs hcs ok ?_
 refine law_b8 p c hfu B G hs hcs ok fun s R ok=>?_
 refine law_b9 p c hfu B hs hcs ok fun s R ok=>?_
 refine law_b10 p c hfu B hs hcs ok ?_
 refine law_b11 p c B hs hcs ok ?_
 refine law_b12 p c hfu B hs hcs ok fun s ok=>?_
 exact law_b13 p c hfu B hs hcs ok fun m hm=>hQ s R m ok hm
theorem law_body (ok:Ok6 c a s R) (ht:t < a.dl.length) (hQ:∀ s R m,Ok6 c a s R→LessM m (m0 a s)→Q .next m (H6 a s R)):WPs c (lb6 p) (("turn",.int (t:Nat)) :: m0 a s) (H6 a s R) Q:=by
 refine law_b0 p c B hs rfl (in6 ok.bs.hdz) ht ok.bs.dl ?_
 refine law_b2 p c B hs hcs ok fun s ok=>?_
 refine law_b3 p c hfu B hs hcs ?_
 refine law_b4 p c hfu B hs hcs ok fun s R ok=>?_
 exact law_b5f p c hfu B G hs hcs ok hQ
theorem law_first {ci:Option V} (bs:Bs6 c a R) (sz:Sz6 s) (ht:0 < a.dl.length) (h2:a.dl.getD 0 0 = 2) (hQ:∀ s R m,Ok6 c a s R→LessM m (m0 a s)→Q .next m (H6 a s R)):WPs c (lb6 p) [("turn",.int (0:Nat)),("matcher",.ref a.x),("deeds",.ref a.dz)] (Hw6 a s ci R) Q:=by
 have hn:=congrArg Scope.names hs
 conv at hn=>rhs; whnf
 have lK:Lc c "kind":=lc_of hn (by kernel_rfl)
 refine law_b0 (a:=a) p c B hs rfl (in6 bs.hdz) ht bs.dl ?_
 rw [h2]
 refine s_cons (s1_ifP (.and2 (b2:=false) (.eqI (.n lK) .one) fun h=>absurd h (by decide)) (fun h=>absurd h (by decide)) fun _=>s_nil ?_)
 refine s_skipK lK rfl (by decide) ?_ (by with_unfolding_all rfl)
 refine law_b4y p c hfu B hs hcs (x:=2) (t:=0) .k (by decide) bs sz fun s R ok=>?_
 exact law_b5f p c hfu B G hs hcs ok hQ
end
noncomputable def Lp6 (c:Ctx) (a:A6) (s0:S6) (R0:Hp) (t:Nat) (m:Lo) (H:Hp):Prop:=(t = 0∧Less m H [("matcher",.ref a.x),("deeds",.ref a.dz)] (Hw6 a s0 none R0)) ∨ (0 < t∧∃ s R,Ok6 c a s R∧Less m H (m0 a s) (H6 a s R))
theorem law_loop (p:Params) (c:Ctx) (hfu:c.fuel = 70) (B:Base c (K06 p)) {mg:Str→Option Value} (G:RatB c mg) (hs:c.env.scope = (fdIn (K06 p) 251).scope) {a:A6} {che:Addr} (hcs:c.env.cells = cs6 a che) {s:S6} {R:Hp} {Q:Fl→Lo→Hp→Prop}
  (bs:Bs6 c a R) (sz:Sz6 s) (ht:0 < a.dl.length) (h2:a.dl.getD 0 0 = 2) (hQ:∀ m H,(∃ ps,(248,O.obj (tabObj ps))∈H)→(∃ ps,(220,O.obj (tabObj ps))∈H)→Q (.ret (.bool true)) m H):WPs c ((bodyIn (fdIn (K06 p) 251)).drop 6) [("matcher",.ref a.x),("deeds",.ref a.dz)] (Hw6 a s none R) Q:=by
 have hn:=congrArg Scope.names hs
 conv at hn=>rhs; whnf
 have gl:Glob c "len" (.bi "len"):=B.len hn (by kernel_rfl)
 have gr:Glob c "range" (.ty "range"):=B.range hn (by kernel_rfl)
 have lD:Lc c "deeds":=lc_of hn (by kernel_rfl)
 have lT:Lc c "turn":=lc_of hn (by kernel_rfl)
 have hdl:=bs.dl
 refine s_for_range (e_call (e_glob gr (items_cons ((Pu.lenM gl (.n lD) (.mem (in6 bs.hdz)) (Nat.le_trans hdl (by decide)) (hE:=fun _ h=>e_call h)) _ (items_nil ⟨keep_ty,k_range fun r1=>?_⟩)))))
 refine ⟨r1,0,((a.dl.length:Nat):Int),rfl,.mem (.head _),⟨by decide,by decide⟩,in_rng (Nat.le_trans hdl (by decide)),Lp6 c a s R,.inl ⟨rfl,Less.heap (.cons _ (.refl _))⟩,fun i m2 H2 hi hI=>?_,fun m2 H2 hI=>?_⟩
 ·have hi':i < a.dl.length:=Int.ofNat_lt.mp (by rwa [Int.zero_add] at hi)
  rw [Int.zero_add]
  rcases hI with ⟨rfl,hl⟩ | ⟨hi0,s,R,ok,hl⟩
  ·refine On1.less hl (asg_name (sto_local lT.1 ?_))
   exact law_first p c hfu B G hs hcs bs sz ht h2 fun s R m ok hm=>.inr ⟨Nat.succ_pos _,s,R,ok,less_m hm⟩
  ·refine On1.less hl (asg_name (sto_local lT.1 ?_))
   exact law_body p c hfu B G hs hcs ok hi' fun s R m ok hm=>.inr ⟨Nat.succ_pos _,s,R,ok,less_m hm⟩
 ·rw [in_len] at hI
  rcases hI with ⟨e,_⟩ | ⟨_,s,R,ok,hl⟩
  ·exact absurd e (Nat.ne_of_gt ht)
  ·refine WPs.less hl (s_cons (s1_return (e_bool (hQ _ _ ?_ ?_))))
   ·exact let ⟨ps,h⟩:=ok.bs.tab; ⟨ps,in6 h⟩
   ·exact ⟨s.ps,.tail _ (.tail _ (.tail _ (.tail _ (.tail _ (.tail _ (.tail _ (.tail _ (.head _))))))))⟩
theorem perm_idx {α:Type} (z:α) (l:List α) (is:List Nat) (h:is.isPerm (List.range l.length) = true):List.Perm (is.map fun i=>l.getD i z) l:=by
 have p:=(List.isPerm_iff.mp h).map fun i=>l.getD i z
 have e:(List.range l.length).map (fun i=>l.getD i z) = l:=by
  refine List.ext_getElem (by simp) fun i h1 h2=>?_
  simp [List.getD,h2]
 rwa [e] at p
theorem lam_junk {c:Ctx} {k:Nat} {W:Hp} {f c' cju rj:Addr} {js:List IS} {p1 p2 p3 p4:Pos} {scope:Scope} {q:Str} {pm ctv:Value} {oc:Obj} {vs:Array Value} {t:Nat} (hlim:c.Knows Heap.NoLimit)
  (hk:scope.kind = .function) (hco:scope.isCoroutine = false) (hgen:scope.isGenerator = false) (hnames:scope.names = [(("item":Str),NameKind.local),("junk",NameKind.free)])
  (hoc:oc.data = .fields vs) (hq:vs[1]? = some (.str q t))
  (h1:(f,O.obj (kla_obj "<lambda>" q ⟨[],[⟨"item",none,p1⟩],none,[],[],none,[]⟩ (.Compare (.Name "item" p2) [.In] [.Name "junk" p3] p4) scope [("junk",cju)] pm c' ctv))∈W) (h2:(c',O.obj oc)∈W) (h3:(cju,O.cell (some (.ref rj)))∈W) (h4:(rj,O.list (js.map IS.v))∈W) :
  JunkIn c (k + 1) (.ref f) (fun x=>decide (x∈js)) W:=fun c2 hf hp hw hkn=>by
 refine .inr ⟨fun m H' Q hW hQ=>tru_fn (Sees.mem (hW _ h1)) rfl hQ,fun H' hW=>keep_fn (Sees.mem (hW _ h1)) rfl,fun x m H' Q hW hQ=>?_⟩
 refine CalC.cal (cal_lam (bs:=[(("item":Str),x.v)]) hf (Sees.mem (hW _ h1)) rfl ?_ (hkn _ hlim) rfl hk hco hgen ?_ ?_ ?_ fun L=>?_)
 ·intro m s R
  exact ⟨c',oc,vs,t,rfl,(R.obj _ _ (hW _ h2)).1,hoc,hq⟩
 ·intro y hy
  have hy:y∈scope.names:=hy
  rw [hnames] at hy
  rcases List.mem_cons.mp hy with rfl | hy
  ·simp
  ·rcases List.mem_cons.mp hy with rfl | hy
   ·simp
   ·cases hy
 ·intro m H s vvs R r
  obtain ⟨v,rfl,hv⟩:=r.sole
  exact ⟨[(("item":Str),v)],.of_eq rfl,rfl,.one hv⟩
 ·intro y hy
  show scope.names.lookup _ = _
  rw [hnames]
  simp at hy
  subst hy
  rfl
 ·have hn:(c2.lam (kla_fn "<lambda>" q ⟨[],[⟨"item",none,p1⟩],none,[],[],none,[]⟩ (.Compare (.Name "item" p2) [.In] [.Name "junk" p3] p4) scope [("junk",cju)] pm (.ref c') ctv) f L k hf hk).env.scope.names = [(("item":Str),NameKind.local),("junk",NameKind.free)]:=hnames
  have hcs:(c2.lam (kla_fn "<lambda>" q ⟨[],[⟨"item",none,p1⟩],none,[],[],none,[]⟩ (.Compare (.Name "item" p2) [.In] [.Name "junk" p3] p4) scope [("junk",cju)] pm (.ref c') ctv) f L k hf hk).env.cells = [(("junk":Str),cju)]:=rfl
  refine e_cmp ?_
  refine e_loc hn (by decide) (.head _) ?_
  refine e_free hn hcs (by decide) (.head _) (Sees.mem (hW _ h3)) ?_
  exact c_in (Sees.mem (hW _ h4)) hQ
noncomputable def jG6 (hd:Int) (i:Nat):Bool:=(hd.fdiv ((2:Int) ^ ((0:Int) + (i:Int)).toNat)).fmod 2 == 1
noncomputable def js6 (hd:Int):List Int:=((List.range 3).filter (jG6 hd)).map fun (i:Nat)=>0 + (i:Int)
theorem js6_p (hd:Int):(js6 hd).Pairwise (· < ·):=by
 unfold js6
 refine List.Pairwise.map _ (fun a b h=>?_) (List.Pairwise.filter _ List.pairwise_lt_range)
 rw [Int.zero_add,Int.zero_add]; exact Int.ofNat_lt.mpr h
theorem js6_l (hd:Int):(js6 hd).length≤3:=by
 unfold js6
 rw [List.length_map]
 exact Nat.le_trans (List.length_filter_le _ _) (Nat.le_of_eq List.length_range)
noncomputable abbrev lg0:List Int:=[0,1,0,1]
noncomputable abbrev sc6 (cju cp cin cre clo che:Addr) (T:Hp):Hp:=(cju,.cell none) :: (cp,.cell none) :: (cin,.cell none) :: (cre,.cell none) :: (clo,.cell none) :: (che,.cell none) :: T
noncomputable abbrev st6 (cju cp cin cre clo che rd lo rj:Addr) (js:List Int) (hd:Int) (ps:Array Value):Hp:=(rd,.list ((lg0.take 3).map .int)) :: (lo,.list (lg0.map .int)) :: (rj,.list (js.map .int)) :: (cju,.cell (some (.ref rj))) :: (cp,.cell none) :: (cin,.cell none) :: (cre,.cell (some (.ref rd))) :: (clo,.cell (some (.ref lo))) :: (che,.cell (some (.int hd))) :: (248,.obj (tabObj ps)) :: (220,.obj (tabObj #[])) :: []
theorem head_at (script:List Int):∃ hd,(script.map V.int ++ [V.int 5])[(0:Int).toNat]? = some (V.int hd):=by
 cases script with
 | nil=>exact ⟨5,rfl⟩
 | cons x l=>exact ⟨x,rfl⟩
theorem law_1 (p:Params) (c:Ctx) (B:Base c (K06 p)) (hs:c.env.scope = (fdIn (K06 p) 251).scope) {cju cp cin cre clo che:Addr} (hcs:c.env.cells = [(("junk":Str),cju),("p",cp),("indexed",cin),("reader",cre),("log",clo),("head",che)]) {script:List Int} {rs:Addr} (hlen:script.length≤63) (hS:∀ H,Sees c H rs (.list (script.map .int))) {Q:Fl→Lo→Hp→Prop}
  (hQ:∀ rd lo rj hd,WPs c ((bodyIn (fdIn (K06 p) 251)).drop 4) [("script",.ref rs)] (st6 cju cp cin cre clo che rd lo rj (js6 hd) hd #[]) Q) :
  WPs c (bodyIn (fdIn (K06 p) 251)) [("script",.ref rs)] (sc6 cju cp cin cre clo che [(248,.obj (tabObj #[])),(220,.obj (tabObj #[]))]) Q:=by
 have hn:=congrArg Scope.names hs
 conv at hn=>rhs; whnf
 have gr:Glob c "range" (.ty "range"):=B.range hn (by kernel_rfl)
 have lSc:Lc c "script":=lc_of hn (by kernel_rfl)
 have lHe:Ce c "head" che:=ce_of hn hcs (by kernel_rfl) (by kernel_rfl)
 have lJu:Ce c "junk" cju:=ce_of hn hcs (by kernel_rfl) (by kernel_rfl)
 have lLo:Ce c "log" clo:=ce_of hn hcs (by kernel_rfl) (by kernel_rfl)
 have lRe:Ce c "reader" cre:=ce_of hn hcs (by kernel_rfl) (by kernel_rfl)
 have kHe:c.env.kindOf "head" = some .cell:=kind_of hn (by decide +kernel)
 have kJu:c.env.kindOf "junk" = some .cell:=kind_of hn (by decide +kernel)
 have kLo:c.env.kindOf "log" = some .cell:=kind_of hn (by decide +kernel)
 have kRe:c.env.kindOf "reader" = some .cell:=kind_of hn (by decide +kernel)
 obtain ⟨hd,hhd⟩:=head_at script
 have hz:script.length + 1≤1000:=Nat.le_trans (Nat.succ_le_succ hlen) (by decide)
 have hsl:sizeLine = 16777216:=rfl
 refine s_cons (s1_assign (e_sub (e_binop ((Pu.n lSc) _ (e_list (items_cons (Pu.one _ (items_nil ⟨Nat.le_of_ble_eq_true rfl,fun y1=>o_cat (ys:=[V.int 5]) (hS _) (.mem (.head _)) (fun y2=>?_) (by rw [List.length_map]; simp only [List.length_singleton]; exact as2 2 (.l Z0 (.n 63)) (.e Z1 (.n 16777216)) (.l (.a Z0 N1) Z1) [_,_] hlen hsl)⟩))))))))
 show WPe c _ _ _ _
 refine Pu.one (i:=0) _ (sub_list (k:=0) (.mem (.head _)) (by decide) hhd (sto_ce kHe lHe (.tail (.tail (.tail (.tail (.tail (.tail (.tail (.head _)))))))) ?_) (by intro _ _; with_unfolding_all rfl) (by rw [List.length_append,List.length_map]; simp only [List.length_singleton]; exact as2 2 (.l Z0 (.n 63)) (.e Z1 (.n 16777216)) (.l (.a Z0 N1) Z1) [_,_] hlen hsl))
 refine WPs.drop1 (WPs.drop1 ?_)
 refine s_cons (s1_assign (e_compR (a:=0) (b:=3) (cl:=[("head",che)]) (clo_eq hcs ?hcl) rfl (fun i=>if jG6 hd i then some (.int (0 + (i:Int))) else none) (fun Q hQ=>e_call (e_glob gr (items_cons (e_int (items_nil ⟨keep_ty,k_range fun r=>hQ r⟩))))) (by decide) (by decide) (fun c2 hc i hi=>?_) (fun rj=>?_)) (swaps_no hn (by decide +kernel)))
 case hcl=>exact Clo.skip (by decide) (Clo.skip (by decide) (Clo.take (CLoc.tail (by decide) (CLoc.tail (by decide) (CLoc.tail (by decide) (CLoc.tail (by decide) (CLoc.tail (by decide) (CLoc.head _)))))) (Clo.nil _)))
 ·have hn2:=hc.named hn
  have lV:Lc c2 "v":=lc_of hn2 (by kernel_rfl)
  have lH2:Ce c2 "head" che:=ce_of hn2 hc.cells (by kernel_rfl) (by kernel_rfl)
  have hi3:i < 3:=hi
  have hpw:(0:Int)≤0 + (i:Int)∧(Builtin.Int.intBits 2:Int) * (0 + (i:Int))≤2 ^ 27∧(2:Int) ^ ((0:Int) + (i:Int)).toNat≠0∧((2:Int) ^ ((0:Int) + (i:Int)).toNat).natAbs < 1073741824:=by
   have h3:i = 0 ∨ i = 1 ∨ i = 2:=by
    rcases Nat.lt_succ_iff_lt_or_eq.mp hi3 with h | h
    ·rcases Nat.lt_succ_iff_lt_or_eq.mp h with h | h
     ·exact .inl (Nat.lt_one_iff.mp h)
     ·exact .inr (.inl h)
    ·exact .inr (.inr h)
   rcases h3 with rfl | rfl | rfl <;> decide +kernel
  refine asg_name (sto_local lV.1 ?_)
  show WPt c2 _ _ _ _
  have pw:∀ {pos p1 p2:Pos} {k1:Nat} {m H},m.lookup ("v":Str) = some (.int (0 + (i:Int)))→Pu c2 (.BinOp (.Constant (.int 2) k1 p1) .Pow (.Name "v" p2) pos) m H (.int ((2:Int) ^ ((0:Int) + (i:Int)).toNat)):=fun {pos p1 p2 k1 m H} hm Q h=>e_binop (Pu.one _ (Pu.nm lV hm _ (o_pow h hpw.1 hpw.2.1)))
  refine (PuT.eqI (.mod (.div (.cel lH2 (.mem (.tail _ (.tail _ (.tail _ (.tail _ (.tail _ (.head _)))))))) (pw rfl) hpw.2.2.1 hpw.2.2.2) .one) .one) _ (if_b (fun g=>?_) fun g=>?_)
  ·show WPe c2 _ _ _ _
   exact (Pu.n lV) _ ⟨(if_pos g).symm,Less.refl _ _⟩
  ·exact ⟨(if_neg (by show ¬ (jG6 hd i = true); unfold jG6; rw [g]; decide)).symm,Less.refl _ _⟩
 rw [show ((3:Int) - 0).toNat = 3 from rfl,filterMap_if,show ((List.range 3).filter (jG6 hd)).map (fun (i:Nat)=>0 + (i:Int)) = js6 hd from rfl]
 refine sto_ce kJu lJu (.tail (.head _)) ?_
 show WPs c _ _ _ _
 refine s_cons (s1_assign (e_list (items_cons (Pu.one _ (items_cons (Pu.one _ (items_cons (Pu.one _ (items_cons (Pu.one _ (items_nil ⟨Nat.le_of_ble_eq_true rfl,fun lo=>sto_ce kLo lLo (.tail (.tail (.tail (.tail (.tail (.tail (.head _))))))) ?_⟩)))))))))))
 show WPs c _ _ _ _
 refine s_cons (s1_assign (e_upto (n:=3) (xs:=lg0) (f:=V.int) (Pu.cel lLo (.mem (.tail _ (.tail _ (.tail _ (.tail _ (.tail _ (.tail _ (.head _))))))))) .one (.mem (.head _)) (by decide) (fun rd=>sto_ce kRe lRe (.tail (.tail (.tail (.tail (.tail (.tail (.head _))))))) ?_)))
 exact hQ rd lo rj hd
section
set_option maxHeartbeats 4000000
noncomputable abbrev lam6:Scope:={ kind:=.function,names:=[("item",NameKind.local),("junk",NameKind.free)],isGenerator:=false,isCoroutine:=false }
noncomputable abbrev lamO6 (q:Str) (pm:Value) (cju c':Addr) (ctv:Value) (p1 p2 p3 p4:Pos):Obj:=kla_obj "<lambda>" q ⟨[],[⟨"item",none,p1⟩],none,[],[],none,[]⟩ (.Compare (.Name "item" p2) [.In] [.Name "junk" p3] p4) lam6 [("junk",cju)] pm c' ctv
noncomputable abbrev sO (D S S2 lo rd:Addr):S6:=⟨lg0,3,0,none,none,lo,rd,D,S,S2,.none,.none,.none,none,#[]⟩
theorem made6 {c:Ctx} {m:Lo} {x d D S S2 rd lo rj cju cp cin cre clo che:Addr} {z1 z2:Raw} {ep:Nat} {G:GL} {J:At} {js:List Int} {jk:IS→Bool} {hd:Int} {ps:Array Value} {U:Hp} {a:A6}
  (e:a.x = x∧a.d = d∧a.clo = clo∧a.cre = cre∧a.cin = cin∧a.cp = cp∧a.J = J) :
  To c m (mkH x d rd lo D S S2 z1 z2 ep G (lg0.map IS.i) (.at J) jk true (U ++ st6 cju cp cin cre clo che rd lo rj js hd ps)) m (Hw6 a (sO D S S2 lo rd) none ((rj,.list (js.map .int)) :: (cju,.cell (some (.ref rj))) :: (248,.obj (tabObj ps)) :: U)):=by
 obtain ⟨rfl,rfl,rfl,rfl,rfl,rfl,rfl⟩:=e
 refine (To.less (Less.heap (.cons _ (.cons _ (.cons _ (.cons_cons _ (.cons_cons _ (List.sublist_append_right (gL G) _)))))))).trans ?_
 refine (To.ns (NsEq.eq (ks:=mKeys) (fs':=f6 a.J (sO D S S2 lo rd)) ⟨by kernel_rfl,by kernel_rfl,by kernel_rfl⟩)).trans ?_
 refine (To.less (m':=m) (Less.perm (H':=(a.x,O.inst 242 a.d) :: (a.d,.ns (f6 a.J (sO D S S2 lo rd))) :: (st6 cju a.cp a.cin a.cre a.clo che rd lo rj js hd ps ++ U)) ((List.perm_append_comm.cons _).cons _))).trans ?_
 refine (To.less (m':=m) (Less.heap (H':=[(a.x,O.inst 242 a.d),(a.d,.ns (f6 a.J (sO D S S2 lo rd))),(rd,.list ((lg0.take 3).map .int)),(lo,.list (lg0.map .int)),(rj,.list (js.map .int)),(cju,.cell (some (.ref rj))),(a.cp,.cell none),(a.cin,.cell none),(a.cre,.cell (some (.ref rd))),(a.clo,.cell (some (.ref lo))),(248,.obj (tabObj ps)),(220,.obj (tabObj #[]))] ++ U) (.cons_cons _ (.cons_cons _ (.cons_cons _ (.cons_cons _ (.cons_cons _ (.cons_cons _ (.cons_cons _ (.cons_cons _ (.cons_cons _ (.cons_cons _ (.cons _ (.refl _))))))))))))) ).trans ?_
 exact To.less (Less.perm ((perm_idx (0,O.cell none) [(a.x,O.inst 242 a.d),(a.d,.ns (f6 a.J (sO D S S2 lo rd))),(rd,.list ((lg0.take 3).map .int)),(lo,.list (lg0.map .int)),(rj,.list (js.map .int)),(cju,.cell (some (.ref rj))),(a.cp,.cell none),(a.cin,.cell none),(a.cre,.cell (some (.ref rd))),(a.clo,.cell (some (.ref lo))),(248,.obj (tabObj ps)),(220,.obj (tabObj #[]))] [0,1,3,2,9,8,7,6,11,4,5,10] (by kernel_rfl)).append_right U))
noncomputable def dl6 (script:List Int):List Int:=([2] ++ script) ++ [10,33,5,1,4,18,2,0,43,53]
theorem dl6_len (script:List Int):(dl6 script).length = script.length + 11:=by
 unfold dl6; rw [List.length_append,List.length_append]; simp only [List.length_cons,List.length_nil]; exact as0 1 (.e (.a (.a (.a (.n 0) N1) Z0) (.a (.a (.a (.a (.a (.a (.a (.a (.a (.a (.n 0) N1) N1) N1) N1) N1) N1) N1) N1) N1) N1)) (.a Z0 (.n 11))) [_]
theorem law_2 (p:Params) (c:Ctx) (B:Base c (K06 p)) (hs:c.env.scope = (fdIn (K06 p) 251).scope) {a:A6} {s:S6} {R:Hp} {script:List Int} {rs:Addr} (hlen:script.length≤63) (hS:∀ H,Sees c H rs (.list (script.map .int))) {Q:Fl→Lo→Hp→Prop}
  (hQ:∀ dz,WPs c ((bodyIn (fdIn (K06 p) 251)).drop 6) [("matcher",.ref a.x),("deeds",.ref dz)] (Hw6 a s none ((dz,.list ((dl6 script).map .int)) :: R)) Q) :
  WPs c ((bodyIn (fdIn (K06 p) 251)).drop 5) [("matcher",.ref a.x),("script",.ref rs)] (Hw6 a s none R) Q:=by
 have hn:=congrArg Scope.names hs
 conv at hn=>rhs; whnf
 have lSc:Lc c "script":=lc_of hn (by kernel_rfl)
 have lD:Lc c "deeds":=lc_of hn (by kernel_rfl)
 have hsl:sizeLine = 16777216:=rfl
 refine s_cons (s1_assign (e_binop (e_binop (e_list (items_cons (Pu.one _ (items_nil ⟨Nat.le_of_ble_eq_true rfl,fun y1=>(Pu.n lSc) _ (o_cat (xs:=[V.int 2]) (.mem (.head _)) (hS _) (fun y2=>?_) (by rw [List.length_map]; simp only [List.length_singleton]; exact as2 2 (.l Z0 (.n 63)) (.e Z1 (.n 16777216)) (.l (.a N1 Z0) Z1) [_,_] hlen hsl))⟩)))))))
 show WPe c _ _ _ _
 refine e_list (items_cons (Pu.one _ (items_cons (Pu.one _ (items_cons (Pu.one _ (items_cons (Pu.one _ (items_cons (Pu.one _ (items_cons (Pu.one _ (items_cons (Pu.one _ (items_cons (Pu.one _ (items_cons (Pu.one _ (items_cons (Pu.one _ (items_nil ⟨Nat.le_of_ble_eq_true rfl,fun y3=>o_cat (.mem (.tail _ (.head _))) (.mem (.head _)) (fun dz=>sto_local lD.1 ?_) ?_⟩)))))))))))))))))))))
 ·have e:([V.int 2] ++ script.map V.int) ++ [V.int 10,V.int 33,V.int 5,V.int 1,V.int 4,V.int 18,V.int 2,V.int 0,V.int 43,V.int 53] = (dl6 script).map V.int:=by
   unfold dl6; rw [List.map_append,List.map_append]; rfl
  rw [e]
  show WPs c _ _ _ _
  refine WPs.less (Less.heap (.cons_cons _ (.cons _ (.cons _ (.cons _ (.refl _)))))) ?_
  refine WPs.sink (WPs.loc (hQ dz) .k)
 ·rw [List.length_append,List.length_map]; simp only [List.length_cons,List.length_nil]; exact as2 2 (.l Z0 (.n 63)) (.e Z1 (.n 16777216)) (.l (.a (.a (.a (.n 0) N1) Z0) (.a (.a (.a (.a (.a (.a (.a (.a (.a (.a (.n 0) N1) N1) N1) N1) N1) N1) N1) N1) N1) N1)) Z1) [_,_] hlen hsl
theorem e_lamArg {c:Ctx} {mg:Str→Option Value} (LB:LamBase c mg 250 248) (hlim:c.Knows Heap.NoLimit) {cju cp cin cre clo che rd lo rj:Addr} (hcs:c.env.cells = [(("junk":Str),cju),("p",cp),("indexed",cin),("reader",cre),("log",clo),("head",che)]) {js:List Int} {hd:Int}
  {m:Lo} {Q:V→Lo→Hp→Prop} {q4 p1 p2 p3 p4:Pos}
  (h:∀ J W U ps,(V.at J).notBi = true→(∀ k,JunkIn c (k + 1) (.at J) (fun x=>decide (x∈js.map IS.i)) W)→(∀ q∈W,q∈U ++ st6 cju cp cin cre clo che rd lo rj js hd ps)→(∀ q∈W,q∈(rj,O.list (js.map .int)) :: (cju,.cell (some (.ref rj))) :: (248,.obj (tabObj ps)) :: U)→Q (.at J) m (U ++ st6 cju cp cin cre clo che rd lo rj js hd ps)) :
  WPe c (.Lambda ⟨[],[⟨"item",none,p1⟩],none,[],[],none,[]⟩ (.Compare (.Name "item" p2) [.In] [.Name "junk" p3] p4) lam6 q4) m (st6 cju cp cin cre clo che rd lo rj js hd #[]) Q:=by
 refine e_lambda (ps:=#[]) (clos:=[("junk",cju)]) LB rfl (clo_eq hcs (Clo.skip (by decide) (Clo.take (CLoc.head _) (Clo.nil _)))) (.tail (.tail (.tail (.tail (.tail (.tail (.tail (.tail (.tail (.head _)))))))))) trivial rfl ?_
 intro f c' oc ctv vs t ps' hoc hq
 refine h (.ref f) [(f,.obj (lamO6 (c.env.qual ++ "<lambda>") ((mg "__name__").getD .none) cju c' ctv p1 p2 p3 p4)),(c',.obj oc),(cju,.cell (some (.ref rj))),(rj,.list ((js.map IS.i).map IS.v))] [(f,.obj (lamO6 (c.env.qual ++ "<lambda>") ((mg "__name__").getD .none) cju c' ctv p1 p2 p3 p4)),(c',.obj oc)] ps' rfl (fun k=>lam_junk (scope:=lam6) (js:=js.map IS.i) hlim rfl rfl rfl rfl hoc hq (.head _) (.tail _ (.head _)) (.tail _ (.tail _ (.head _))) (.tail _ (.tail _ (.tail _ (.head _))))) (fun q hq=>?_) fun q hq=>?_
 ·rw [isV] at hq
  rcases List.mem_cons.mp hq with rfl | hq
  ·exact .head _
  rcases List.mem_cons.mp hq with rfl | hq
  ·exact .tail _ (.head _)
  rcases List.mem_cons.mp hq with rfl | hq
  ·exact .tail _ (.tail _ (.tail _ (.tail _ (.tail _ (.head _)))))
  rcases List.mem_cons.mp hq with rfl | hq
  ·exact .tail _ (.tail _ (.tail _ (.tail _ (.head _))))
  ·cases hq
 ·rw [isV] at hq
  rcases List.mem_cons.mp hq with rfl | hq
  ·exact .tail _ (.tail _ (.tail _ (.head _)))
  rcases List.mem_cons.mp hq with rfl | hq
  ·exact .tail _ (.tail _ (.tail _ (.tail _ (.head _))))
  rcases List.mem_cons.mp hq with rfl | hq
  ·exact .tail _ (.head _)
  rcases List.mem_cons.mp hq with rfl | hq
  ·exact .head _
  ·cases hq
theorem law_s (p:Params) (c:Ctx) (hfu:c.fuel = 70) (B:Base c (K06 p)) {mg:Str→Option Value} (LB:LamBase c mg 250 248) (G:RatB c mg) (hs:c.env.scope = (fdIn (K06 p) 251).scope) {cju cp cin cre clo che:Addr} (hcs:c.env.cells = [(("junk":Str),cju),("p",cp),("indexed",cin),("reader",cre),("log",clo),("head",che)]) {script:List Int} {rs:Addr} (hlen:script.length≤63) (hS:∀ H,Sees c H rs (.list (script.map .int))) :
  WPs c (bodyIn (fdIn (K06 p) 251)) [("script",.ref rs)] (sc6 cju cp cin cre clo che [(248,.obj (tabObj #[])),(220,.obj (tabObj #[]))]) fun f _ H'=>f = .ret (.bool true)∧(∃ ps,(248,O.obj (tabObj ps))∈H')∧∃ ps,(220,O.obj (tabObj ps))∈H':=by
 have hn:=congrArg Scope.names hs
 conv at hn=>rhs; whnf
 have gS:Glob c "SequenceMatcher" (.ref 242):=B.glob (kind_of hn (by decide +kernel)) (by kernel_rfl) rfl
 have lMa:Lc c "matcher":=lc_of hn (by kernel_rfl)
 have lJu:Ce c "junk" cju:=ce_of hn hcs (by kernel_rfl) (by kernel_rfl)
 have lLo:Ce c "log" clo:=ce_of hn hcs (by kernel_rfl) (by kernel_rfl)
 have lRe:Ce c "reader" cre:=ce_of hn hcs (by kernel_rfl) (by kernel_rfl)
 refine law_1 p c B hs hcs hlen hS fun rd lo rj hd=>?_
 have fin:∀ (x d D S S2:Addr) (J:At) (W U:Hp) (ps:Array Value),(V.at J).notBi = true→(∀ k,JunkIn c (k + 1) (.at J) (fun x=>decide (x∈(js6 hd).map IS.i)) W)→(∀ q∈W,q∈(rj,O.list ((js6 hd).map .int)) :: (cju,.cell (some (.ref rj))) :: (248,.obj (tabObj ps)) :: U) →
   WPs c ((bodyIn (fdIn (K06 p) 251)).drop 5) [("matcher",.ref x),("script",.ref rs)] (Hw6 ⟨x,d,clo,cre,cin,cp,cju,rj,0,js6 hd,dl6 script,J,W⟩ (sO D S S2 lo rd) none ((rj,.list ((js6 hd).map .int)) :: (cju,.cell (some (.ref rj))) :: (248,.obj (tabObj ps)) :: U)) fun f _ H'=>f = .ret (.bool true)∧(∃ ps,(248,O.obj (tabObj ps))∈H')∧∃ ps,(220,O.obj (tabObj ps))∈H':=by
  intro x d D S S2 J W U ps h1 h2 h3
  refine law_2 p c B hs hlen hS (a:=⟨x,d,clo,cre,cin,cp,cju,rj,0,js6 hd,dl6 script,J,W⟩) fun dz=>?_
  refine law_loop p c hfu B G hs (a:=⟨x,d,clo,cre,cin,cp,cju,rj,dz,js6 hd,dl6 script,J,W⟩) hcs ⟨h1,h2,fun q hq=>.tail _ (h3 q hq),.tail _ (.tail _ (.head _)),.tail _ (.head _),.head _,⟨ps,.tail _ (.tail _ (.tail _ (.head _)))⟩,js6_p hd,js6_l hd,?_⟩ ⟨by show lg0.length≤62; decide,by show 0 < lg0.length; decide,by show 3≤lg0.length; decide,trivial⟩ ?_ rfl fun m H q1 q2=>⟨rfl,q1,q2⟩
  ·show (dl6 script).length≤74
   rw [dl6_len]; exact as1 1 (.l Z0 (.n 63)) (.l (.a Z0 (.n 11)) (.n 74)) [_] hlen
  ·show 0 < (dl6 script).length
   rw [dl6_len]; exact as0 1 (.t (.n 0) (.a Z0 (.n 11))) [_]
 refine s_cons (s1_if (t_cmp (Pu.cel lJu (.mem (.tail _ (.tail _ (.tail _ (.head _))))) _ (e_list (items_nil ⟨Nat.le_of_ble_eq_true rfl,fun y=>c_eqG (xs:=js6 hd) (ys:=[]) eqF_int (.mem (.tail _ (.tail _ (.tail _ (.head _))))) (.mem (.head _)) (tru_bool (if_b (fun g=>?_) fun g=>?_))⟩))) (by with_unfolding_all rfl)))
 ·have hj:js6 hd = []:=of_decide_eq_true g
  refine WPs.drop1 ?_
  refine s_cons (s1_assign (e_call (e_glob gS (items_cons (Pu.none _ (items_cons (Pu.cel lRe (.mem (.tail _ (.tail _ (.tail _ (.tail _ (.tail _ (.tail _ (.head _)))))))) _ (items_cons (Pu.cel lLo (.mem (.tail _ (.tail _ (.tail _ (.tail _ (.tail _ (.tail _ (.tail _ (.head _))))))))) _ (items_nil ⟨keep_K B (by kernel_rfl),CalC.cal (class_cal p (k:=65) hfu B (J:=.none) (more:=[]) (.inr ⟨rfl,rfl⟩) rfl (bs:=lg0.map IS.i) (jk:=fun x=>decide (x∈(js6 hd).map IS.i)) (W:=[]) (fun c2 _ _ _ _=>.inl ⟨rfl,fun x=>by rw [hj]; rfl⟩) (fun q hq=>nomatch hq) (by rw [isV]; exact .tail _ (.head _)) (by decide) fun x d D S S2 z1 z2 ep G hG=>sto_local lMa.1 (s_nil ?_))⟩))))))))))
  show WPs c _ _ _ _
  exact WPs.to (made6 (U:=[]) (a:=⟨x,d,clo,cre,cin,cp,cju,rj,0,js6 hd,dl6 script,.none,[]⟩) ⟨rfl,rfl,rfl,rfl,rfl,rfl,rfl⟩) (fin x d D S S2 .none [] [] #[] rfl (fun k c2 _ _ _ _=>.inl ⟨rfl,fun x=>by rw [hj]; rfl⟩) fun q hq=>nomatch hq)
 ·refine WPs.drop1 ?_
  refine s_cons (s1_assign (e_call (e_glob gS (items_cons (e_lamArg LB B.lim hcs fun J W U ps h1 h2 h3 h4=>items_cons (Pu.cel lRe (.mem (List.mem_append_right U (.tail _ (.tail _ (.tail _ (.tail _ (.tail _ (.tail _ (.head _))))))))) _ (items_cons (Pu.cel lLo (.mem (List.mem_append_right U (.tail _ (.tail _ (.tail _ (.tail _ (.tail _ (.tail _ (.tail _ (.head _)))))))))) _ (items_nil ⟨keep_K B (by kernel_rfl),CalC.cal (class_cal p (k:=65) hfu B (more:=[]) (.inr ⟨rfl,rfl⟩) h1 (bs:=lg0.map IS.i) (h2 64) h3 (by rw [isV]; exact List.mem_append_right U (.tail _ (.head _))) (by decide) fun x d D S S2 z1 z2 ep G hG=>sto_local lMa.1 (s_nil ?_))⟩)))))))))
  show WPs c _ _ _ _
  exact WPs.to (made6 (a:=⟨x,d,clo,cre,cin,cp,cju,rj,0,js6 hd,dl6 script,J,W⟩) ⟨rfl,rfl,rfl,rfl,rfl,rfl,rfl⟩) (fin x d D S S2 J W U ps h1 h2 h4)
end
section
set_option maxHeartbeats 4000000
theorem allp_nil {α β:Type} {P:α→β→Prop}:∀ a o,(a,o)∈([]:List (α × β))→P a o:=fun _ _ h=>nomatch h
theorem allp_cons {α β:Type} {P:α→β→Prop} {x:α} {y:β} {l:List (α × β)} (h:P x y) (k:∀ a o,(a,o)∈l→P a o):∀ a o,(a,o)∈(x,y) :: l→P a o:=fun a o m=>by
 rcases List.mem_cons.mp m with e | m
 ·cases e; exact h
 ·exact k a o m
theorem allk_nil {α β:Type} {P:α→Prop}:∀ a,a∈([]:List (α × β)).map (·.1)→P a:=fun _ h=>nomatch h
theorem allk_cons {α β:Type} {P:α→Prop} {x:α} {y:β} {l:List (α × β)} (h:P x) (k:∀ a,a∈l.map (·.1)→P a):∀ a,a∈((x,y) :: l).map (·.1)→P a:=fun a m=>by
 rcases List.mem_cons.mp m with e | m
 ·cases e; exact h
 ·exact k a m
theorem intsAre_reps {h:Heap}:∀ {ns:List Int} {vs:List Value},IntsAre vs ns→Reps h (ns.map V.int) vs
 | _,_,.nil=>rfl
 | _,_,.cons n t r=>⟨_,_,rfl,⟨t,rfl⟩,intsAre_reps r⟩
theorem kn_postB {M:Model} {A:Around} {cd:Code} {s s₁:Shared} {cw:ClaimW} {cl:Str→Option Addr} {mean:ExcName→Option Value} {args:List WData} {tabs:List (Addr × Addr)} (hT:TabsAt tabs s₁.heap)
  (hr:∀ cls,cw.raises args cls = false) (hp:cw.post args (.bool true) args = true)
  (h:codeAny M A cd (fun r s'=>r = .ok (.ret (.bool true))∧(∀ b o,(ghostOf s₁.heap tabs).get? b = some o→s'.heap.get? b = some o)∧s'.os = s₁.os∧AllBare s'.gens∧GrownAll tabs s'.heap) s):codeAny M A cd (GoodWG cw cl mean args s₁) s:=
 codeAny_mono h fun r s' ⟨e,hk,hos,hg,hgr⟩=>by
  subst e
  have main:∀ b o,s₁.heap.get? b = some o→s'.heap.get? b = some o ∨ (isCodeTable s₁.heap b∧o = tabObj #[]∧GrownAt b s'.heap):=fun b o e=>by
   by_cases hb:b∈tabs.map (·.2)
   ·obtain ⟨q,hq,rfl⟩:=List.mem_map.mp hb
    have hd:=hT q hq
    exact .inr ⟨(hd.1.tab hd.2).isCodeTable,Option.some.inj (e.symm.trans hd.2),hgr.get q hq⟩
   ·exact .inl (hk b o (ghost_ne e hb))
  refine ⟨.inl ⟨.bool true,.bool true,[],rfl,hr,.bool _,hp,fun _=>⟨.nil,nofun⟩⟩,⟨fun b o e=>?_,fun b o e=>?_⟩,hos,hg⟩
  ·rcases main b o e with q | ⟨q1,rfl,ps,q3⟩
   ·exact .inl q
   ·exact .inr (.inl ⟨q1,rfl,#[],ps,rfl,by rw [Array.empty_append]; exact q3⟩)
  ·rcases main b o e with q | ⟨_,_,ps,q3⟩
   ·exact ⟨_,q⟩
   ·exact ⟨_,q3⟩
theorem finish06 {prog:Program} {w:World} {s₁ s:Shared} {env:Env} {b:List Stmt} {tp:Program} {loose:List Str} {mean:ExcName→Option Value} {mg mb:Str→Option Value} {script:List Int} {vs:List Value} {rs L:Addr} {mm:Str→Option Value} {o1 o2 o3 o4 o5 o6:Obj} {E:Value→Shared→Prop}
  (N:News (ghostOf s₁.heap [(224,220),(250,248)]) L s.heap [(L + 1 + 1 + 1 + 1 + 1 + 1,o6),(L + 1 + 1 + 1 + 1 + 1,o5),(L + 1 + 1 + 1 + 1,o4),(L + 1 + 1 + 1,o3),(L + 1 + 1,o2),(L + 1,o1),(220,tabObj #[]),(248,tabObj #[])])
  (F:Fr (ghostOf s₁.heap [(224,220),(250,248)]) L s.heap mm) (T:Top tp loose mean mg mb (ghostOf s₁.heap [(224,220),(250,248)])) (X:(K06 w.params).In (ghostOf s₁.heap [(224,220),(250,248)])) (hC1:CodeHd (ghostOf s₁.heap [(224,220),(250,248)]) 224 220) (hC2:CodeHd (ghostOf s₁.heap [(224,220),(250,248)]) 250 248)
  (hT9:TabsAt [(224,220),(250,248)] s₁.heap) (w1:Well w.params s₁.heap (.ref rs) (ofPy (.list (script.map PyData.int)))) (hL:s₁.heap.IsList rs vs.toArray) (hI:IntsAre vs script) (hlen:script.length≤63) (hg:s₁.gens = #[]) (hlt:220 < L∧248 < L)
  (d1:o1.data = .cell .none) (d2:o2.data = .cell .none) (d3:o3.data = .cell .none) (d4:o4.data = .cell .none) (d5:o5.data = .cell .none) (d6:o6.data = .cell .none)
  (hm:mm "script" = some (.ref rs)) (he:env = { scope:=(fdIn (K06 w.params) 251).scope,locals:=L,globals:=mainGlobals,cells:=[(("junk":Str),L + 1 + 1 + 1 + 1 + 1 + 1),("p",L + 1 + 1 + 1 + 1 + 1),("indexed",L + 1 + 1 + 1 + 1),("reader",L + 1 + 1 + 1),("log",L + 1 + 1),("head",L + 1)],qual:=env.qual,func:=env.func,code:=.ref 250,frame:=env.frame,builtins:=builtinsNs }) (hb:b = bodyIn (fdIn (K06 w.params) 251))
  (hos:s.os = s₁.os) (hgs:s.gens = s₁.gens) :
  wpAny (model prog w) (callerA.deeper env) (execs b env) (fun f s'=>(Except.ok (.ret (match f with | .ret v=>v | x=>.none)):Result) = .ok (.ret (.bool true))∧(∀ b o,(ghostOf s₁.heap [(224,220),(250,248)]).get? b = some o→s'.heap.get? b = some o)∧s'.os = s₁.os∧AllBare s'.gens∧GrownAll [(224,220),(250,248)] s'.heap) E s:=by
 subst hb
 obtain ⟨qual,func,frame,he⟩:∃ q f r,env = { scope:=(fdIn (K06 w.params) 251).scope,locals:=L,globals:=mainGlobals,cells:=[(("junk":Str),L + 1 + 1 + 1 + 1 + 1 + 1),("p",L + 1 + 1 + 1 + 1 + 1),("indexed",L + 1 + 1 + 1 + 1),("reader",L + 1 + 1 + 1),("log",L + 1 + 1),("head",L + 1)],qual:=q,func:=f,code:=.ref 250,frame:=r,builtins:=builtinsNs }:=⟨_,_,_,he⟩
 subst he
 have hk:(fdIn (K06 w.params) 251).scope.kind = .function:=by kernel_rfl
 let env:Env:={ scope:=(fdIn (K06 w.params) 251).scope,locals:=L,globals:=mainGlobals,cells:=[(("junk":Str),L + 1 + 1 + 1 + 1 + 1 + 1),("p",L + 1 + 1 + 1 + 1 + 1),("indexed",L + 1 + 1 + 1 + 1),("reader",L + 1 + 1 + 1),("log",L + 1 + 1),("head",L + 1)],qual:=qual,func:=func,code:=.ref 250,frame:=frame,builtins:=builtinsNs }
 let c:Ctx:=⟨prog,w,callerA.deeper env,env,(ghostOf s₁.heap [(224,220),(250,248)]).get?,70,rfl,by show callerA.depth + 1 + 70 < recursionLimit; decide +kernel,by show callerA.units + 3 + 40 * 70 + 400 < cLine; decide +kernel,hk⟩
 have hscr:∃ ws:List Value,(ghostOf s₁.heap [(224,220),(250,248)]).get? rs = some { cls:=.type "list",data:=.seq ws.toArray }∧IntsAre ws script:=by
  cases w1 with
  | list hget _=>
   refine ⟨_,ghost_get hT9 hget (fun q=>by cases q),?_⟩
   obtain ⟨o,ho,_,n,hd⟩:=hL
   rw [hget] at ho
   cases ho
   cases hd
   exact hI
 obtain ⟨ws,hws,hwI⟩:=hscr
 have B:Base c (K06 w.params):=⟨fun h hh=>X.keeps hh,⟨mg,fun h hh=>T.g.keeps hh⟩,⟨mb,fun h hh=>T.b.keeps hh,T.builtins⟩,fun h hh=>T.nolimit.keeps hh,rfl,rfl⟩
 have LB:LamBase c mg 250 248:=⟨fun h hh=>T.g.keeps hh,fun h hh=>let ⟨bm,ob,q1,q2,q3,r⟩:=T.bmain; ⟨bm,ob,q1,q2,hh _ _ q3,r⟩,fun h hh=>hC2.keeps hh,rfl,rfl⟩
 have G:RatB c mg:=⟨LB.glo,LB.bm,fun h hh=>hC1.keeps hh⟩
 have hS:∀ H,Sees c H rs (.list (script.map .int)):=fun H=>Sees.known fun h hh=>by
  have:=hh _ _ hws
  exact ⟨ws.toArray,⟨_,this,rfl,_,rfl⟩,⟨_,this,rfl,rfl⟩,by simpa using intsAre_reps hwI⟩
 have cellR:∀ (a:Addr) (o:Obj),s.heap.get? a = some o→o.data = .cell .none→(O.cell .none).rep prog w s.heap a:=fun a o h1 h2=>⟨o,h1,.none,h2,rfl⟩
 have n6:=N (_,o6) (.head _)
 have n5:=N (_,o5) (.tail _ (.head _))
 have n4:=N (_,o4) (.tail _ (.tail _ (.head _)))
 have n3:=N (_,o3) (.tail _ (.tail _ (.tail _ (.head _))))
 have n2:=N (_,o2) (.tail _ (.tail _ (.tail _ (.tail _ (.head _)))))
 have n1:=N (_,o1) (.tail _ (.tail _ (.tail _ (.tail _ (.tail _ (.head _))))))
 have na:=N (220,tabObj #[]) (.tail _ (.tail _ (.tail _ (.tail _ (.tail _ (.tail _ (.head _)))))))
 have nb:=N (248,tabObj #[]) (.tail _ (.tail _ (.tail _ (.tail _ (.tail _ (.tail _ (.tail _ (.head _))))))))
 have R:Rel c ⟨[("script",.ref rs)],sc6 (L + 1 + 1 + 1 + 1 + 1 + 1) (L + 1 + 1 + 1 + 1 + 1) (L + 1 + 1 + 1 + 1) (L + 1 + 1 + 1) (L + 1 + 1) (L + 1) [(248,.obj (tabObj #[])),(220,.obj (tabObj #[]))]⟩ s:=by
  refine ⟨⟨mm,F.ns,fun x u e=>?_⟩,?_,?_,?_,fun b o e=>F.keep b o e,get_ge F.above,.of_eq (hgs.trans hg)⟩
  ·rw [List.lookup_cons] at e
   cases q:x == ("script":Str) with
   | true=>rw [q] at e; cases e; rw [beq_iff_eq.mp q]; exact ⟨_,hm,rfl⟩
   | false=>rw [q] at e; cases e
  ·exact allp_cons (cellR _ _ n6.1 d6) (allp_cons (cellR _ _ n5.1 d5) (allp_cons (cellR _ _ n4.1 d4) (allp_cons (cellR _ _ n3.1 d3) (allp_cons (cellR _ _ n2.1 d2) (allp_cons (cellR _ _ n1.1 d1) (allp_cons ⟨nb.1,trivial⟩ (allp_cons ⟨na.1,trivial⟩ allp_nil)))))))
  ·show List.Nodup [_,_,_,_,_,_,_,_]
   have h1:(220:Nat) < L:=hlt.1
   have h2:(248:Nat) < L:=hlt.2
   simp only [List.nodup_cons,List.mem_cons,List.not_mem_nil,or_false,not_or,List.nodup_nil,not_false_eq_true,and_true]
   have key:∀ i j:Nat,i≠j→L + i≠L + j:=fun i j h q=>h (Nat.add_left_cancel q)
   have ka:∀ i:Nat,L + i≠220:=fun i q=>absurd h1 (Nat.not_lt.mpr (q ▸ Nat.le_add_right L i))
   have kb:∀ i:Nat,L + i≠248:=fun i q=>absurd h2 (Nat.not_lt.mpr (q ▸ Nat.le_add_right L i))
   exact ⟨⟨key 6 5 (by decide),key 6 4 (by decide),key 6 3 (by decide),key 6 2 (by decide),key 6 1 (by decide),kb 6,ka 6⟩,⟨key 5 4 (by decide),key 5 3 (by decide),key 5 2 (by decide),key 5 1 (by decide),kb 5,ka 5⟩,⟨key 4 3 (by decide),key 4 2 (by decide),key 4 1 (by decide),kb 4,ka 4⟩,⟨key 3 2 (by decide),key 3 1 (by decide),kb 3,ka 3⟩,⟨key 2 1 (by decide),kb 2,ka 2⟩,⟨kb 1,ka 1⟩,by decide⟩
  ·exact allk_cons n6.2 (allk_cons n5.2 (allk_cons n4.2 (allk_cons n3.2 (allk_cons n2.2 (allk_cons n1.2 (allk_cons nb.2 (allk_cons na.2 allk_nil)))))))
 have main:=law_s w.params c rfl B LB G rfl rfl hlen hS _ R
 refine wpAny_mono (main _ fun f v m' H' h tk R' F' r q=>?_) (fun _ _ q=>q) fun _ _ q=>q.elim
 have hf:f = .ret (.bool true):=q.1
 have hgr:GrownAll [(224,220),(250,248)] h:=⟨let ⟨ps,hps⟩:=q.2.2; ⟨ps,(R'.obj _ _ hps).1⟩,let ⟨ps,hps⟩:=q.2.1; ⟨ps,(R'.obj _ _ hps).1⟩,trivial⟩
 subst hf
 have r':∃ v',v = .ret v'∧V.rep h (.bool true) v':=r
 obtain ⟨v',rfl,hv⟩:=r'
 have hv':v' = .bool true:=hv
 subst hv'
 exact ⟨rfl,fun b o e=>R'.keep b o e,hos,R'.bare,hgr⟩
end
end Mine
end
open PySem PySem.W PyProof.Rows PySem.Calls
set_option maxRecDepth 100000 in
set_option maxHeartbeats 8000000 in
theorem PySem.Challenge.cw_dm0051_06_holds : PySem.Challenge.rw_dm0051_06.Holds := by
  exact hdL (by
    w_on
    k_fill
    intro w s₀ s₁ mg mb G Y fa o pm cd doc dV kV ho hd hcd hD hmg hg args vals as hpre hlay hrd hwl hlo
    have KX := km_in_of Y
    km_tabs Y
    have X := (Ground.X G).1
    have V := (Ground.X G).2
    refine Ground.open G ?_
    intro T B D TE TW
    try (refine guard_noD D (by decide +kernel) ?_; clear D)
    have hT9 : TabsAt ([(224, 220), (250, 248)] : List (Addr × Addr)) s₁.heap := List.forall_mem_cons.mpr ⟨⟨codeHd_of_K (c := 224) (P := 220) KX (by kernel_rfl), hT8 220 (by k_mem)⟩, List.forall_mem_cons.mpr ⟨⟨codeHd_of_K (c := 250) (P := 248) KX (by kernel_rfl), hT8 248 (by k_mem)⟩, fun _ h => nomatch h⟩⟩
    have he9 : cd = PySem.Value.ref 250 := law_code (x := PySem.Str.ofString "law") (c := 250) (P := 248) KX (Top.g T) (by kernel_rfl) hmg ho hd
    subst he9
    clear hmg
    wrow_args hpre hlay hrd hwl hlo
    all_goals (
      first | refine callC_kw (enter_call ?_) | refine enter_call ?_
      w_top on
      refine Mine.kn_postB hT9 ?h1 ?h2 ?_
      rotate_left 2
      w_call any ho hd hcd hD T F
      clear hd
      kn_ghosts F T
      k_drop
      skip)
    refine Mine.finish06 (by assumption) (by assumption) (by assumption) (by assumption) (by assumption) (by assumption) (by assumption) (by assumption) (by assumption) (by assumption) (by omega) (by assumption) (by assumption) (by assumption) (by assumption) (by assumption) (by assumption) (by assumption) (by assumption) ?g1 ?g2 ?g3 rfl rfl
    case g1 => kernel_rfl
    case g2 => kernel_rfl
    case g3 => kernel_rfl
    case h1 => (intro _; rfl)
    case h2 => exact postW_of (X := true) rfl (by show WTm.value _ (.eq .res (.lit (.bool true))) _ = _; simp [WTm.value, PySem.W.same]) rfl)
