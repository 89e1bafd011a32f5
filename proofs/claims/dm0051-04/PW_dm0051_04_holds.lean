import PyProof.Rows.All
import Wide.All
import OpenK.AllK
import Wide.FinOn
import PyProof.AttrMissHeap
import Open.Tops
import OpenK.XOpen
import Flt.Canon
import PyProof.StrReplace2
import PySem.Challenge.RW_dm0051_04
set_option Elab.async false
set_option linter.unusedVariables false
set_option bootstrap.genMatcherCode false
set_option compiler.extract_closed false
section
set_option genSizeOfSpec false
set_option genInjectivity false
set_option genSizeOf false
namespace Mine.Internal.Ar
set_option genCtorIdx false in
inductive AT where
  | v (i : Nat)
  | n (k : Nat)
  | a (x y : AT)
  | s (x y : AT)
  | m (k : Nat) (x : AT)
  | mn (x y : AT)
  | mx (x y : AT)
set_option genCtorIdx false in
inductive AF where
  | l (x y : AT)
  | t (x y : AT)
  | e (x y : AT)
  | no (p : AF)
  | an (p q : AF)
  | o (p q : AF)
  | i (p q : AF)
  | f
noncomputable def nth : List Nat → Nat → Nat
  | [], _ => 0
  | x :: _, 0 => x
  | _ :: l, i + 1 => nth l i
noncomputable def AT.d (ρ : List Nat) : AT → Nat
  | .v i => nth ρ i
  | .n k => k
  | .a x y => x.d ρ + y.d ρ
  | .s x y => x.d ρ - y.d ρ
  | .m k x => k * x.d ρ
  | .mn x y => min (x.d ρ) (y.d ρ)
  | .mx x y => max (x.d ρ) (y.d ρ)
noncomputable def AF.d (ρ : List Nat) : AF → Prop
  | .l x y => x.d ρ ≤ y.d ρ
  | .t x y => x.d ρ < y.d ρ
  | .e x y => x.d ρ = y.d ρ
  | .no p => ¬p.d ρ
  | .an p r => p.d ρ ∧ r.d ρ
  | .o p r => p.d ρ ∨ r.d ρ
  | .i p r => p.d ρ → r.d ρ
  | .f => False
noncomputable def ev : List Nat → List Nat → Nat
  | [], _ => 0
  | _ :: _, [] => 0
  | c :: l, x :: w => c * x + ev l w
noncomputable def ladd : List Nat → List Nat → List Nat
  | [], r => r
  | c :: l, [] => c :: l
  | c :: l, d :: r => (c + d) :: ladd l r
noncomputable def lmul (k : Nat) : List Nat → List Nat
  | [] => []
  | c :: l => (k * c) :: lmul k l
noncomputable def unit : Nat → List Nat
  | 0 => [1]
  | i + 1 => 0 :: unit i
theorem ev_add (l : List Nat) : ∀ r w : List Nat, ev (ladd l r) w = ev l w + ev r w := by
  induction l with
  | nil =>
    exact fun r w => (Nat.zero_add _).symm
  | cons c l ih =>
    intro r w
    cases r with
    | nil => rfl
    | cons d r =>
      cases w with
      | nil => rfl
      | cons x w => exact (congr (congrArg HAdd.hAdd (Nat.add_mul c d x)) (ih r w)).trans (Nat.add_add_add_comm _ _ _ _)
theorem ev_mul (k : Nat) (l : List Nat) : ∀ w : List Nat, ev (lmul k l) w = k * ev l w := by
  induction l with
  | nil =>
    exact fun w => rfl
  | cons c l ih =>
    intro w
    cases w with
    | nil => rfl
    | cons x w => exact (congr (congrArg HAdd.hAdd (Nat.mul_assoc k c x)) (ih w)).trans (Nat.mul_add _ _ _).symm
theorem ev_unit (i : Nat) : ∀ w : List Nat, ev (unit i) w = nth w i := by
  induction i with
  | zero =>
    exact fun w => match w with | [] => rfl | x :: w => Nat.one_mul x
  | succ i ih =>
    exact fun w => match w with | [] => rfl | x :: w => (congr (congrArg HAdd.hAdd (Nat.zero_mul x)) (ih w)).trans (Nat.zero_add _)
noncomputable abbrev Cs := List (List Nat × List Nat)
noncomputable def Holds (w : List Nat) (cs : Cs) : Prop := ∀ c ∈ cs, ev c.1 w ≤ ev c.2 w
theorem Holds.cons {w : List Nat} {cs : Cs} {l r : List Nat} (h : Holds w cs) (q : ev l w ≤ ev r w) : Holds w ((l, r) :: cs) := fun c hc => (List.mem_cons.mp hc).elim (fun e => e ▸ q) (h c)
noncomputable def AT.go : AT → (List Nat → List Nat → Cs → Bool) → Cs → Bool
  | .v i, k, cs => k (unit (i + 1)) [] cs
  | .n c, k, cs => k [c] [] cs
  | .a x y, k, cs => x.go (fun p n cs => y.go (fun p' n' cs => k (ladd p p') (ladd n n') cs) cs) cs
  | .s x y, k, cs => x.go (fun p n cs => y.go (fun p' n' cs => k (ladd p n') (ladd n p') ((ladd p' n, ladd p n') :: cs) && k [] [] ((ladd p n', ladd p' n) :: cs)) cs) cs
  | .m c x, k, cs => x.go (fun p n cs => k (lmul c p) (lmul c n) cs) cs
  | .mn x y, k, cs => x.go (fun p n cs => y.go (fun p' n' cs => k p n ((ladd p n', ladd p' n) :: cs) && k p' n' ((ladd p' n, ladd p n') :: cs)) cs) cs
  | .mx x y, k, cs => x.go (fun p n cs => y.go (fun p' n' cs => k p' n' ((ladd p n', ladd p' n) :: cs) && k p n ((ladd p' n, ladd p n') :: cs)) cs) cs
noncomputable def GR (w : List Nat) (k : List Nat → List Nat → Cs → Bool) (x : Nat) : Prop := ∃ p n cs, k p n cs = true ∧ Holds w cs ∧ x + ev n w = ev p w
theorem GR.go {w : List Nat} {k : List Nat → List Nat → Cs → Bool} {x : Nat} {G : Prop} (h : GR w k x) (f : ∀ p n cs, k p n cs = true → Holds w cs → x + ev n w = ev p w → G) : G :=
  h.elim fun p h => h.elim fun n h => h.elim fun cs h => f p n cs h.1 h.2.1 h.2.2
theorem and_t {a b : Bool} {G : Prop} (h : (a && b) = true) (f : a = true → b = true → G) : G := f ((Bool.and_eq_true _ _).mp h).1 ((Bool.and_eq_true _ _).mp h).2
theorem k_le {w p n p' n' : List Nat} {x y : Nat} (h : y ≤ x) (e1 : x + ev n w = ev p w) (e2 : y + ev n' w = ev p' w) : ev (ladd p' n) w ≤ ev (ladd p n') w := by
  rw [ev_add, ev_add, ← e1, ← e2, Nat.add_right_comm]; exact Nat.add_le_add_right (Nat.add_le_add_right h _) _
theorem k_sub {w p n p' n' : List Nat} {x y : Nat} (h : y ≤ x) (e1 : x + ev n w = ev p w) (e2 : y + ev n' w = ev p' w) : x - y + ev (ladd n p') w = ev (ladd p n') w := by
  obtain ⟨d, rfl⟩ := Nat.exists_eq_add_of_le h
  rw [ev_add, ev_add, ← e1, ← e2, Nat.add_sub_cancel_left, Nat.add_left_comm (ev n w) y, ← Nat.add_assoc d y, Nat.add_comm d y]; exact (Nat.add_assoc _ _ _).symm
theorem AT.go_ok (ρ : List Nat) (t : AT) : ∀ (k : List Nat → List Nat → Cs → Bool) (cs : Cs), t.go k cs = true → Holds (1 :: ρ) cs → GR (1 :: ρ) k (t.d ρ) := by
  induction t with
  | v i =>
    exact fun k cs h hc => ⟨_, _, _, h, hc, (ev_unit (i + 1) (1 :: ρ)).symm⟩
  | n c =>
    exact fun k cs h hc => ⟨_, _, _, h, hc, (Nat.mul_one c).symm⟩
  | a x y ihx ihy =>
    exact fun k cs h hc => (ihx _ cs h hc).go fun p n c1 h1 hc1 e1 => (ihy _ c1 h1 hc1).go fun p' n' c2 h2 hc2 e2 =>
      ⟨_, _, _, h2, hc2, by rw [ev_add, ev_add, ← e1, ← e2]; exact Nat.add_add_add_comm _ _ _ _⟩
  | s x y ihx ihy =>
    exact fun k cs h hc => (ihx _ cs h hc).go fun p n c1 h1 hc1 e1 => (ihy _ c1 h1 hc1).go fun p' n' c2 h2 hc2 e2 => and_t h2 fun ha hb =>
      (Nat.le_total (y.d ρ) (x.d ρ)).elim (fun q => ⟨_, _, _, ha, hc2.cons (k_le q e1 e2), k_sub q e1 e2⟩) fun q => ⟨_, _, _, hb, hc2.cons (k_le q e2 e1), Nat.sub_eq_zero_of_le q⟩
  | m c x ihx =>
    exact fun k cs h hc => (ihx _ cs h hc).go fun p n c1 h1 hc1 e1 => ⟨_, _, _, h1, hc1, by rw [ev_mul, ev_mul, ← e1, Nat.mul_add]; rfl⟩
  | mn x y ihx ihy =>
    exact fun k cs h hc => (ihx _ cs h hc).go fun p n c1 h1 hc1 e1 => (ihy _ c1 h1 hc1).go fun p' n' c2 h2 hc2 e2 => and_t h2 fun ha hb =>
      (Nat.le_total (x.d ρ) (y.d ρ)).elim (fun q => ⟨_, _, _, ha, hc2.cons (k_le q e2 e1), (congrArg (· + ev n (1 :: ρ)) (Nat.min_eq_left q)).trans e1⟩) fun q => ⟨_, _, _, hb, hc2.cons (k_le q e1 e2), (congrArg (· + ev n' (1 :: ρ)) (Nat.min_eq_right q)).trans e2⟩
  | mx x y ihx ihy =>
    exact fun k cs h hc => (ihx _ cs h hc).go fun p n c1 h1 hc1 e1 => (ihy _ c1 h1 hc1).go fun p' n' c2 h2 hc2 e2 => and_t h2 fun ha hb =>
      (Nat.le_total (x.d ρ) (y.d ρ)).elim (fun q => ⟨_, _, _, ha, hc2.cons (k_le q e2 e1), (congrArg (· + ev n' (1 :: ρ)) (Nat.max_eq_right q)).trans e2⟩) fun q => ⟨_, _, _, hb, hc2.cons (k_le q e1 e2), (congrArg (· + ev n (1 :: ρ)) (Nat.max_eq_left q)).trans e1⟩
noncomputable def leGo (x y : AT) (c : Nat) (k : Cs → Bool) (cs : Cs) : Bool := x.go (fun p n cs => y.go (fun p' n' cs => k ((ladd (ladd p n') [c], ladd p' n) :: cs)) cs) cs
noncomputable def KR (w : List Nat) (k : Cs → Bool) : Prop := ∃ cs, k cs = true ∧ Holds w cs
theorem KR.go {w : List Nat} {k : Cs → Bool} {G : Prop} (h : KR w k) (f : ∀ cs, k cs = true → Holds w cs → G) : G := h.elim fun cs h => f cs h.1 h.2
theorem leGo_ok {ρ : List Nat} {x y : AT} {c : Nat} {k : Cs → Bool} {cs : Cs} (h : leGo x y c k cs = true) (hc : Holds (1 :: ρ) cs) (q : x.d ρ + c ≤ y.d ρ) : KR (1 :: ρ) k :=
  (AT.go_ok ρ x _ cs h hc).go fun p n c1 h1 hc1 e1 => (AT.go_ok ρ y _ c1 h1 hc1).go fun p' n' c2 h2 hc2 e2 => ⟨_, h2, hc2.cons (by
    rw [ev_add, ev_add, ev_add, ← e1, ← e2]
    show _ + _ + _ + (c * 1 + 0) ≤ _
    rw [Nat.mul_one, Nat.add_zero, Nat.add_right_comm (x.d ρ + _), Nat.add_right_comm (x.d ρ), Nat.add_right_comm (y.d ρ)]
    exact Nat.add_le_add_right (Nat.add_le_add_right q _) _)⟩
noncomputable def AF.go : AF → Bool → (Cs → Bool) → Cs → Bool
  | .l x y, b, k, cs => match b with
    | true => leGo x y 0 k cs
    | false => leGo y x 1 k cs
  | .t x y, b, k, cs => match b with
    | true => leGo x y 1 k cs
    | false => leGo y x 0 k cs
  | .e x y, b, k, cs => match b with
    | true => leGo x y 0 (fun cs => leGo y x 0 k cs) cs
    | false => leGo x y 1 k cs && leGo y x 1 k cs
  | .no p, b, k, cs => p.go (!b) k cs
  | .an p r, b, k, cs => match b with
    | true => p.go true (fun cs => r.go true k cs) cs
    | false => p.go false k cs && r.go false k cs
  | .o p r, b, k, cs => match b with
    | true => p.go true k cs && r.go true k cs
    | false => p.go false (fun cs => r.go false k cs) cs
  | .i p r, b, k, cs => match b with
    | true => p.go false k cs && r.go true k cs
    | false => p.go true (fun cs => r.go false k cs) cs
  | .f, b, k, cs => match b with
    | true => true
    | false => k cs
noncomputable def Says (b : Bool) (P : Prop) : Prop := match b with
  | true => P
  | false => ¬P
theorem AF.go_ok (ρ : List Nat) (F : AF) : ∀ (b : Bool) (k : Cs → Bool) (cs : Cs), F.go b k cs = true → Holds (1 :: ρ) cs → Says b (F.d ρ) → KR (1 :: ρ) k := by
  induction F with
  | l x y =>
    exact Bool.rec (fun k cs h hc q => leGo_ok h hc (Nat.lt_of_not_le q)) (fun k cs h hc q => leGo_ok h hc q)
  | t x y =>
    exact Bool.rec (fun k cs h hc q => leGo_ok h hc (Nat.le_of_not_lt q)) (fun k cs h hc q => leGo_ok h hc q)
  | e x y =>
    exact Bool.rec (fun k cs h hc q => and_t h fun ha hb => (Nat.lt_or_gt_of_ne q).elim (fun z => leGo_ok ha hc z) fun z => leGo_ok hb hc z)
      (fun k cs h hc q => (leGo_ok h hc (Nat.le_of_eq q)).go fun c1 h1 hc1 => leGo_ok h1 hc1 (Nat.le_of_eq (Eq.symm q)))
  | no p ih =>
    exact Bool.rec (fun k cs h hc q => ih true k cs h hc (Classical.not_not.mp q)) (fun k cs h hc q => ih false k cs h hc q)
  | an p r ihp ihr =>
    exact Bool.rec (fun k cs h hc q => and_t h fun ha hb => (Classical.not_and_iff_not_or_not.mp q).elim (fun z => ihp false k cs ha hc z) fun z => ihr false k cs hb hc z)
      (fun k cs h hc q => (ihp true _ cs h hc q.1).go fun c1 h1 hc1 => ihr true k c1 h1 hc1 q.2)
  | o p r ihp ihr =>
    exact Bool.rec (fun k cs h hc q => (ihp false _ cs h hc fun z => q (.inl z)).go fun c1 h1 hc1 => ihr false k c1 h1 hc1 fun z => q (.inr z))
      (fun k cs h hc q => and_t h fun ha hb => Or.elim q (fun z => ihp true k cs ha hc z) fun z => ihr true k cs hb hc z)
  | i p r ihp ihr =>
    exact Bool.rec (fun k cs h hc q => (ihp true _ cs h hc (Classical.byContradiction fun z => q fun y => absurd y z)).go fun c1 h1 hc1 => ihr false k c1 h1 hc1 fun z => q fun _ => z)
      (fun k cs h hc q => and_t h fun ha hb => (Classical.em (p.d ρ)).elim (fun z => ihr true k cs hb hc (q z)) fun z => ihp false k cs ha hc z)
  | f =>
    exact Bool.rec (fun k cs h hc q => ⟨_, h, hc⟩) (fun k cs h hc q => False.elim q)
noncomputable def lsub : List Nat → List Nat → List Nat
  | [], _ => []
  | c :: l, [] => c :: l
  | c :: l, d :: r => (c - d) :: lsub l r
theorem ls_eq {c d x A B L R : Nat} (q : c ≤ d) (ih : A + R = B + L) : (c - d) * x + A + (d * x + R) = (d - c) * x + B + (c * x + L) := by
  obtain ⟨k, rfl⟩ := Nat.exists_eq_add_of_le q
  rw [Nat.sub_eq_zero_of_le q, Nat.add_sub_cancel_left, Nat.add_mul, Nat.zero_mul, Nat.zero_add, Nat.add_left_comm A, ih, Nat.add_add_add_comm (k * x) B, Nat.add_comm (k * x)]
theorem ev_lsub (l : List Nat) : ∀ r w : List Nat, ev (lsub l r) w + ev r w = ev (lsub r l) w + ev l w := by
  induction l with
  | nil =>
    exact fun r w => match r with | [] => rfl | d :: r => Nat.add_comm _ _
  | cons c l ih =>
    intro r w
    cases r with
    | nil => exact Nat.add_comm _ _
    | cons d r =>
      cases w with
      | nil => rfl
      | cons x w => exact (Nat.le_total c d).elim (fun q => ls_eq q (ih r w)) fun q => (ls_eq q (ih r w).symm).symm
noncomputable def cut (c : List Nat × List Nat) : List Nat × List Nat := (lsub c.1 c.2, lsub c.2 c.1)
noncomputable def isZ : Nat → Bool
  | 0 => true
  | _ + 1 => false
noncomputable def zero : List Nat → Bool
  | [] => true
  | c :: l => isZ c && zero l
theorem ev_zero (l : List Nat) : ∀ w : List Nat, zero l = true → ev l w = 0 := by
  induction l with
  | nil =>
    exact fun w h => rfl
  | cons c l ih =>
    intro w h
    cases w with
    | nil => rfl
    | cons x w =>
      cases c with
      | zero => exact (congr (congrArg HAdd.hAdd (Nat.zero_mul x)) (ih w h)).trans rfl
      | succ c => cases h
noncomputable def hasC : List Nat → Bool
  | [] => false
  | c :: _ => !isZ c
noncomputable def bad (c : List Nat × List Nat) : Bool := zero c.2 && hasC c.1
noncomputable def anyBad : Cs → Bool
  | [] => false
  | c :: cs => bad c || anyBad cs
theorem hasC_ok {l ρ : List Nat} (h : hasC l = true) (q : ev l (1 :: ρ) ≤ 0) : False := by
  cases l with
  | nil => cases h
  | cons c l =>
    cases c with
    | zero => cases h
    | succ k => exact absurd (Nat.le_trans (Nat.le_add_right _ _) q) (Nat.not_le_of_lt (Nat.lt_of_lt_of_le (Nat.succ_pos k) (Nat.le_of_eq (Nat.mul_one _).symm)))
theorem anyBad_ok {ρ : List Nat} (cs : Cs) : anyBad cs = true → Holds (1 :: ρ) cs → False := by
  induction cs with
  | nil =>
    exact fun h _ => nomatch h
  | cons c cs ih =>
    exact fun h hc => ((Bool.or_eq_true _ _).mp h).elim (fun q => and_t q fun h1 h2 => hasC_ok h2 (ev_zero _ _ h1 ▸ hc c (.head _))) fun q => ih q fun c' hc' => hc c' (.tail _ hc')
noncomputable def mix (i : Nat) (u v : List Nat × List Nat) : List Nat × List Nat :=
  cut (ladd (lmul (nth v.2 i - nth v.1 i) u.1) (lmul (nth u.1 i - nth u.2 i) v.1), ladd (lmul (nth v.2 i - nth v.1 i) u.2) (lmul (nth u.1 i - nth u.2 i) v.2))
theorem cut_ok {w : List Nat} {c : List Nat × List Nat} (h : ev c.1 w ≤ ev c.2 w) : ev (cut c).1 w ≤ ev (cut c).2 w :=
  Nat.le_of_add_le_add_right (Nat.le_trans (Nat.le_of_eq (ev_lsub c.1 c.2 w)) (Nat.add_le_add_left h _))
theorem mix_ok {w : List Nat} {i : Nat} {u v : List Nat × List Nat} (hu : ev u.1 w ≤ ev u.2 w) (hv : ev v.1 w ≤ ev v.2 w) : ev (mix i u v).1 w ≤ ev (mix i u v).2 w := by
  refine cut_ok ?_
  show ev (ladd _ _) w ≤ ev (ladd _ _) w
  rw [ev_add, ev_add, ev_mul, ev_mul, ev_mul, ev_mul]
  exact Nat.add_le_add (Nat.mul_le_mul_left _ hu) (Nat.mul_le_mul_left _ hv)
noncomputable def mixes (i : Nat) (u : List Nat × List Nat) : Cs → Cs → Cs
  | [], acc => acc
  | v :: vs, acc => mix i u v :: mixes i u vs acc
noncomputable def allMix (i : Nat) (vs : Cs) : Cs → Cs → Cs
  | [], acc => acc
  | u :: us, acc => mixes i u vs (allMix i vs us acc)
theorem mixes_ok {w : List Nat} {i : Nat} {u : List Nat × List Nat} {acc : Cs} (hu : ev u.1 w ≤ ev u.2 w) (ha : Holds w acc) (vs : Cs) : Holds w vs → Holds w (mixes i u vs acc) := by
  induction vs with
  | nil =>
    exact fun _ => ha
  | cons v vs ih =>
    exact fun h => (ih fun c hc => h c (.tail _ hc)).cons (mix_ok hu (h v (.head _)))
theorem allMix_ok {w : List Nat} {i : Nat} {vs acc : Cs} (hv : Holds w vs) (ha : Holds w acc) (us : Cs) : Holds w us → Holds w (allMix i vs us acc) := by
  induction us with
  | nil =>
    exact fun _ => ha
  | cons u us ih =>
    exact fun h => mixes_ok (h u (.head _)) (ih fun c hc => h c (.tail _ hc)) vs hv
noncomputable def sw (b : Bool) (x y : Cs) : Cs := match b with
  | true => x
  | false => y
theorem sw_ok {w : List Nat} {b : Bool} {x y : Cs} (hx : Holds w x) (hy : Holds w y) : Holds w (sw b x y) := by cases b; exact hy; exact hx
noncomputable def part (i : Nat) : Cs → Cs → Cs → Cs → Cs
  | [], us, vs, rest => allMix i vs us rest
  | c :: cs, us, vs, rest => sw (Nat.beq (nth c.1 i) (nth c.2 i)) (part i cs us vs (c :: rest)) (sw (Nat.ble (nth c.1 i) (nth c.2 i)) (part i cs us (c :: vs) rest) (part i cs (c :: us) vs rest))
theorem part_ok {w : List Nat} {i : Nat} (cs : Cs) : ∀ us vs rest : Cs, Holds w cs → Holds w us → Holds w vs → Holds w rest → Holds w (part i cs us vs rest) := by
  induction cs with
  | nil =>
    exact fun us vs rest _ hu hv hr => allMix_ok hv hr us hu
  | cons c cs ih =>
    exact fun us vs rest h hu hv hr =>
      have h1 := h c (.head _)
      have h2 : Holds w cs := fun c' hc => h c' (.tail _ hc)
      sw_ok (ih us vs _ h2 hu hv (hr.cons h1)) (sw_ok (ih us _ rest h2 hu (hv.cons h1) hr) (ih _ vs rest h2 (hu.cons h1) hv hr))
noncomputable def fm : Nat → Cs → Bool
  | 0, cs => anyBad cs
  | i + 1, cs => anyBad cs || fm i (part (i + 1) cs [] [([], unit (i + 1))] [])
theorem fm_ok {ρ : List Nat} (i : Nat) : ∀ cs : Cs, fm i cs = true → Holds (1 :: ρ) cs → False := by
  induction i with
  | zero => exact anyBad_ok
  | succ i ih =>
    exact fun cs h hc => ((Bool.or_eq_true _ _).mp h).elim (fun q => anyBad_ok cs q hc) fun q => ih _ q (part_ok cs _ _ _ hc (fun _ h => nomatch h) (Holds.cons (fun _ h => nomatch h) (Nat.zero_le _)) fun _ h => nomatch h)
noncomputable def cuts : Cs → Cs
  | [] => []
  | c :: cs => cut c :: cuts cs
theorem cuts_ok {w : List Nat} (cs : Cs) : Holds w cs → Holds w (cuts cs) := by
  induction cs with
  | nil => exact id
  | cons c cs ih =>
    exact fun h => (ih fun c' hc => h c' (.tail _ hc)).cons (cut_ok (h c (.head _)))
noncomputable def arOk (n : Nat) (F : AF) : Bool := F.go false (fun cs => fm n (cuts cs)) []
theorem ar (n : Nat) (F : AF) (h : arOk n F = true) (ρ : List Nat) : F.d ρ := Classical.byContradiction fun q =>
  (AF.go_ok ρ F false _ [] h (fun _ h => nomatch h) q).go fun cs h1 h2 => fm_ok n _ h1 (cuts_ok cs h2)
end Mine.Internal.Ar
namespace Mine.Internal
open Ar
theorem ar0 (n : Nat) (G : AF) (h : arOk n G = true) (ρ : List Nat)  : G.d ρ := ar n _ h ρ 
theorem ar1 (n : Nat) (A G : AF) (h : arOk n (.i A G) = true) (ρ : List Nat) (hA : A.d ρ) : G.d ρ := ar n _ h ρ hA
theorem ar2 (n : Nat) (A B G : AF) (h : arOk n (.i A (.i B G)) = true) (ρ : List Nat) (hA : A.d ρ) (hB : B.d ρ) : G.d ρ := ar n _ h ρ hA hB
theorem ar3 (n : Nat) (A B C G : AF) (h : arOk n (.i A (.i B (.i C G))) = true) (ρ : List Nat) (hA : A.d ρ) (hB : B.d ρ) (hC : C.d ρ) : G.d ρ := ar n _ h ρ hA hB hC
theorem ar4 (n : Nat) (A B C D G : AF) (h : arOk n (.i A (.i B (.i C (.i D G)))) = true) (ρ : List Nat) (hA : A.d ρ) (hB : B.d ρ) (hC : C.d ρ) (hD : D.d ρ) : G.d ρ := ar n _ h ρ hA hB hC hD
theorem ar5 (n : Nat) (A B C D E G : AF) (h : arOk n (.i A (.i B (.i C (.i D (.i E G))))) = true) (ρ : List Nat) (hA : A.d ρ) (hB : B.d ρ) (hC : C.d ρ) (hD : D.d ρ) (hE : E.d ρ) : G.d ρ := ar n _ h ρ hA hB hC hD hE
theorem ar7 (n : Nat) (A B C D E F K G : AF) (h : arOk n (.i A (.i B (.i C (.i D (.i E (.i F (.i K G))))))) = true) (ρ : List Nat) (hA : A.d ρ) (hB : B.d ρ) (hC : C.d ρ) (hD : D.d ρ) (hE : E.d ρ) (hF : F.d ρ) (hK : K.d ρ) : G.d ρ := ar n _ h ρ hA hB hC hD hE hF hK
theorem half_le (t : Nat) : 2 * (t / 2) ≤ t ∧ t < 2 * (t / 2) + 2 := ⟨Nat.mul_div_le t 2, Nat.lt_mul_div_succ t (by decide)⟩
end Mine.Internal
end
section
open List renaming mem_cons_of_mem->VM,reverse_cons->Vh,mem_map->Vm,mem_cons->Vq,nodup_cons->Vr,lookup_cons->Vt,map_cons->Vu,length_map->V8,getD->WN,getElem?_eq_some_iff->WX,append_assoc->Wv,append_nil->W8,mem_append->W9,map_append->XA,nodup_append->XB,map_map->XC,pairwise_map->XD,forIn_cons->XK,mem_append_right->XN,mem_singleton_self->XO,mem_singleton->XQ,mem_append_left->XR,length_append->XS,replicate->Xd,replicate_succ->Xe,flatten_cons->Xf,Sublist->Xj,map_congr_left->Xm,range->Xn,range_succ->Xo,filterMap_append->Xp,mem_erase_of_ne->Xq,length_erase_of_mem->Xr,length_pos_of_mem->Xs,find?_eq_none->Xw,nodup_nil->X4,all_eq_true->X7,length->YC,pairwise_iff_getElem->Yj,take_append_drop->Ym,pairwise_append->Yn,mem_iff_getElem->Yo,pairwise_cons->Yq,pairwise_lt_range->Yw,Perm->ZA,getElem_mem->ZJ,getElem?_toArray->Zt,getElem?_map->Zu,ext_getElem->Zw,getElem?_eq_none->Zx,mem_of_getElem?->Zy,getElem?_eq_getElem->Z6,getElem?_drop->aB,take_of_length_le->aH,drop_length->aJ,drop_eq_nil_of_le->aK,drop_zero->aM,take_length->aO,map_reverse->aP,filter_append->aV,filter_eq_nil_iff->aW,length_filter_le->aX,drop_eq_getElem_cons->aY,length_cons->bT,flatten_append->bV,perm_middle->bW,sum_append->bX,sum_cons->bY,length_take->cb,take_add_one->cf,drop_of_length_le->cp,map_take->cq,mem_filter->cr,filter_eq_self->ct,filter_congr->cu,take_zero->dS,mem_iff_getElem?->db,drop_drop->dh,drop_sublist->di,take_add->dk,perm_append_comm->d5,mem_of_mem_drop->d6,getElem?_take->d7,pairwise_reverse->d8,reverse_perm->d9,reverse_append->eD,reverse_reverse->eE,mem_reverse->eF,mem_of_mem_take->eG
open Int renaming le_trans->VN,natCast_nonneg->VO,ofNat_le->VP,toNat_natCast->VQ,ofNat_inj->VW,not_lt->aF,le_refl->bn,le_of_lt->bx,le_antisymm->b9,ofNat_lt->dC
open Nat renaming le_total->VS,min_eq_left->VT,min_eq_right->VU,le_refl->Vn,le_succ->Vo,lt_of_lt_of_le->Vp,ne_of_lt->WA,zero_le->WJ,lt_irrefl->WK,not_lt->WL,lt_of_le_of_lt->W4,le_add_right->W5,le_of_lt->W7,ne_of_gt->XE,succ_le_succ->XT,le_succ_of_le->XU,succ_ne_self->XZ,lt_succ_of_lt->Ye,lt_trans->Yh,le_trans->Yi,lt_or_ge->Yp,pos_of_ne_zero->Zf,eq_zero_or_pos->Zj,lt_succ_self->Z3,le_of_eq->Z5,sub_zero->aN,le_of_ble_eq_true->bB,lt_add_of_pos_right->bK,succ_pos->bM,lt_one_iff->bN,add_sub_add_right->bO,sub_add_cancel->bP,add_le_add_left->b0,le_of_lt_succ->b7,add_zero->cA,zero_add->cE,add_assoc->dd
open Bool renaming eq_iff_iff->VV,eq_false_iff->Vy,and_eq_true->X5,not_eq_true'->X6,or_eq_true->ZB,false_ne_true->ab,false_eq_true->bv
open PySem renaming Value->VX,Program->VY,World->VZ,Around->Va,Shared->Vb,wpAny->Vc,wpAny_holding->Vd,wpAny_bind->Ve,wpAny_truthy_bool->Vf,wpAny_eqBool_int->Vg,SetTable->Vi,scanBound->Vj,recursionLimit->Vk,wpAny_mono->Vv,wpAny_loadName_local->Vx,behindInMarks->V0,standAt->V1,holding->V2,starEach->V3,wpAny_storeName_local->V4,assignEach->V7,wpAny_execs_nil->WC,swapsWith->WD,swapsWithSole->WE,swappedStores->WF,letOwnedTupleGo->WG,foldedSetIterable->WH,wpAny_pure->WM,wpAny_pyIter_list->WP,sizeLine->WS,subscripted->WV,getItem->WW,Model->Wd,getMethod_builtin->We,call_meets->Wh,Builtin->Wm,codeAny->Wq,wpAny_call->Wr,NameKind->Wt,FuncData->Wx,cellsFrom->Wy,BindsTo->W0,codeAny_call_function->W3,wpAny_newFunctionEnv_cells->W6,Result->XF,Scope->XG,theTreesLotGoes->XI,wpAny_standAt->XJ,compEnvC->XM,compPost->XV,relabel->XW,wpAny_newObj_type->XX,wpAny_newFunctionEnv->XY,codeAny_compStart_list->Xa,closureFor->Xb,wpAny_comprehension_free->Xc,mainGlobals->Xg,builtinsNs->Xh,typeIs_int->Xk,getAttr->Xx,letTemporaryGo->Xy,wpAny_loadPart->X1,bindArgs->X8,codeAny_mono->YB,call_meetsIn->YF,meets_dict_get_default->YN,wpAny_callSpecial?_slot->YO,entryFor->YT,entryFor_alias->YU,wpAny_pyIter_slot->YV,wpAny_call_entry->YX,callWith_type->Ya,relayAll->Yz,wpAny_setState_of->ZG,wpAny_rule->ZH,checkBuiltinCall->ZK,codeAny_of_tree->ZL,wpAny_of_eq->ZM,plainId_quiet->ZN,codeAny_builtin->ZP,wpAny_askSetting->ZR,codeAny_call_builtin->ZV,typeLookup_type->Za,builtinLookup_eq_fast->Zb,isSubtype_type->Zc,entryFor_of_tree->Zd,argsOk->Ze,pickOrder->Zh,isInstance->Zk,firstArgMember->Zl,wpAny_isInstance->Zm,isSubtype_stop->Zn,wpAny_attempt->Zo,wpAny_fieldsOf->Zp,wpAny_setEntries_of->Zq,wpAny_setField->Zr,wpAny_seqItems->Zs,unsupported->Zv,typeLookup->Z0,wpAny_isSame_plain->Z7,sliceBounds->Z8,slicePick->Z9,sliceRange_one->aG,TriplesOk->aQ,wpAny_callSpecial?_none->aT,wpAny_specialOf->aU,isSubtype->aa,builtinKind->ak,wpAny_tryCatch->am,splitId->aq,specialOf->av,callSpecial?->ay,callSpecialIfBoundUnlessNone?->bC,wpAny_field->bI,wpAny_updateSeq->ce
open PyProof.Rows renaming AllBare->Vl,subscriptTail->WU,slot_tupleiter_next->bF,Keyed->bZ,SortKind->ba,SortSt->bb,kindOf->bd,failedOf->be,pendingOf->bf,wpS_bind->bo,wpS_get->bp,wpS_pure->bq,wpS_mono->bt,wpS_forRange->bu,wpS_modify->bw,wpS_lift->cB,sortedHeap->cH,listUpdate_at->cI,seqEpoch_at->cJ,pairsOf->cM,pairsOf_size->cP
open PySem.Heap renaming SameBut->Vs,lt_size->WB,get?_push_of_some->WQ,get?_push_size->WR,NoLimit->Wz,get?_update_self->ZD,ExtBut->bH,size_push->cW
open PySem.Calls renaming Name_function_global->Vz,evalArgs_plain->Yb,spliced_cons->Yc,spliced_nil->Yd
open Array renaming length_toList->V9,getElem?_toList->WO,toList_append->WT,toList_push->Wl,find?_toList->Xv,getD->Yk,perm_iff_toList_perm->bg,size_map->cO,forIn_toList->cY,getElem?_eq_getElem->dz,toList_setIfInBounds->eI,toList_modify->eK
open PySem.Keeper renaming frame->WZ,machine->Wa,boundFrame->Wb
open PySem.W renaming Looks->Wc,looks_clsIn->X3,emptyDict->X9,looks_findIn->YA,findCls->aw
open Ne renaming symm->Wf
open PySem.Obj renaming mapSeq->Wg,putSet->ZC,data_mapFields->bJ
open PySem.F renaming slot_list_append->Wi,entry_list_append->Wj,args_list_append_2->Wk,slot_dict_setdefault->YG,entry_dict_setdefault->YH,args_dict_setdefault_3->YI,slot_dict_get->YK,entry_dict_get->YL,args_dict_get_3->YM,slot_dict_delitem->YQ,slot_dict_keys->YR,slot_dict_items->YS,slot_dict_itemiterator_iter->YW,plain_set_new->ZO,called_set->ZS,slot_set_add->ZW,slot_set_iter->Z1,slot_dict_getattribute->ae,slot_set_getattribute->ag,entry_extend_loop->cZ,plain_extend_loop->ca,slot_tuple_len->ck,slot_list_pop->cn
open PySem.Builtin.Range renaming rangeSize->Wn,small->Wo,rangeFitsLong->Wp
open ForInStep renaming yield->XH,done->b8
open Option renaming bind_some->Xz,map_some->YE,getD_none->aC
open PySem.Str renaming ofString->YP
open PySem.SetTable renaming below->Yf,grown->ZE
open PySem.SetTable.below renaming go->Yg
open PySem.SetTable.probe renaming go->Ys
open PySem.SetTable.Met renaming empty->Yu,candidate->Yv
open Option.some renaming injEq->Yy
open PySem.Heap.SameBut renaming update->ZF
open PySem.Around renaming under_plainId->ZQ
open PySem.Code renaming quiet_builtin->ZT
open PySem.Shared renaming TypeIs->ZU
open PySem.Builtin.Frozenset renaming oneOther->ZX,addrOf->ZY
open PySem.Value renaming none->ZZ,ref->Zz,builtin->af,type->az,int->cG
open List.Perm renaming append_left->Zi,trans->bU
open PySem.NameKind renaming free->aZ
open PySem.Manifest renaming signature?->aj
open PySem.W.Looks renaming ld->ao
open PySem.Bind renaming madeBy->au
open And renaming intro->ax
open List.Sublist renaming refl->bA,cons->cx
open PySem.Builtin.SmallTypes renaming stopIteration->bG,refuseKeywords->cV,nextOf->cX
open PySem.Builtin.Tuple renaming tupleItemsOf->cF
open Array.Perm renaming refl->cR
open PySem.Builtin.List renaming listItems->cg,listExtendWith->ch,listSameRef->ci
open PySem PySem.W PyProof.Rows PySem.Calls
set_option maxRecDepth 100000
namespace Mine.Internal
def K4 : Lean.Syntax := .node .none ``Lean.Parser.Tactic.tacticSeq #[.node .none ``Lean.Parser.Tactic.tacticSeq1Indented #[.node .none `null #[.node .none `tacticKernel_rfl #[Lean.mkAtom "kernel_rfl"]]]]
noncomputable abbrev Y0 : Ar.AT := .v 0
noncomputable abbrev Y1 : Ar.AT := .v 1
noncomputable abbrev Y2 : Ar.AT := .v 2
noncomputable abbrev Y3 : Ar.AT := .v 3
noncomputable abbrev Y4 : Ar.AT := .v 4
noncomputable abbrev Y5 : Ar.AT := .v 5
noncomputable abbrev Y6 : Ar.AT := .v 6
noncomputable abbrev Y7 : Ar.AT := .v 7
noncomputable abbrev Y8 : Ar.AT := .v 8
noncomputable abbrev Y9 : Ar.AT := .v 9
noncomputable abbrev N1 : Ar.AT := .n 1
theorem Bh(n : Nat)(G : Ar.AF)(ρ : List Nat)(h : autoParam (Ar.arOk n G=true) K4) : G.d ρ := ar0 n G h ρ 
theorem AJ(n : Nat)(A G : Ar.AF)(ρ : List Nat)(hA : A.d ρ)(h : autoParam (Ar.arOk n (.i A G)=true) K4) : G.d ρ := ar1 n A G h ρ hA
theorem AL(n : Nat)(A B G : Ar.AF)(ρ : List Nat)(hA : A.d ρ)(hB : B.d ρ)(h : autoParam (Ar.arOk n (.i A (.i B G))=true) K4) : G.d ρ := ar2 n A B G h ρ hA hB
theorem Be(n : Nat)(A B C G : Ar.AF)(ρ : List Nat)(hA : A.d ρ)(hB : B.d ρ)(hC : C.d ρ)(h : autoParam (Ar.arOk n (.i A (.i B (.i C G)))=true) K4) : G.d ρ := ar3 n A B C G h ρ hA hB hC
theorem PL(n : Nat)(A B C D G : Ar.AF)(ρ : List Nat)(hA : A.d ρ)(hB : B.d ρ)(hC : C.d ρ)(hD : D.d ρ)(h : autoParam (Ar.arOk n (.i A (.i B (.i C (.i D G))))=true) K4) : G.d ρ := ar4 n A B C D G h ρ hA hB hC hD
theorem S6(n : Nat)(A B C D E G : Ar.AF)(ρ : List Nat)(hA : A.d ρ)(hB : B.d ρ)(hC : C.d ρ)(hD : D.d ρ)(hE : E.d ρ)(h : autoParam (Ar.arOk n (.i A (.i B (.i C (.i D (.i E G)))))=true) K4) : G.d ρ := ar5 n A B C D E G h ρ hA hB hC hD hE
theorem VJ(n : Nat)(A B C D E F K G : Ar.AF)(ρ : List Nat)(hA : A.d ρ)(hB : B.d ρ)(hC : C.d ρ)(hD : D.d ρ)(hE : E.d ρ)(hF : F.d ρ)(hK : K.d ρ)(h : autoParam (Ar.arOk n (.i A (.i B (.i C (.i D (.i E (.i F (.i K G)))))))=true) K4) : G.d ρ := ar7 n A B C D E F K G h ρ hA hB hC hD hE hF hK
theorem mT{α : Type}{a b : α}{l : List α}(h : a ∈ l) : a ∈ b::l := VM b h
theorem mS{α : Type}{a : α}{l : List α} : a ∈ a::l := List.mem_cons_self
section
open PySem PyProof.Rows
theorem Ey{n:Nat}(h:n<=1000000):-1000000<=(n:Int)/\(n:Int)<=1000000:=⟨VN (by decide) (VO n),VP.mpr h⟩
theorem Ki{a b:Nat}(h:b<=a):(a:Int)-b=((a-b:Nat):Int):=(Int.ofNat_sub h).symm
theorem Ld{a:Nat}(h:0<a):(a:Int)-1=((a-1:Nat):Int):=Ki (b:=1) h
theorem SX{n:Nat}:((n:Int)-0).toNat=n:=by rw[Int.sub_zero,VQ]
theorem Ti{a b:Nat}(h:a<=b):a+((b:Int)-a).toNat=b:=by rw[Ki h,VQ,Nat.add_sub_cancel' h]
theorem Fh{a n:Nat}:max 0 (min (a:Int) (n:Int))=((min a n:Nat):Int):=by
 rcases VS a n with q|q
 .rw[VT q,Int.min_eq_left (VP.mpr q)];exact Int.max_eq_right (VO _)
 .rw[VU q,Int.min_eq_right (VP.mpr q)];exact Int.max_eq_right (VO _)
theorem SV{p q:Nat}:((p:Int)==(q:Int))=decide (p=q):=by
 rw[VV,beq_iff_eq,decide_eq_true_eq];exact VW
theorem ON{n:Nat}(h:n<=1000000):(n:Int)<2 ^ 63:=Int.lt_of_le_of_lt (VP.mpr h) (by decide)
theorem Fg{a:Int}(h:-1000000<=a/\a<=1000000):-3000000<=a/\a<=3000000:=⟨VN (by decide) h.1,VN h.2 (by decide)⟩
theorem OM{a b:Int}(ha:-1000000<=a)(hb:b<=1000000):-3000000<=((b-a).toNat:Int)/\((b-a).toNat:Int)<=3000000:=⟨VN (by decide) (VO _),VP.mpr (Int.toNat_le.mpr (VN (Int.sub_le_sub hb ha) (by decide)))⟩
theorem P6{a:Int}(h:-3000000<=a/\a<=3000000):-9223372036854775808<=a/\a<9223372036854775808:=⟨VN (by decide) h.1,Int.lt_of_le_of_lt h.2 (by decide)⟩
theorem SZ{k:Int}(h:-3000000<=k/\k<=3000000):¬(!(decide (-2 ^ 63<=k)&&decide (k<2 ^ 63)))=true:=by
 rw[decide_eq_true (show -2 ^ 63<=k from VN (by decide) h.1),decide_eq_true (show k<2 ^ 63 from Int.lt_of_le_of_lt h.2 (by decide))];decide
theorem SW{a b:Int}:(if a<b then b-a else 0)=((b-a).toNat:Int):=by
 by_cases q:a<b
 .rw[if_pos q,Int.toNat_of_nonneg (Int.sub_nonneg_of_le (bx q))]
 .rw[if_neg q,Int.toNat_of_nonpos (Int.sub_nonpos_of_le (aF.mp q))];rfl
theorem P5{i:Nat}{lo hi:Int}(h:i<(hi-lo).toNat):lo+i<hi:=by
 have h2:=Int.add_lt_add_left (Int.lt_toNat.mp h) lo
 rwa [Int.add_comm lo (hi-lo),Int.sub_add_cancel]at h2
theorem SY{k:Int}{n:Nat}(h:k.toNat<n)(hn:n<=16777216):k<2 ^ 63:=Int.lt_of_le_of_lt (Int.self_le_toNat k) (Int.lt_of_le_of_lt (VP.mpr (W7 (Vp h hn))) (by decide))
end
section
set_option genSizeOf false
theorem Jx{P:Prop}(h:∀ G:Prop,(P->G)->G):P:=h P id
def D3(a:Array Lean.Syntax):Lean.Syntax:=.node .none ``Lean.Parser.Tactic.tacticSeq #[.node .none ``Lean.Parser.Tactic.tacticSeq1Indented #[.node .none `null a]]
def DP(k:Lean.Name)(a:Array Lean.Syntax):Lean.Syntax:=.node .none (Lean.Name.append `Lean.Parser.Tactic k) a
def Ij:Lean.Syntax:=.node .none `null #[]
def K1:Lean.Syntax:=DP `tacticRfl #[Lean.mkAtom "rfl"]
def AV:Lean.Syntax:=D3 #[K1]
def BX:Lean.Syntax:=D3 #[DP `decide #[Lean.mkAtom "decide",DP `optConfig #[Ij]]]
def CZ:Lean.Syntax:=D3 #[DP `withUnfoldingAll #[Lean.mkAtom "with_unfolding_all",AV]]
def Dj:Lean.Syntax:=.node .none ``Lean.Parser.Term.hole #[Lean.mkAtom "_"]
def Uv:Lean.Syntax:=.ident .none "h".toRawSubstring `h []
def Fq(a:Array Lean.Syntax):Lean.Syntax:=DP `intro #[Lean.mkAtom "intro",.node .none `null a]
def C4:Lean.Syntax:=D3 #[Fq #[Dj],Lean.mkAtom ";",K1]
def UC:Lean.Syntax:=D3 #[Fq #[Dj,Dj,Uv],Lean.mkAtom ";",DP `cases #[Lean.mkAtom "cases",.node .none `null #[DP `elimTarget #[Ij,Uv]],Ij,Ij]]
def S3:Lean.Syntax:=DP `withUnfoldingAll #[Lean.mkAtom "with_unfolding_all",AV]
def G0:Lean.Syntax:=D3 #[Fq #[Dj,Dj],Lean.mkAtom ";",K1]
def Ik:Lean.Syntax:=D3 #[Fq #[Dj,Dj],Lean.mkAtom ";",S3]
def RI(x:String)(n:Lean.Name):Lean.Syntax:=DP `exact #[Lean.mkAtom "exact",.node .none ``Lean.Parser.Term.app #[.ident .none x.toRawSubstring n [],.node .none `null #[Dj]]]
def Oy(t:Lean.Syntax):Lean.Syntax:=.node .none `group #[Lean.mkAtom "|",D3 #[t]]
def K3:Lean.Syntax:=D3 #[DP `first #[Lean.mkAtom "first",.node .none `null #[Oy (RI "Nat.le_refl" `Vn),Oy (RI "Nat.le_succ" `Vo),Oy (DP `assumption #[Lean.mkAtom "assumption"])]]]
def RK:Lean.Syntax:=D3 #[DP `exact #[Lean.mkAtom "exact",.node .none ``Lean.Parser.Term.app #[.ident .none "Nat.le_of_ble_eq_true".toRawSubstring `bB [],.node .none `null #[.ident .none "rfl".toRawSubstring `rfl []]]]]
inductive IS where
 | i (n:Int)
 | s (x:Str)
 deriving DecidableEq
noncomputable def HK:IS->VX->Bool
 | .i n,v=>Value.isInt n v
 | .s x,v=>Value.isStrOf x v
theorem BD{k:IS}{v:VX}(h:HK k v=true):(∃ n t,k=.i n/\v=.int n t)∨∃ x t,k=.s x/\v=.str x t:=by
 cases k with
 | i n=>obtain⟨t,rfl⟩:=Value.isInt_shape h;exact .inl ⟨n,t,rfl,rfl⟩
 | s x=>obtain⟨t,rfl⟩:=Value.isStrOf_shape h;exact .inr ⟨x,t,rfl,rfl⟩
section
variable{prog:VY}{w:VZ}{A:Va}{E:VX->Vb->Prop}{s:Vb}
theorem Gl{a:Int}{t:Tok}{b:Str}{u:Tok}{Q:Bool->Vb->Prop}(h:Q false s):Vc (model prog w) A (eqBool (.int a t) (.str b u)) Q E s:=by
 unfold eqBool
 refine Vd ?_
 rw[if_neg (by intro e;cases e)]
 exact Ve (EqMixed.eq_int_str (Vf h))
theorem Gk{a:Str}{t:Tok}{b:Int}{u:Tok}{Q:Bool->Vb->Prop}(h:Q false s):Vc (model prog w) A (eqBool (.str a t) (.int b u)) Q E s:=by
 unfold eqBool
 refine Vd ?_
 rw[if_neg (by intro e;cases e)]
 exact Ve (EqMixed.eq_str_int (Vf h))
end
noncomputable def Ag(prog:VY)(w:VZ):KeyKind prog w IS where
 is:=HK
 hash:=fun k=>match k with | .i n=>hashInt n | .s x=>hashStr w x
 inj:=fun v a b ha hb=>by
  rcases BD ha with ⟨n,t,rfl,rfl⟩|⟨x,t,rfl,rfl⟩
  .rcases BD hb with ⟨n',t',rfl,e⟩|⟨x',t',rfl,e⟩
   .injection e with e1;rw[e1]
   .cases e
  .rcases BD hb with ⟨n',t',rfl,e⟩|⟨x',t',rfl,e⟩
   .cases e
   .injection e with e1;rw[e1]
 byValue:=fun k v h=>by rcases BD h with ⟨n,t,rfl,rfl⟩|⟨x,t,rfl,rfl⟩<;>rfl
 pyHash:=fun hv h=>by
  rcases BD hv with ⟨n,t,rfl,rfl⟩|⟨x,t,rfl,rfl⟩
  .exact wpAny_pyHash_int h
  .exact wpAny_pyHash_str h
 eqBool:=fun hu hv h=>by
  rcases BD hu with ⟨n,t,rfl,rfl⟩|⟨x,t,rfl,rfl⟩<;>rcases BD hv with ⟨n',t',rfl,rfl⟩|⟨x',t',rfl,rfl⟩
  .refine Vg ?_
   exact(VV.mpr (by rw[beq_iff_eq,decide_eq_true_eq];exact⟨fun e=>congrArg IS.i e,fun e=>IS.i.inj e⟩):(n==n')=decide (IS.i n=IS.i n'))▸h
  .exact Gl ((decide_eq_false (fun e=>IS.noConfusion e):decide (IS.i n=IS.s x')=false)▸h)
  .exact Gk ((decide_eq_false (fun e=>IS.noConfusion e):decide (IS.s x=IS.i n')=false)▸h)
  .exact wpAny_eqBool_str ((decide_eq_decide.mpr ⟨fun e=>congrArg IS.s e,fun e=>IS.s.inj e⟩:decide (x=x')=decide (IS.s x=IS.s x'))▸h)
 «strs»:=fun k x t v h=>by
  rcases BD h with ⟨n,t,rfl,e⟩|⟨x',t',rfl,e⟩
  .cases e
  .injection e with e1
   subst e1
   cases v<;>rfl
end
section
set_option genInjectivity false
set_option genSizeOf false
inductive At where
 | none|bool (b:Bool)|int (i:Int)|str (x:Str)|float (f:UInt64)|ty (n:String)|bi (id:String)|ref (a:Addr)
inductive V where
 | at (x:At)
 | tup (c:Option Addr) (xs:List At)
noncomputable abbrev V.none:V:=.at .none
noncomputable abbrev V.bool(b:Bool):V:=.at (.bool b)
noncomputable abbrev V.int(i:Int):V:=.at (.int i)
noncomputable abbrev V.str(x:Str):V:=.at (.str x)
noncomputable abbrev V.float(f:UInt64):V:=.at (.float f)
noncomputable abbrev V.ty(n:String):V:=.at (.ty n)
noncomputable abbrev V.bi(n:String):V:=.at (.bi n)
noncomputable abbrev V.ref(a:Addr):V:=.at (.ref a)
noncomputable def At.rep:At->VX->Prop
 | .none,v=>v=.none
 | .bool b,v=>v=.bool b
 | .int i,v=>∃ t,v=.int i t
 | .str x,v=>∃ t,v=.str x t
 | .float f,v=>∃ t,v=.float f t/\t≠0
 | .ty n,v=>v=.type n
 | .bi n,v=>v=.builtin n
 | .ref a,v=>v=.ref a
noncomputable def DW{α:Type}(R:α->VX->Prop)(xs:List α):List VX->Prop:=@List.rec α (fun _=>List VX->Prop) (fun vs=>vs=[]) (fun x _ ih vs=>∃ v r,vs=v::r/\R x v/\ih r) xs
theorem DW.ind{α:Type}{R:α->VX->Prop}{P:List α->List VX->Prop}(h0:P [] [])(h1:∀ x xs v vs,R x v->DW R xs vs->P xs vs->P (x::xs) (v::vs)){xs:List α}:∀ {vs},DW R xs vs->P xs vs:=
 @List.rec α (fun xs=>∀ {vs},DW R xs vs->P xs vs) (fun e=>(show _=[] from e)▸h0) (fun x xs ih _ q=>q.elim fun v q=>q.elim fun r q=>q.1▸h1 x xs v r q.2.1 q.2.2 (ih q.2.2)) xs
noncomputable abbrev B1(xs:List At)(vs:List VX):Prop:=DW At.rep xs vs
noncomputable def Ef:Option Addr->VX
 | .none=>.type "tuple"
 | .some c=>.ref c
noncomputable def Bg(h:Heap)(c:Option Addr)(a:Addr)(items:Array VX):Prop:=∃ o n,h.get? a=some o/\o.cls=Ef c/\o.data=.seq items n
noncomputable def V.rep(h:Heap):V->VX->Prop
 | .at x,v=>x.rep v
 | .tup c xs,v=>∃ a items,v=.ref a/\Bg h c a items/\B1 xs items.toList
noncomputable abbrev AS(h:Heap)(xs:List V)(vs:List VX):Prop:=DW (V.rep h) xs vs
section
variable{h:Heap}{x:V}{v:VX}{xs ys:List V}{vs ws:List VX}
theorem AS.one(q:x.rep h v):AS h [x] [v]:=⟨v,[],rfl,q,rfl⟩
theorem AS.cons(q:x.rep h v)(r:AS h xs vs):AS h (x::xs) (v::vs):=⟨v,vs,rfl,q,r⟩
theorem DW.length{α:Type}{R:α->VX->Prop}{xs:List α}(r:DW R xs vs):vs.length=xs.length:=DW.ind (R:=R) (P:=fun (xs:List α) vs=>vs.length=xs.length) rfl (fun _ _ _ _ _ _ ih=>congrArg Nat.succ ih) r
theorem AS.length(r:AS h xs vs):vs.length=xs.length:=DW.length r
theorem AS.get{i:Nat}(r:AS h xs vs):xs[i]?=some x->∃ v,vs[i]?=some v/\x.rep h v:=DW.ind (P:=fun xs vs=>∀ i,xs[i]?=some x->∃ v,vs[i]?=some v/\x.rep h v) (fun _ e=>by simp at e) (fun y _ u _ q _ ih i=>@Nat.casesOn (fun i=>(y::_)[i]?=some x->∃ v,(u::_)[i]?=some v/\x.rep h v) i (fun e=>⟨u,rfl,(Option.some.inj e)▸q⟩) fun k e=>ih k e) r i
theorem AS.append(r:AS h xs vs)(s:AS h ys ws):AS h (xs++ys) (vs++ws):=DW.ind (P:=fun xs vs=>AS h (xs++ys) (vs++ws)) s (fun _ _ _ _ q _ ih=>AS.cons q ih) r
theorem AS.drop(i:Nat)(r:AS h xs vs):AS h (xs.drop i) (vs.drop i):=DW.ind (P:=fun xs vs=>∀ i,AS h (xs.drop i) (vs.drop i)) (fun i=>by rw[List.drop_nil,List.drop_nil];rfl) (fun y l u m q s ih i=>@Nat.casesOn (fun i=>AS h ((y::l).drop i) ((u::m).drop i)) i (AS.cons q s) ih) r i
theorem AS.take(i:Nat)(r:AS h xs vs):AS h (xs.take i) (vs.take i):=DW.ind (P:=fun xs vs=>∀ i,AS h (xs.take i) (vs.take i)) (fun i=>by rw[List.take_nil,List.take_nil];rfl) (fun y l u m q _ ih i=>@Nat.casesOn (fun i=>AS h ((y::l).take i) ((u::m).take i)) i rfl fun k=>AS.cons q (ih k)) r i
theorem AS.reverse(r:AS h xs vs):AS h xs.reverse vs.reverse:=DW.ind (P:=fun xs vs=>AS h xs.reverse vs.reverse) rfl (fun _ _ _ _ q _ ih=>by rw[Vh,Vh];exact ih.append (.one q)) r
theorem B1.reps{xs:List At}(r:B1 xs vs):AS h (xs.map .at) vs:=DW.ind (P:=fun xs vs=>AS h (xs.map .at) vs) rfl (fun _ _ v vs q _ ih=>⟨v,vs,rfl,q,ih⟩) r
theorem B1.of_reps{xs:List At}:∀ {vs},AS h (xs.map .at) vs->B1 xs vs:=@List.rec At (fun xs=>∀ {vs},AS h (xs.map .at) vs->B1 xs vs) id (fun _ _ ih _ q=>q.elim fun v q=>q.elim fun r q=>⟨v,r,q.1,q.2.1,ih q.2.2⟩) xs
end
theorem B1.length{xs:List At}{vs:List VX}(h:B1 xs vs):vs.length=xs.length:=by
 exact DW.length h
set_option genCtorIdx false in
inductive O where
 | list (xs:List V)
 | dict (ep:Nat) (es:List (IS×V))
 | set (z:Array (Int×VX)×Nat×Vi) (ks:List IS)
 | inst (c d:Addr)
 | ns (fs:List (Str×V))
 | cell (x:Option V)
 | range (a b c:Int)
 | view (cls:String) (d:Addr)
 | obj (o:Obj)
noncomputable def IS.v:IS->V
 | .i n=>.int n
 | .s x=>.str x
noncomputable def Obj.fixed(o:Obj):Prop:=@Data.casesOn (fun _=>Prop) o.data False (fun _=>True) (fun _ _=>False) (fun _ _=>False) (fun _ _ _=>False) (fun _ _=>False) (fun _=>False) (fun _=>True) (fun _=>False) (fun _=>True) False
noncomputable def G7(t:Vi):Prop:=t.place.toList.Pairwise (·<·)/\t.dummies=#[]
structure SetInv(prog:VY)(w:VZ)(z:Array (Int×VX)×Nat×Vi)(ks:List IS):Prop where
 el:ElemsOf (Ag prog w) z.1.toList
 mem:∀ k,k∈ks↔∃ e∈z.1.toList,(Ag prog w).is k e.2=true
 lt:z.1.size<Vj
 fits:z.2.2.fits z.1.size=true
 size:z.1.size=ks.length
 nd:ks.Nodup
 tame:G7 z.2.2
 led:z.2.2.led=!w.params.followText "set-order"
noncomputable def O.rep(prog:VY)(w:VZ)(h:Heap)(a:Addr):O->Prop
 | .list xs=>∃ items,h.IsList a items/\(∃ o,h.get? a=some o/\o.dict=.none/\o.slots=#[])/\AS h xs items.toList
 | .dict ep es=>(a==sysModules)=false/\∃ kvs,h.DictAt (Ag prog w) a kvs ep/\kvs.map (·.1)=es.map (·.1)/\AS h (es.map (·.2)) (kvs.map (·.2))
 | .set z ks=>∃ o,h.get? a=some o/\o.ExactSet/\o.data=.set z.1 z.2.1 z.2.2/\SetInv prog w z ks
 | .inst c d=>∃ o,h.get? a=some o/\o.cls=.ref c/\o.dict=some d/\o.data=.plain/\o.slots=#[]
 | .ns fs=>∃ m,h.Ns1 a m/\(∀ x,m x=.none↔fs.lookup x=.none)/\∀ x u,fs.lookup x=some u->∃ v,m x=some v/\u.rep h v
 | .cell x=>∃ o,h.get? a=some o/\∃ y,o.data=.cell y/\match x with | .none=>y=.none|some u=>∃ v,y=some v/\u.rep h v
 | .range x y z=>∃ t u v,IsRange h a x y z t u v
 | .view k d=>∃ o,h.get? a=some o/\o.cls=.type k/\o.data=.fields #[.ref d]
 | .obj o=>h.get? a=some o/\Mine.Internal.Obj.fixed o
structure Tk where
 toks:Nat
 drawn:Drawn
 gens:Array GenState
noncomputable abbrev sw(s:Vb)(h:Heap)(k:Tk):Vb:={ s with heap:=h,toks:=k.toks,drawn:=k.drawn,gens:=k.gens }
noncomputable abbrev Bq(s:Vb)(n:Nat):Tk:=⟨n,s.drawn,s.gens⟩
structure St where
 m:List (Str×V)
 H:List (Addr×O)
noncomputable abbrev dom(H:List (Addr×O)):List Addr:=H.map (·.1)
structure Ctx where
 prog:VY
 w:VZ
 A:Va
 env:Env
 G:Addr->Option Obj
 fuel:Nat
 hh:A.handled=.none
 hd:A.depth+fuel<Vk
 hu:A.units+40 * fuel+400<cLine
 hk:env.scope.kind=.function
noncomputable def Ctx.Knows(c:Ctx)(P:Heap->Prop):Prop:=∀ h:Heap,(∀ b o,c.G b=some o->h.get? b=some o)->P h
structure Fp(L:Addr)(H H':List (Addr×O))(h h':Heap):Prop where
 keep:∀ b o,b∉dom H->b≠L->h.get? b=some o->h'.get? b=some o
 dom:∀ b,b∈dom H'->b∈dom H∨h.get? b=.none
 alive:∀ b o,h.get? b=some o->∃ o',h'.get? b=some o'
theorem DM{a b:Array GenState}(h:a=b)(x:Vl b):Vl a:=h▸x
structure Rel(c:Ctx)(st:St)(s:Vb):Prop where
 loc:∃ m',s.heap.Ns c.env.locals m'/\∀ x u,st.m.lookup x=some u->∃ v,m' x=some v/\u.rep s.heap v
 obj:∀ a o,(a,o)∈st.H->o.rep c.prog c.w s.heap a
 nd:(dom st.H).Nodup
 apart:∀ a,a∈dom st.H->a≠c.env.locals/\c.G a=.none
 keep:∀ b o,c.G b=some o->s.heap.get? b=some o
 gl:c.G c.env.locals=.none
 bare:Vl s.gens
 tp:0<s.toks
theorem Fp.refl(L:Addr)(H:List (Addr×O))(h:Heap):Fp L H H h h:=⟨fun _ _ _ _ e=>e,fun _ hb=>.inl hb,fun _ o e=>⟨o,e⟩⟩
noncomputable def UQ(d:Data):Bool:=Nat.beq d.ctorIdx 2
theorem KV{ob:Obj}(h:UQ ob.data=false):∀ c items n,¬ (ob.cls=Ef c/\ob.data=.seq items n):=fun c items n q=>by rw[q.2]at h;exact Bool.noConfusion (show true=false from h)
theorem TN(k:Option Addr):az "list"≠Ef k:=fun q=>by
 cases k with
 | none=>injection q with q;exact absurd q (by decide)
 | some c=>cases q
theorem O.rep.some{prog:VY}{w:VZ}{h:Heap}{a:Addr}{o:O}(r:o.rep prog w h a):∃ ob,h.get? a=some ob/\∀ c items n,¬ (ob.cls=Ef c/\ob.data=.seq items n):=by
 cases o with
 | list xs=>obtain⟨items,⟨o,ho,hc,n,hd⟩,_⟩:=r;exact⟨o,ho,fun c items n q=>TN c (hc.symm.trans q.1)⟩
 | dict ep es=>obtain⟨_,kvs,⟨o,des,ho,_,hd,_⟩,_⟩:=r;exact⟨o,ho,KV (by rw[hd];rfl)⟩
 | range x y z=>obtain⟨t,u,v,ho⟩:=r;exact⟨_,ho,KV rfl⟩
 | view k d=>obtain⟨o,ho,_,hd⟩:=r;exact⟨o,ho,KV (by rw[hd];rfl)⟩
 | set z ks=>obtain⟨o,ho,_,hd,_⟩:=r;exact⟨o,ho,KV (by rw[hd];rfl)⟩
 | inst c d=>obtain⟨o,ho,_,_,hd,_⟩:=r;exact⟨o,ho,KV (by rw[hd];rfl)⟩
 | ns fs=>obtain⟨m,⟨o,es,ep,ho,hd,_⟩,_⟩:=r;exact⟨o,ho,KV (by rw[hd];rfl)⟩
 | cell x=>obtain⟨o,ho,y,hd,_⟩:=r;exact⟨o,ho,KV (by rw[hd];rfl)⟩
 | obj o=>exact⟨o,r.1,fun c items n q=>(show False by have:=r.2;unfold Mine.Internal.Obj.fixed at this;rw[q.2]at this;exact this)⟩
section
variable{c:Ctx}{st:St}{s:Vb}
theorem Rel.frame(R:Rel c st s):∃ o es ep,s.heap.get? c.env.locals=some o/\o.data=.dict es ep:=by
 obtain⟨m',⟨o,es,ep,ho,hd,_⟩,_⟩:=R.loc
 exact⟨o,es,ep,ho,hd⟩
theorem Rel.tup_out(R:Rel c st s){k:Option Addr}{a:Addr}{items:Array VX}(h:Bg s.heap k a items):a∉dom st.H/\a≠c.env.locals:=by
 obtain⟨o,n,ho,hc,hd⟩:=h
 constructor
 .intro q
  obtain⟨⟨b,ob⟩,hp,e⟩:=Vm.mp q
  cases (e:b=a)
  obtain⟨o',ho',nt⟩:=(R.obj _ _ hp).some
  rw[ho]at ho'
  cases ho'
  exact nt _ _ _ ⟨hc,hd⟩
 .intro q
  obtain⟨o',es,ep,ho',hd'⟩:=R.frame
  subst q
  rw[ho]at ho'
  cases ho'
  rw[hd]at hd'
  cases hd'
theorem V.rep_fp{u:V}{v:VX}{H':List (Addr×O)}{h':Heap}(r:u.rep s.heap v)(R:Rel c st s)(F:Fp c.env.locals st.H H' s.heap h'):u.rep h' v:=by
 cases u with
 | «at» x=>exact r
 | tup k xs=>
  obtain⟨a,items,rfl,ht,hr⟩:=r
  obtain⟨h1,h2⟩:=R.tup_out ht
  obtain⟨o,n,ho,q⟩:=ht
  exact⟨a,items,rfl,⟨o,n,F.keep _ _ h1 h2 ho,q⟩,hr⟩
theorem AS.fp{H':List (Addr×O)}{h':Heap}(R:Rel c st s)(F:Fp c.env.locals st.H H' s.heap h'){us:List V}{vs:List VX}(r:AS s.heap us vs):AS h' us vs:=DW.ind (P:=fun us vs=>AS h' us vs) rfl (fun _ _ v vs q _ ih=>⟨v,vs,rfl,V.rep_fp q R F,ih⟩) r
theorem Fp.trans{L:Addr}{H H₁ H₂:List (Addr×O)}{h h₁ h₂:Heap}(F:Fp L H H₁ h h₁)(hL:∃ o,h₁.get? L=some o)(F':Fp L H₁ H₂ h₁ h₂):Fp L H H₂ h h₂ where
 alive:=fun b o e=>(F.alive b o e).elim fun o' e'=>F'.alive b o' e'
 keep:=fun b o hb hL e=>F'.keep b o (fun q=>(F.dom b q).elim hb (fun n=>by rw[n]at e;cases e)) hL (F.keep b o hb hL e)
 dom:=fun b hb=>(F'.dom b hb).elim (F.dom b) fun n=>by
  cases q:h.get? b with
  | none=>exact .inr rfl
  | some o=>
   by_cases hm:b∈Mine.Internal.dom H
   .exact .inl hm
   .by_cases e:b=L
    .subst e
     obtain⟨o',ho'⟩:=hL
     rw[n]at ho';cases ho'
    .have:=F.keep b o hm e q
     rw[n]at this;cases this
theorem Rel.hasL(R:Rel c st s):∃ o,s.heap.get? c.env.locals=some o:=R.frame.elim fun o t9=>t9.elim fun _ t9=>t9.elim fun _ t9=>t9.elim fun ho _=>⟨o,ho⟩
theorem Rel.lt(R:Rel c st s){a:Addr}(h:a∈dom st.H):∃ o,s.heap.get? a=some o:=by
 obtain⟨⟨b,ob⟩,hp,e⟩:=Vm.mp h
 cases (e:b=a)
 obtain⟨o',ho',_⟩:=(R.obj _ _ hp).some
 exact⟨o',ho'⟩
theorem O.rep_keep{o:O}{a:Addr}{H':List (Addr×O)}{h':Heap}{prog:VY}{w:VZ}(r:o.rep prog w s.heap a)(R:Rel c st s)(F:Fp c.env.locals st.H H' s.heap h')(hk:∀ ob,s.heap.get? a=some ob->h'.get? a=some ob):o.rep prog w h' a:=by
 cases o with
 | list xs=>
  obtain⟨items,⟨o,ho,hc,n,hd⟩,⟨o2,ho2,q⟩,hr⟩:=r
  exact⟨items,⟨o,hk _ ho,hc,n,hd⟩,⟨o2,hk _ ho2,q⟩,AS.fp R F hr⟩
 | dict ep es=>obtain⟨h0,kvs,hm,h1,h2⟩:=r;exact⟨h0,kvs,hm.at' hk,h1,AS.fp R F h2⟩
 | range x y z=>obtain⟨t,u,v,ho⟩:=r;exact⟨t,u,v,hk _ ho⟩
 | view k d=>obtain⟨o,ho,q⟩:=r;exact⟨o,hk _ ho,q⟩
 | set z ks=>obtain⟨o,ho,q⟩:=r;exact⟨o,hk _ ho,q⟩
 | inst c d=>obtain⟨o,ho,q⟩:=r;exact⟨o,hk _ ho,q⟩
 | ns fs=>
  obtain⟨m,hm,q,hr⟩:=r
  exact⟨m,hm.at hk,q,fun x u hu=>(hr x u hu).elim fun v t9=>t9.elim fun h1 h2=>⟨v,h1,V.rep_fp h2 R F⟩⟩
 | cell x=>
  obtain⟨o,ho,y,hd,q⟩:=r
  refine⟨o,hk _ ho,y,hd,?_⟩
  cases x with
  | none=>exact q
  | some u=>obtain⟨v,h1,h2⟩:=q;exact⟨v,h1,V.rep_fp h2 R F⟩
 | obj o=>exact⟨hk _ r.1,r.2⟩
theorem Rel.change(R:Rel c st s){m2:List (Str×V)}{H':List (Addr×O)}{h':Heap}(tk:Tk)(F:Fp c.env.locals st.H H' s.heap h')(hloc:∃ m',h'.Ns c.env.locals m'/\∀ x u,m2.lookup x=some u->∃ v,m' x=some v/\u.rep h' v)(hobj:∀ a o,(a,o)∈H'->o.rep c.prog c.w h' a)(nd:(dom H').Nodup)(hb:Vl tk.gens)(ht:0<tk.toks):Rel c ⟨m2,H'⟩ (sw s h' tk) where
 loc:=hloc
 obj:=hobj
 nd:=nd
 apart:=fun a ha=>by
  rcases F.dom a ha with h|h
  .exact R.apart a h
  .constructor
   .intro e;subst e;obtain⟨o,ho⟩:=R.hasL;rw[h]at ho;cases ho
   .cases q:c.G a with
    | none=>rfl
    | some o=>have:=R.keep a o q;rw[h]at this;cases this
 keep:=fun b o e=>F.keep b o (fun q=>by rw[(R.apart b q).2]at e;cases e) (fun q=>by subst q;rw[R.gl]at e;cases e) (R.keep b o e)
 gl:=R.gl
 bare:=hb
 tp:=ht
theorem Rel.toks(R:Rel c st s)(tk:Tk)(hg:autoParam (tk.gens=s.gens) AV)(ht:autoParam (s.toks<=tk.toks) K3):Rel c st (sw s s.heap tk):=⟨R.loc,R.obj,R.nd,R.apart,R.keep,R.gl,DM hg R.bare,Vp R.tp ht⟩
theorem Fp.grow{L:Addr}{H:List (Addr×O)}{h h':Heap}(hk:∀ b o,h.get? b=some o->h'.get? b=some o):Fp L H H h h':=⟨fun b o _ _ e=>hk b o e,fun _ hb=>.inl hb,fun b o e=>⟨o,hk b o e⟩⟩
theorem Rel.grow(R:Rel c st s){h':Heap}(tk:Tk)(hk:∀ b o,s.heap.get? b=some o->h'.get? b=some o)(hg:autoParam (tk.gens=s.gens) AV)(ht:autoParam (s.toks<=tk.toks) K3):Rel c st (sw s h' tk):=
 have F:=Fp.grow (L:=c.env.locals) (H:=st.H) hk
 R.change tk F (R.loc.elim fun m' t9=>t9.elim fun hm q=>⟨m',hm.keeps hk,fun x u e=>(q x u e).elim fun v t9=>t9.elim fun h1 h2=>⟨v,h1,V.rep_fp h2 R F⟩⟩)
  (fun a o ho=>O.rep_keep (R.obj a o ho) R F fun ob e=>hk _ _ e) R.nd (DM hg R.bare) (Vp R.tp ht)
theorem Fp.new{L:Addr}{H:List (Addr×O)}{h h':Heap}{a:Addr}{o:O}(hk:∀ b o,h.get? b=some o->h'.get? b=some o)(ha:h.get? a=.none):Fp L H ((a,o)::H) h h':=
 ⟨fun b o _ _ e=>hk b o e,fun b hb=>by
  rcases Vq.mp hb with e|e
  .cases (e:b=a);exact .inr ha
  .exact .inl e,fun b o e=>⟨o,hk b o e⟩⟩
theorem Rel.new(R:Rel c st s){h':Heap}(tk:Tk){a:Addr}{o:O}(hk:∀ b o,s.heap.get? b=some o->h'.get? b=some o)(ha:s.heap.get? a=.none)(ho:o.rep c.prog c.w h' a)(hg:autoParam (tk.gens=s.gens) AV)(ht:autoParam (s.toks<=tk.toks) K3) :
  Rel c ⟨st.m,(a,o)::st.H⟩ (sw s h' tk):=
 have F:=Fp.new (L:=c.env.locals) (H:=st.H) (o:=o) hk ha
 R.change tk F (R.loc.elim fun m' t9=>t9.elim fun hm q=>⟨m',hm.keeps hk,fun x u e=>(q x u e).elim fun v t9=>t9.elim fun h1 h2=>⟨v,h1,V.rep_fp h2 R F⟩⟩)
  (fun b ob hb=>by
   rcases Vq.mp hb with e|e
   .cases e;exact ho
   .exact O.rep_keep (R.obj b ob e) R F fun x e=>hk _ _ e)
  (Vr.mpr ⟨fun q=>(by obtain⟨o',ho'⟩:=R.lt q;rw[ha]at ho';exact nomatch ho'),R.nd⟩) (DM hg R.bare) (Vp R.tp ht)
theorem Fp.frame{L:Addr}{H:List (Addr×O)}{h h':Heap}(hs:Vs L h h')(hL:∃ o,h'.get? L=some o):Fp L H H h h':=⟨fun b o _ hL e=>(hs.2 b hL).trans e,fun _ hb=>.inl hb,fun b o e=>if q:b=L then q▸hL else ⟨o,(hs.2 b q).trans e⟩⟩
theorem Rel.store(R:Rel c st s){h':Heap}(tk:Tk){x:Str}{u:V}{v:VX}(hv:u.rep s.heap v)(hs:Vs c.env.locals s.heap h'){m':Str->Option VX}(q:∀ x u,st.m.lookup x=some u->∃ v,m' x=some v/\u.rep s.heap v)(hn:h'.Ns c.env.locals (fun y=>if y=x then some v else m' y))(hg:autoParam (tk.gens=s.gens) AV)(ht:autoParam (s.toks<=tk.toks) K3):Rel c ⟨(x,u)::st.m,st.H⟩ (sw s h' tk):=
 have F:=Fp.frame (H:=st.H) hs (hn.elim fun o t9=>t9.elim fun _ t9=>t9.elim fun _ t9=>t9.elim fun ho _=>⟨o,ho⟩)
 R.change tk F (⟨_,hn,fun y u' e=>by
   rw[Vt]at e
   cases hb:y==x with
   | true=>
    rw[hb]at e;cases e
    exact⟨v,if_pos (beq_iff_eq.mp hb),V.rep_fp hv R F⟩
   | false=>
    rw[hb]at e
    obtain⟨v',h1,h2⟩:=q y u' e
    refine⟨v',?_,V.rep_fp h2 R F⟩
    have:y≠x:=fun q=>by subst q;simp at hb
    exact(if_neg this).trans h1⟩)
  (fun a o ho=>O.rep_keep (R.obj a o ho) R F fun ob e=>(hs.2 a (R.apart a (Vm.mpr ⟨_,ho,rfl⟩)).1).trans e) R.nd (DM hg R.bare) (Vp R.tp ht)
noncomputable def Cd(a:Addr)(o o':O)(H H':List (Addr×O)):Prop:=∃ l r,H=l++(a,o)::r/\H'=l++(a,o')::r
theorem Cd.head{a:Addr}{o o':O}(r:List (Addr×O)):Cd a o o' ((a,o)::r) ((a,o')::r):=⟨[],r,rfl,rfl⟩
theorem Cd.tail{a:Addr}{o o':O}{p:Addr×O}{r r':List (Addr×O)}(h:Cd a o o' r r'):Cd a o o' (p::r) (p::r'):=h.elim fun l t=>t.elim fun r q=>⟨p::l,r,congrArg (p::·) q.1,congrArg (p::·) q.2⟩
theorem Cd.mem{a:Addr}{o o':O}{H H':List (Addr×O)}(u:Cd a o o' H H'):(a,o)∈H:=u.elim fun l t=>t.elim fun r q=>q.1▸XN l (.head r)
theorem Cd.dom{a:Addr}{o o':O}{H H':List (Addr×O)}(u:Cd a o o' H H'):Mine.Internal.dom H'=Mine.Internal.dom H:=u.elim fun l t=>t.elim fun r q=>by
 unfold Mine.Internal.dom
 rw[q.1,q.2,XA,XA]
 rfl
theorem Cd.mem'{a b:Addr}{o o' ob:O}{H H':List (Addr×O)}(u:Cd a o o' H H')(nd:(Mine.Internal.dom H).Nodup)(h:(b,ob)∈H'):(b=a/\ob=o')∨(b≠a/\(b,ob)∈H):=by
 obtain⟨l,r,rfl,rfl⟩:=u
 have nd:(l.map (·.1)++a::r.map (·.1)).Nodup:=by rw[<- show(l++(a,o)::r).map (·.1)=l.map (·.1)++a::r.map (·.1) from XA];exact nd
 obtain⟨_,n2,n3⟩:=XB.mp nd
 rcases W9.mp h with e|e
 .exact .inr ⟨n3 _ (Vm.mpr ⟨_,e,rfl⟩) _ (.head _),XR _ e⟩
 .rcases Vq.mp e with e|e
  .cases e;exact .inl ⟨rfl,rfl⟩
  .exact .inr ⟨fun q=>(Vr.mp n2).1 (q▸Vm.mpr ⟨_,e,rfl⟩),XN _ (.tail _ e)⟩
noncomputable def DF(a:Addr)(o:O)(H:List (Addr×O))(F:O->List (Addr×O)):Prop:=∀ x,Cd a o x H (F x)
theorem DF.head{a:Addr}{o:O}(r:List (Addr×O)):DF a o ((a,o)::r) (fun x=>(a,x)::r):=fun _=>.head r
theorem DF.tail{a:Addr}{o:O}{p:Addr×O}{r:List (Addr×O)}{F:O->List (Addr×O)}(h:DF a o r F):DF a o (p::r) (fun x=>p::F x):=fun x=>.tail (h x)
theorem DF.upd{a:Addr}{o:O}{H:List (Addr×O)}{F:O->List (Addr×O)}(s:DF a o H F)(x:O):Cd a o x H (F x):=s x
theorem Fp.upd{L:Addr}{H H':List (Addr×O)}{h h':Heap}{a:Addr}{o o':O}(u:Cd a o o' H H')(hs:∀ b ob,b≠a->h.get? b=some ob->h'.get? b=some ob)(ha:∃ o,h'.get? a=some o):Fp L H H' h h':=
 ⟨fun b ob hb _ e=>hs b ob (fun q=>hb (q▸Vm.mpr ⟨_,u.mem,rfl⟩)) e,fun b hb=>.inl (by rw[u.dom]at hb;exact hb),fun b o e=>if q:b=a then q▸ha else ⟨o,hs b o q e⟩⟩
theorem Rel.upd(R:Rel c st s){h':Heap}(tk:Tk){a:Addr}{o o':O}{H':List (Addr×O)}(u:Cd a o o' st.H H')(hs:∀ b ob,b≠a->s.heap.get? b=some ob->h'.get? b=some ob)(ha:∃ o,h'.get? a=some o)(ho:(F:Fp c.env.locals st.H H' s.heap h')->o'.rep c.prog c.w h' a)(hg:autoParam (tk.gens=s.gens) AV)(ht:autoParam (s.toks<=tk.toks) K3):Rel c ⟨st.m,H'⟩ (sw s h' tk):=
 have F:=Fp.upd (L:=c.env.locals) u hs ha
 R.change tk F (R.loc.elim fun m' t9=>t9.elim fun hm q=>⟨m',hm.extBut (fun b ob hb e=>hs b ob hb e) (fun q=>(R.apart a (Vm.mpr ⟨_,u.mem,rfl⟩)).1 q.symm),fun x u e=>(q x u e).elim fun v t9=>t9.elim fun h1 h2=>⟨v,h1,V.rep_fp h2 R F⟩⟩)
  (fun b ob hb=>by
   rcases u.mem' R.nd hb with ⟨rfl,rfl⟩|⟨hne,hm⟩
   .exact ho F
   .exact O.rep_keep (R.obj b ob hm) R F fun x e=>hs _ _ hne e)
  (by rw[u.dom];exact R.nd) (DM hg R.bare) (Vp R.tp ht)
theorem Rel.weaken(R:Rel c st s){st':St}(hm:∀ x u,st'.m.lookup x=some u->st.m.lookup x=some u)(hH:∀ p∈st'.H,p∈st.H)(nd:(dom st'.H).Nodup):Rel c st' s:=
 ⟨R.loc.elim fun m' t9=>t9.elim fun hn q=>⟨m',hn,fun x u e=>q x u (hm x u e)⟩,fun a o h=>R.obj a o (hH _ h),nd,
  fun a ha=>R.apart a (by obtain⟨p,hp,e⟩:=Vm.mp ha;exact e▸Vm.mpr ⟨p,hH p hp,rfl⟩),R.keep,R.gl,R.bare,R.tp⟩
end
end
section
set_option genInjectivity false
set_option genSizeOf false
noncomputable abbrev Lo:=List (Str×V)
noncomputable abbrev Hp:=List (Addr×O)
noncomputable abbrev Ctx.wp(c:Ctx){α:Type}(t:Sem α)(P:α->Vb->Prop)(s:Vb):Prop:=Vc (model c.prog c.w) c.A t P (fun _ _=>False) s
noncomputable def FJ(c:Ctx)(H:Hp)(s:Vb){α β:Type}(R:Heap->β->α->Prop)(t:Sem α)(Q:β->Lo->Hp->Prop):Prop:=
 ∀ P:α->Vb->Prop,(∀ b v m' H' h tk,Rel c ⟨m',H'⟩ (sw s h tk)->Fp c.env.locals H H' s.heap h->R h b v->Q b m' H'->P v (sw s h tk))->c.wp t P s
noncomputable def VR(h:Heap)(u:V)(v:VX):Prop:=u.rep h v
noncomputable def BR(_:Heap)(a b:Bool):Prop:=a=b
noncomputable def UR(_:Heap)(_:Unit)(_:Unit):Prop:=True
set_option genCtorIdx false in
inductive Fl where
 | next|brk|cont|ret (v:V)
noncomputable def FR(h:Heap):Fl->Flow->Prop
 | .next,f=>f=.next
 | .brk,f=>f=.brk
 | .cont,f=>f=.cont
 | .ret u,f=>∃ v,f=.ret v/\u.rep h v
noncomputable def Af(c:Ctx)(e:Expr)(m:Lo)(H:Hp)(Q:V->Lo->Hp->Prop):Prop:=∀ s,Rel c ⟨m,H⟩ s->FJ c H s VR (eval e c.env) Q
noncomputable def FT(c:Ctx)(e:Expr)(m:Lo)(H:Hp)(Q:Bool->Lo->Hp->Prop):Prop:=∀ s,Rel c ⟨m,H⟩ s->FJ c H s BR (isTrue e c.env (eval e c.env)) Q
noncomputable def AW(c:Ctx)(b:List Stmt)(m:Lo)(H:Hp)(Q:Fl->Lo->Hp->Prop):Prop:=∀ s,Rel c ⟨m,H⟩ s->FJ c H s FR (execs b c.env) Q
noncomputable def DX(c:Ctx)(b:Stmt)(m:Lo)(H:Hp)(Q:Fl->Lo->Hp->Prop):Prop:=∀ s,Rel c ⟨m,H⟩ s->FJ c H s FR (exec b c.env) Q
noncomputable def FU(c:Ctx)(a:V){α β:Type}(R:Heap->β->α->Prop)(t:VX->Sem α)(m:Lo)(H:Hp)(Q:β->Lo->Hp->Prop):Prop:=∀ s va,Rel c ⟨m,H⟩ s->a.rep s.heap va->FJ c H s R (t va) Q
noncomputable def QZ(c:Ctx)(a b:V){α β:Type}(R:Heap->β->α->Prop)(t:VX->VX->Sem α)(m:Lo)(H:Hp)(Q:β->Lo->Hp->Prop):Prop:=∀ s va vb,Rel c ⟨m,H⟩ s->a.rep s.heap va->b.rep s.heap vb->FJ c H s R (t va vb) Q
noncomputable abbrev PO(c:Ctx)(op:Operator)(a b:V)(m:Lo)(H:Hp)(Q:V->Lo->Hp->Prop):Prop:=QZ c a b VR (binaryOp op) m H Q
noncomputable abbrev KG(c:Ctx)(op:CmpOp)(a b:V)(m:Lo)(H:Hp)(Q:V->Lo->Hp->Prop):Prop:=QZ c a b VR (compareOp op) m H Q
noncomputable abbrev RL(c:Ctx)(a:V)(m:Lo)(H:Hp)(Q:Bool->Lo->Hp->Prop):Prop:=FU c a BR truthy m H Q
noncomputable def AK(c:Ctx)(H:Hp)(a:Addr)(o:O):Prop:=∀ m s,Rel c ⟨m,H⟩ s->o.rep c.prog c.w s.heap a
theorem AK.mem{c:Ctx}{H:Hp}{a:Addr}{o:O}(h:(a,o)∈H):AK c H a o:=fun _ _ R=>R.obj a o h
theorem AK.known{c:Ctx}{H:Hp}{a:Addr}{o:O}(h:c.Knows fun h=>o.rep c.prog c.w h a):AK c H a o:=fun _ s R=>h s.heap R.keep
theorem Rel.lift{c:Ctx}{st:St}{s:Vb}{H':Hp}{h':Heap}{u:V}{v:VX}(R:Rel c st s)(F:Fp c.env.locals st.H H' s.heap h')(r:VR s.heap u v):u.rep h' v:=V.rep_fp r R F
theorem Rel.liftL{c:Ctx}{st:St}{s:Vb}{H':Hp}{h':Heap}{us:List V}{vs:List VX}(R:Rel c st s)(F:Fp c.env.locals st.H H' s.heap h')(r:AS s.heap us vs):AS h' us vs:=AS.fp R F r
section
variable{c:Ctx}{m:Lo}{H:Hp}{s:Vb}{α β:Type}{Rr:Heap->β->α->Prop}
theorem FJ.done{t:Sem α}{Q:β->Lo->Hp->Prop}(R:Rel c ⟨m,H⟩ s){b:β}{v:α}(h:∀ P:α->Vb->Prop,P v s->c.wp t P s)(r:Rr s.heap b v)(q:Q b m H):FJ c H s Rr t Q:=
 fun P k=>h P (k b v m H s.heap (Bq s s.toks) R (.refl ..) r q)
theorem Ctx.wpT{t:Sem α}{P:α->Vb->Prop}(h:c.wp t (fun v s'=>s.toks<=s'.toks->P v s') s):c.wp t P s:=
 Vv (wpAny_toks_of (Vn _) h) (fun _ _ x=>x.2 x.1) (fun _ _ x=>x.2)
theorem FJ.val{t:Sem α}{Q:β->Lo->Hp->Prop}(R:Rel c ⟨m,H⟩ s){b:β}(q:Q b m H)(h:∀ P:α->Vb->Prop,(∀ v tk,Rr s.heap b v->P v { s with toks:=tk })->c.wp t P s):FJ c H s Rr t Q:=
 fun P k=>Ctx.wpT (h _ fun v tk r (ht:s.toks<=tk)=>k b v m H s.heap (Bq s tk) (R.toks (Bq s tk)) (.refl ..) r q)
theorem FJ.grow{t:Sem α}{Q:β->Lo->Hp->Prop}(R:Rel c ⟨m,H⟩ s){b:β}(q:Q b m H)(h:∀ P:α->Vb->Prop,(∀ v h' tk,(∀ a o,s.heap.get? a=some o->h'.get? a=some o)->Rr h' b v->P v { s with heap:=h',toks:=tk })->c.wp t P s):FJ c H s Rr t Q:=
 fun P k=>Ctx.wpT (h _ fun v h' tk hk r (ht:s.toks<=tk)=>k b v m H h' (Bq s tk) (R.grow (Bq s tk) hk) (.grow hk) r q)
theorem FJ.new{t:Sem α}{Q:β->Lo->Hp->Prop}(R:Rel c ⟨m,H⟩ s){o:O}{b:Addr->β}(q:∀ a,Q (b a) m ((a,o)::H))(h:∀ P:α->Vb->Prop,(∀ a v h' tk,(∀ a o,s.heap.get? a=some o->h'.get? a=some o)->s.heap.get? a=.none->o.rep c.prog c.w h' a->Rr h' (b a) v->P v { s with heap:=h',toks:=tk })->c.wp t P s):FJ c H s Rr t Q:=
 fun P k=>Ctx.wpT (h _ fun a v h' tk hk ha ho r (ht:s.toks<=tk)=>k (b a) v m ((a,o)::H) h' (Bq s tk) (R.new (Bq s tk) hk ha ho) (.new hk ha) r (q a))
theorem FJ.upd{t:Sem α}{Q:β->Lo->Hp->Prop}(R:Rel c ⟨m,H⟩ s){a:Addr}{o o':O}{H':Hp}(u:Cd a o o' H H'){b:β}(q:Q b m H')(h:∀ P:α->Vb->Prop,(∀ v h' tk,(∀ b ob,b≠a->s.heap.get? b=some ob->h'.get? b=some ob)->(∃ o,h'.get? a=some o)->(Fp c.env.locals H H' s.heap h'->o'.rep c.prog c.w h' a)->Rr h' b v->P v { s with heap:=h',toks:=tk })->c.wp t P s):FJ c H s Rr t Q:=
 fun P k=>Ctx.wpT (h _ fun v h' tk hs ha ho r (ht:s.toks<=tk)=>k b v m H' h' (Bq s tk) (R.upd (Bq s tk) u hs ha ho) (.upd u hs ha) r q)
theorem Af.mono{e:Expr}{Q Q':V->Lo->Hp->Prop}(h:Af c e m H Q)(hQ:∀ v m H,Q v m H->Q' v m H):Af c e m H Q':=
 fun s R P k=>h s R P fun b v m' H' h tk R' F r q=>k b v m' H' h tk R' F r (hQ _ _ _ q)
theorem FT.mono{e:Expr}{Q Q':Bool->Lo->Hp->Prop}(h:FT c e m H Q)(hQ:∀ v m H,Q v m H->Q' v m H):FT c e m H Q':=
 fun s R P k=>h s R P fun b v m' H' h tk R' F r q=>k b v m' H' h tk R' F r (hQ _ _ _ q)
theorem AW.mono{b:List Stmt}{Q Q':Fl->Lo->Hp->Prop}(h:AW c b m H Q)(hQ:∀ v m H,Q v m H->Q' v m H):AW c b m H Q':=
 fun s R P k=>h s R P fun b v m' H' h tk R' F r q=>k b v m' H' h tk R' F r (hQ _ _ _ q)
theorem FU.mono{a:V}{t:VX->Sem α}{Q Q':β->Lo->Hp->Prop}(h:FU c a Rr t m H Q)(hQ:∀ v m H,Q v m H->Q' v m H):FU c a Rr t m H Q':=
 fun s va R r P k=>h s va R r P fun b v m' H' h tk R' F r q=>k b v m' H' h tk R' F r (hQ _ _ _ q)
noncomputable def AI(m:Lo)(H:Hp)(m':Lo)(H':Hp):Prop:=(∀ x u,m'.lookup x=some u->m.lookup x=some u)/\(∀ p∈H',p∈H)/\((dom H).Nodup->(dom H').Nodup)
theorem Fp.less{L:Addr}{H H' H2:Hp}{h h':Heap}(F:Fp L H' H2 h h')(hH:∀ p∈H',p∈H):Fp L H H2 h h':=
 ⟨fun b o hb hL e=>F.keep b o (fun q=>hb (by obtain⟨p,hp,e⟩:=Vm.mp q;exact e▸Vm.mpr ⟨p,hH p hp,rfl⟩)) hL e,
  fun b hb=>(F.dom b hb).imp (fun q=>by obtain⟨p,hp,e⟩:=Vm.mp q;exact e▸Vm.mpr ⟨p,hH p hp,rfl⟩) id,F.alive⟩
theorem AW.less{b:List Stmt}{Q:Fl->Lo->Hp->Prop}{m':Lo}{H':Hp}(l:AI m H m' H')(h:AW c b m' H' Q):AW c b m H Q:=
 fun s R P k=>h s (R.weaken l.1 l.2.1 (l.2.2 R.nd)) P fun b v m' H2 h tk R' F r q=>k b v m' H2 h tk R' (F.less l.2.1) r q
theorem Af.less{e:Expr}{Q:V->Lo->Hp->Prop}{m':Lo}{H':Hp}(l:AI m H m' H')(h:Af c e m' H' Q):Af c e m H Q:=
 fun s R P k=>h s (R.weaken l.1 l.2.1 (l.2.2 R.nd)) P fun b v m' H2 h tk R' F r q=>k b v m' H2 h tk R' (F.less l.2.1) r q
end
section
variable{c:Ctx}{m:Lo}{H:Hp}{pos:Pos}
theorem Oh{i:Int}{k:Nat}{Q:V->Lo->Hp->Prop}(h:Q (.int i) m H):Af c (.Constant (.int i) k pos) m H Q:=
 fun s R=>.val R h fun P k=>wpAny_Constant_int (k _ _ ⟨_,rfl⟩)
theorem Co{x:Str}{k:Nat}{Q:V->Lo->Hp->Prop}(h:Q (.str x) m H):Af c (.Constant (.str x) k pos) m H Q:=
 fun s R=>.val R h fun P k=>wpAny_Constant_str (k _ _ ⟨_,rfl⟩)
theorem EF{k:Nat}{Q:V->Lo->Hp->Prop}(h:Q .none m H):Af c (.Constant .none k pos) m H Q:=
 fun s R=>.val R h fun P k=>wpAny_Constant_none (k _ _ rfl)
theorem Om{b:Bool}{k:Nat}{Q:V->Lo->Hp->Prop}(h:Q (.bool b) m H):Af c (.Constant (.bool b) k pos) m H Q:=
 fun s R=>.val R h fun P k=>wpAny_Constant_bool (k _ _ rfl)
theorem Ll{x:Str}{u:V}{Q:V->Lo->Hp->Prop}(hl:c.env.kindOf x=some .local)(hv:m.lookup x=some u)(h:Q u m H)(hd:autoParam ((x==("__debug__":Str))=false) BX):Af c (.Name x pos) m H Q:=fun s R=>by
 obtain⟨m',hn,q⟩:=R.loc
 obtain⟨v,h1,h2⟩:=q x u hv
 exact .done R (fun P p=>wpAny_Name (Vx c.hk hl hn h1 p) hd) h2 h
noncomputable def E0(c:Ctx)(x:Str):Option Addr:=match c.env.kindOf x with
 | some .cell=>c.env.cells.lookup x
 | some .free=>if (x==("__classdict__":Str))=true then .none else c.env.cells.lookup x
 | _=>.none
theorem Eh{x:Str}{a:Addr}(h:E0 c x=some a):c.env.cells.lookup x=some a/\(c.env.kindOf x=some .cell∨(c.env.kindOf x=some .free/\(x==("__classdict__":Str))=false)):=by
 delta E0 at h
 cases k:c.env.kindOf x with
 | none=>rw[k]at h;cases h
 | some kd=>
  rw[k]at h
  cases kd with
  | cell=>exact⟨h,.inl rfl⟩
  | free=>
   refine(fun (h:(if (x==("__classdict__":Str))=true then Option.none else c.env.cells.lookup x)=some a)=>?_) h
   by_cases q:(x==("__classdict__":Str))=true
   .rw[if_pos q]at h;cases h
   .rw[if_neg q]at h;exact⟨h,.inr ⟨rfl,Vy.mpr q⟩⟩
  | _=>cases h
theorem Ol{x:Str}{a:Addr}{u:V}{Q:V->Lo->Hp->Prop}(hc:E0 c x=some a)(hv:AK c H a (.cell (some u)))(h:Q u m H)(hd:autoParam ((x==("__debug__":Str))=false) BX):Af c (.Name x pos) m H Q:=fun s R=>by
 obtain⟨o,ho,y,hy,v,rfl,hr⟩:=hv m s R
 obtain⟨hl,hk⟩:=Eh hc
 rcases hk with hk|⟨hk,hn⟩
 .exact .done R (fun P p=>wpAny_Name (wpAny_loadName_cell c.hk hk hl ⟨o,ho,hy⟩ p) hd) hr h
 .exact .done R (fun P p=>wpAny_Name (wpAny_loadName_free c.hk hk hl ⟨o,ho,hy⟩ p hn) hd) hr h
noncomputable def An(c:Ctx)(x:Str)(u:At):Prop:=c.env.kindOf x=some .globalImplicit/\c.Knows fun h=>∀ (s:Vb) (P:VX->Vb->Prop),s.heap=h->(∀ v,u.rep v->P v s)->c.wp (loadGlobal c.env x) P s
theorem BW{x:Str}{u:At}{Q:V->Lo->Hp->Prop}(hg:An c x u)(h:Q (.at u) m H)(hd:autoParam ((x==("__debug__":Str))=false) BX):Af c (.Name x pos) m H Q:=
 fun s R=>.val R h fun P k=>Vz c.hk hg.1 (hg.2 s.heap R.keep s P rfl fun v hv=>k v s.toks hv) hd
theorem BP{l r:Expr}{op:Operator}{Q:V->Lo->Hp->Prop}(h:Af c l m H fun a m1 H1=>Af c r m1 H1 fun b m2 H2=>PO c op a b m2 H2 Q):Af c (.BinOp l op r pos) m H Q:=
 fun s R P k=>wpAny_BinOp (h s R _ fun a va m1 H1 h1 tk1 R1 F1 r1 q1=>q1 _ R1 _ fun b vb m2 H2 h2 tk2 R2 F2 r2 q2=>q2 _ va vb R2 (R1.lift F2 r1) r2 P
  fun v v' m3 H3 h3 tk3 R3 F3 r3 q3=>k v v' m3 H3 h3 tk3 R3 ((F1.trans R1.hasL F2).trans R2.hasL F3) r3 q3)
theorem Oj{l r:Expr}{op:CmpOp}{Q:V->Lo->Hp->Prop}(h:Af c l m H fun a m1 H1=>Af c r m1 H1 fun b m2 H2=>KG c op a b m2 H2 Q)(hm:autoParam (V0 op r=false) CZ):Af c (.Compare l [op] [r] pos) m H Q:=
 fun s R P k=>wpAny_Compare1 (h s R _ fun a va m1 H1 h1 tk1 R1 F1 r1 q1=>q1 _ R1 _ fun b vb m2 H2 h2 tk2 R2 F2 r2 q2=>q2 _ va vb R2 (R1.lift F2 r1) r2 P
  fun v v' m3 H3 h3 tk3 R3 F3 r3 q3=>k v v' m3 H3 h3 tk3 R3 ((F1.trans R1.hasL F2).trans R2.hasL F3) r3 q3) hm
theorem Fn{t a b:Expr}{Q:V->Lo->Hp->Prop}(h:FT c t m H fun x m1 H1=>if x then Af c a m1 H1 Q else Af c b m1 H1 Q):Af c (.IfExp t a b pos) m H Q:=
 fun s R P k=>wpAny_IfExp (h s R _ fun x vx m1 H1 h1 tk1 R1 F1 r1 q1=>by
  cases r1
  cases x<;>exact q1 _ R1 P fun v v' m3 H3 h3 tk3 R3 F3 r3 q3=>k v v' m3 H3 h3 tk3 R3 (F1.trans R1.hasL F3) r3 q3)
theorem Dl{e:Expr}{Q:Bool->Lo->Hp->Prop}(h:Af c e m H fun a m1 H1=>RL c a m1 H1 Q)(he:autoParam (∀ whole,isTrue e c.env whole=(do let v <- whole;V1 e.pos;V2 [v] (truthy v))) C4):FT c e m H Q:=
 fun s R P k=>wpAny_isTrue_value (h s R _ fun a va m1 H1 h1 tk1 R1 F1 r1 q1=>q1 _ va R1 r1 P fun v v' m3 H3 h3 tk3 R3 F3 r3 q3=>k v v' m3 H3 h3 tk3 R3 (F1.trans R1.hasL F3) r3 q3) (he _)
theorem CG{l r:Expr}{op:CmpOp}{Q:Bool->Lo->Hp->Prop}(h:Af c l m H fun a m1 H1=>Af c r m1 H1 fun b m2 H2=>KG c op a b m2 H2 fun d m3 H3=>RL c d m3 H3 Q)(hm:autoParam (V0 op r=false) CZ):FT c (.Compare l [op] [r] pos) m H Q:=
 fun s R P k=>wpAny_isTrue_Compare1 (h s R _ fun a va m1 H1 h1 tk1 R1 F1 r1 q1=>q1 _ R1 _ fun b vb m2 H2 h2 tk2 R2 F2 r2 q2=>q2 _ va vb R2 (R1.lift F2 r1) r2 _
  fun v v' m3 H3 h3 tk3 R3 F3 r3 q3=>q3 _ v' R3 r3 P fun v v' m4 H4 h4 tk4 R4 F4 r4 q4=>k v v' m4 H4 h4 tk4 R4 (((F1.trans R1.hasL F2).trans R2.hasL F3).trans R3.hasL F4) r4 q4) hm
theorem TD{x:Expr}{Q:Bool->Lo->Hp->Prop}(h:FT c x m H fun b m1 H1=>Q (!b) m1 H1):FT c (.UnaryOp .Not x pos) m H Q:=
 fun s R P k=>wpAny_isTrue_Not (h s R _ fun x vx m1 H1 h1 tk1 R1 F1 r1 q1=>by cases r1;exact k _ _ m1 H1 h1 tk1 R1 F1 rfl q1)
noncomputable def G6(c:Ctx)(op:BoolOp)(es:List Expr)(m:Lo)(H:Hp)(Q:Bool->Lo->Hp->Prop):Prop:=∀ s,Rel c ⟨m,H⟩ s->FJ c H s BR (allTrue op es c.env) Q
theorem KL{op:BoolOp}{es:List Expr}{Q:Bool->Lo->Hp->Prop}(h:G6 c op es m H Q):FT c (.BoolOp op es pos) m H Q:=
 fun s R P k=>wpAny_isTrue_BoolOp (h s R P k)
theorem FG{Q:Bool->Lo->Hp->Prop}(h:Q true m H):G6 c .And [] m H Q:=fun s R=>.done R (fun P p=>wpAny_allTrue_And_nil p) rfl h
theorem K5{Q:Bool->Lo->Hp->Prop}(h:Q false m H):G6 c .Or [] m H Q:=fun s R=>.done R (fun P p=>wpAny_allTrue_Or_nil p) rfl h
theorem Dw{x:Expr}{r:List Expr}{Q:Bool->Lo->Hp->Prop}(h:FT c x m H fun b m1 H1=>if b then G6 c .And r m1 H1 Q else Q false m1 H1):G6 c .And (x::r) m H Q:=
 fun s R P k=>wpAny_allTrue_And_cons (h s R _ fun x vx m1 H1 h1 tk1 R1 F1 r1 q1=>by
  cases r1
  cases x
  .exact k _ _ m1 H1 h1 tk1 R1 F1 rfl q1
  .exact q1 _ R1 P fun v v' m3 H3 h3 tk3 R3 F3 r3 q3=>k v v' m3 H3 h3 tk3 R3 (F1.trans R1.hasL F3) r3 q3)
theorem O3{x:Expr}{r:List Expr}{Q:Bool->Lo->Hp->Prop}(h:FT c x m H fun b m1 H1=>if b then Q true m1 H1 else G6 c .Or r m1 H1 Q):G6 c .Or (x::r) m H Q:=
 fun s R P k=>wpAny_allTrue_Or_cons (h s R _ fun x vx m1 H1 h1 tk1 R1 F1 r1 q1=>by
  cases r1
  cases x
  .exact q1 _ R1 P fun v v' m3 H3 h3 tk3 R3 F3 r3 q3=>k v v' m3 H3 h3 tk3 R3 (F1.trans R1.hasL F3) r3 q3
  .exact k _ _ m1 H1 h1 tk1 R1 F1 rfl q1)
theorem Ak{b:Bool}{Q:Bool->Lo->Hp->Prop}(h:Q b m H):RL c (.bool b) m H Q:=fun s va R r=>by
 cases (r:va=_)
 exact .done R (fun P p=>Vf p) rfl h
noncomputable def BJ(c:Ctx)(pos:Pos)(es:List Expr)(m:Lo)(H:Hp)(Q:List V->Lo->Hp->Prop):Prop:=∀ s,Rel c ⟨m,H⟩ s->FJ c H s AS (spliced (backTo pos (V3 es c.env))) Q
theorem AC{Q:List V->Lo->Hp->Prop}(h:Q [] m H):BJ c pos [] m H Q:=fun s R=>.done R (b:=[]) (fun P p=>wpAny_items_nil p) rfl h
theorem AA{e:Expr}{r:List Expr}{Q:List V->Lo->Hp->Prop}(h:Af c e m H fun a m1 H1=>BJ c pos r m1 H1 fun as m2 H2=>Q (a::as) m2 H2)(he:autoParam (V3 (e::r) c.env=(false,eval e c.env)::V3 r c.env) AV):BJ c pos (e::r) m H Q:=
 fun s R P k=>wpAny_items_cons (h s R _ fun a va m1 H1 h1 tk1 R1 F1 r1 q1=>q1 _ R1 _ fun as vs m2 H2 h2 tk2 R2 F2 r2 q2=>
  k (a::as) (va::vs) m2 H2 h2 tk2 R2 (F1.trans R1.hasL F2) (.cons (R1.lift F2 r1) r2) q2) he
end
end
theorem Ctx.hp(c:Ctx):(c.env.scope.kind==.class || (c.env.scope.kind==.module&&c.env.locals != c.env.globals))=false:=by rw[c.hk];rfl
theorem Ctx.hi(c:Ctx):interactive c.env=false:=by unfold interactive;rw[c.hk];rfl
section
variable{c:Ctx}{m:Lo}{H:Hp}{pos:Pos}
noncomputable abbrev O9(c:Ctx)(x:Str)(v:V)(m:Lo)(H:Hp)(Q:Lo->Hp->Prop):Prop:=FU c v UR (fun y=>storeName c.env x y) m H fun _=>Q
noncomputable abbrev Fs(c:Ctx)(t:Expr)(v:V)(m:Lo)(H:Hp)(Q:Lo->Hp->Prop):Prop:=FU c v UR (fun y=>assign t c.env y) m H fun _=>Q
theorem AE{x:Str}{v:V}{Q:Lo->Hp->Prop}(hl:c.env.kindOf x=some .local)(h:Q ((x,v)::m) H):O9 c x v m H Q:=fun s va R r P k=>by
 obtain⟨m',hn,q⟩:=R.loc
 exact V4 hl hn (fun h' hn' hs=>k () () _ _ h' ⟨_,_,s.gens⟩ (R.store ⟨_,_,s.gens⟩ r hs q hn') (.frame hs (hn'.elim fun o t9=>t9.elim fun _ t9=>t9.elim fun _ t9=>t9.elim fun ho _=>⟨o,ho⟩)) trivial h) c.hp
theorem NQ{x:Str}{v:V}{a:Addr}{u:Option V}{H':Hp}{Q:Lo->Hp->Prop}(hk:c.env.kindOf x=some .cell)(hl:c.env.cells.lookup x=some a)(u:Cd a (.cell u) (.cell (some v)) H H')(h:Q m H'):O9 c x v m H Q:=fun s va R r=>by
 obtain⟨o,ho,y,hd,q⟩:=R.obj _ _ u.mem
 exact .upd R u (b:=()) h fun P k=>wpAny_storeName_cell c.hk hk hl ⟨o,ho,hd⟩ fun h' hc hs=>k () h' s.toks (fun b ob hb e=>(hs.2 b hb).trans e) (hc.elim fun o t9=>t9.elim fun ho _=>⟨o,ho⟩) (fun F=>by
  obtain⟨o',ho',hd'⟩:=hc
  exact⟨o',ho',_,hd',va,rfl,R.lift F r⟩) trivial
theorem AP{x:Str}{p:Pos}{v:V}{Q:Lo->Hp->Prop}(h:O9 c x v m H Q):Fs c (.Name x p) v m H Q:=fun s va R r P k=>wpAny_assign_Name (h s va R r P k)
noncomputable def Mw{τ:Type}(c:Ctx)(f:τ->VX->Sem Unit)(ts:List τ):List V->Lo->Hp->(Lo->Hp->Prop)->Prop:=
 @List.rec τ (fun _=>List V->Lo->Hp->(Lo->Hp->Prop)->Prop) (fun us m H Q=>@List.casesOn V (fun _=>Prop) us (Q m H) fun _ _=>False)
  (fun t _ ih us m H Q=>@List.casesOn V (fun _=>Prop) us False fun u r=>FU c u UR (f t) m H fun _ m1 H1=>ih r m1 H1 Q) ts
noncomputable abbrev M5(c:Ctx):List Expr->List V->Lo->Hp->(Lo->Hp->Prop)->Prop:=Mw c fun t=>assign t c.env
theorem Mw.run{τ:Type}{f g:τ->VX->Sem Unit}(w:∀ t v P s,c.wp (f t v) P s->c.wp (g t v) P s){ts:List τ}:∀ {us:List V} {m:Lo} {H:Hp} {Q:Lo->Hp->Prop},Mw c f ts us m H Q->∀ s vs,Rel c ⟨m,H⟩ s->AS s.heap us vs ->
  FJ c H s UR (assignInOrder (ts.map g) vs) fun _=>Q:=by
 induction ts with
 | nil=>
  intro us m H Q h s vs R r
  cases us with
  | nil=>cases r;exact .done R (b:=()) (fun P p=>wpAny_assignInOrder_none p) trivial h
  | cons _ _=>exact h.elim
 | cons t ts ih=>
  intro us m H Q h s vs R r
  cases us with
  | nil=>exact h.elim
  | cons u us=>
   obtain⟨v,vs,rfl,hv,hr⟩:=r
   exact fun P k=>wpAny_assignInOrder_more (w _ _ _ _ (h s v R hv _ fun _ _ m1 H1 h1 tk1 R1 F1 _ q1=>ih q1 _ vs R1 (R.liftL F1 hr) P fun b v m2 H2 h2 tk2 R2 F2 r2 q2=>k b v m2 H2 h2 tk2 R2 (F1.trans R1.hasL F2) r2 q2))
theorem M5.run{ts:List Expr}{us:List V}{m:Lo}{H:Hp}{Q:Lo->Hp->Prop}(h:M5 c ts us m H Q):∀ s vs,Rel c ⟨m,H⟩ s->AS s.heap us vs->FJ c H s UR (assignInOrder (ts.map fun t=>assign t c.env) vs) fun _=>Q:=Mw.run (fun _ _ _ _=>id) h
theorem Bg.plain{h:Heap}{a:Addr}{items:Array VX}(x:Bg h .none a items):h.IsTuple a items:=x.elim fun o t9=>t9.elim fun n t9=>t9.elim fun ho t9=>t9.elim fun hc hd=>⟨o,ho,hc,n,hd⟩
theorem Ch{ts:List Expr}{k1:Nat}{p:Pos}{xs:List At}{Q:Lo->Hp->Prop}(h:M5 c ts (xs.map .at) m H Q)(he:autoParam ((V7 ts c.env).map (·.2)=ts.map (fun t=>assign t c.env)) AV)(hs:autoParam ((V7 ts c.env).findIdx? (·.1)=.none) AV)(hn:autoParam (ts.length=xs.length) AV):Fs c (.Tuple ts k1 p) (.tup .none xs) m H Q:=fun s va R r P k=>by
 obtain⟨a,items,rfl,ht,hr⟩:=r
 have hl:(V7 ts c.env).length=items.size:=by
  rw[<- V8 (f:=(·.2)),he,V8,hn,<- V9,hr.length]
 refine wpAny_assign_Tuple c.hh ht.plain hl hs fun h' hext=>?_
 have hg:∀ b o,s.heap.get? b=some o->h'.get? b=some o:=fun b o e=>hext b o (WA (WB e)) e
 rw[he]
 refine M5.run h _ _ (R.grow (Bq s s.toks) hg) hr.reps P fun b v m2 H2 h2 tk2 R2 F2 r2 q2=>k b v m2 H2 h2 tk2 R2 ((Fp.grow hg).trans (R.grow (Bq s s.toks) hg).hasL F2) r2 q2
theorem AX{Q:Fl->Lo->Hp->Prop}(h:Q .next m H):AW c [] m H Q:=fun s R=>.done R (b:=.next) (fun P p=>WC p) rfl h
theorem AB{st:Stmt}{r:List Stmt}{Q:Fl->Lo->Hp->Prop}(h:DX c st m H fun f m1 H1=>match f with | .next=>AW c r m1 H1 Q|f=>Q f m1 H1):AW c (st::r) m H Q:=
 fun s R P k=>wpAny_execs_cons (h s R _ fun f vf m1 H1 h1 tk1 R1 F1 r1 q1=>by
  cases f with
  | next=>cases (r1:vf=.next);exact q1 _ R1 P fun v v' m3 H3 h3 tk3 R3 F3 r3 q3=>k v v' m3 H3 h3 tk3 R3 (F1.trans R1.hasL F3) r3 q3
  | brk=>cases (r1:vf=.brk);exact k .brk _ m1 H1 h1 tk1 R1 F1 rfl q1
  | cont=>cases (r1:vf=.cont);exact k .cont _ m1 H1 h1 tk1 R1 F1 rfl q1
  | ret u=>obtain⟨v,rfl,hv⟩:=r1;exact k (.ret u) _ m1 H1 h1 tk1 R1 F1 ⟨v,rfl,hv⟩ q1)
theorem Ac{x:Str}{p:Pos}{e:Expr}{Q:Fl->Lo->Hp->Prop}(h:Af c e m H fun v m1 H1=>O9 c x v m1 H1 (Q .next))(hs:autoParam (WD e (some (.Name x p)) pos.line c.env=pure false) AV):DX c (.Assign [.Name x p] e pos) m H Q:=
 fun s R P k=>wpAny_Assign_Name (h s R _ fun a va m1 H1 h1 tk1 R1 F1 r1 q1=>q1 _ va R1 r1 _ fun _ _ m3 H3 h3 tk3 R3 F3 _ q3=>k .next _ m3 H3 h3 tk3 R3 (F1.trans R1.hasL F3) rfl q3) hs
theorem Er{ts:List Expr}{k1:Nat}{p:Pos}{e:Expr}{Q:Fl->Lo->Hp->Prop}(h:Af c e m H fun v m1 H1=>Fs c (.Tuple ts k1 p) v m1 H1 (Q .next))(hs:autoParam (WE [.Tuple ts k1 p] e pos.line c.env=pure false) AV)(hw:autoParam (WF [.Tuple ts k1 p] e c.env=pure .none) AV):DX c (.Assign [.Tuple ts k1 p] e pos) m H Q:=
 fun s R P k=>Assign_Tuple (h s R _ fun a va m1 H1 h1 tk1 R1 F1 r1 q1=>q1 _ va R1 r1 _ fun _ _ m3 H3 h3 tk3 R3 F3 _ q3=>k .next _ m3 H3 h3 tk3 R3 (F1.trans R1.hasL F3) rfl q3) hs hw
theorem EP{t:Expr}{a b:List Stmt}{Q:Fl->Lo->Hp->Prop}(h:FT c t m H fun x m1 H1=>if x then AW c a m1 H1 Q else AW c b m1 H1 Q):DX c (.If t a b pos) m H Q:=
 fun s R P k=>wpAny_If (h s R _ fun x vx m1 H1 h1 tk1 R1 F1 r1 q1=>by
  cases r1
  cases x<;>exact q1 _ R1 P fun v v' m3 H3 h3 tk3 R3 F3 r3 q3=>k v v' m3 H3 h3 tk3 R3 (F1.trans R1.hasL F3) r3 q3)
theorem BG{e:Expr}{Q:Fl->Lo->Hp->Prop}(h:Af c e m H fun v m1 H1=>Q (.ret v) m1 H1):DX c (.Return (some e) pos) m H Q:=
 fun s R P k=>wpAny_Return_some (h s R _ fun a va m1 H1 h1 tk1 R1 F1 r1 q1=>k (.ret a) _ m1 H1 h1 tk1 R1 F1 ⟨va,rfl,r1⟩ q1)
theorem Ad{e:Expr}{Q:Fl->Lo->Hp->Prop}(h:Af c e m H fun v m1 H1=>Q .next m1 H1)(hs:autoParam (WD e .none pos.line c.env=pure false) AV):DX c (.Expr e pos) m H Q:=
 fun s R P k=>wpAny_Expr_any (h s R _ fun a va m1 H1 h1 tk1 R1 F1 r1 q1=>k .next _ m1 H1 h1 tk1 R1 F1 rfl q1) c.hi hs
theorem NY{Q:Fl->Lo->Hp->Prop}(h:Q .brk m H):DX c (.Break pos) m H Q:=fun s R=>.done R (b:=.brk) (fun P p=>wpAny_Break p) rfl h
theorem JI{Q:Fl->Lo->Hp->Prop}(h:Q .cont m H):DX c (.Continue pos) m H Q:=fun s R=>.done R (b:=.cont) (fun P p=>wpAny_Continue p) rfl h
theorem RX{x:Str}{p:Pos}{op:Operator}{e:Expr}{old:V}{Q:Fl->Lo->Hp->Prop}(hl:c.env.kindOf x=some .local)(hv:m.lookup x=some old)(h:Af c e m H fun b m1 H1=>QZ c old b VR (inplaceOp op) m1 H1 fun v m2 H2=>O9 c x v m2 H2 (Q .next)):DX c (.AugAssign (.Name x p) op e pos) m H Q:=fun s R P k=>by
 obtain⟨m',hn,q⟩:=R.loc
 obtain⟨vo,ho,hr⟩:=q x old hv
 refine wpAny_AugAssign_Name (Vx c.hk hl hn ho ?_)
 exact h s R _ fun b vb m1 H1 h1 tk1 R1 F1 r1 q1=>q1 _ vo vb R1 (R.lift F1 hr) r1 _ fun v vv m2 H2 h2 tk2 R2 F2 r2 q2=>q2 _ vv R2 r2 _
  fun _ _ m3 H3 h3 tk3 R3 F3 _ q3=>k .next _ m3 H3 h3 tk3 R3 ((F1.trans R1.hasL F2).trans R2.hasL F3) rfl q3
theorem JF{t:Expr}{b:List Stmt}{Q:Fl->Lo->Hp->Prop}(I:Nat->Lo->Hp->Prop)(n:Nat)(h0:I n m H)(step:∀ n m H,I n m H->FT c t m H fun x m1 H1=>if x then AW c b m1 H1 fun f m2 H2=>match f with | .next | .cont=>∃ k,k<n/\I k m2 H2 | .brk=>Q .next m2 H2 | .ret v=>Q (.ret v) m2 H2 else Q .next m1 H1):DX c (.While t b [] pos) m H Q:=fun s R P k=>by
 refine wpAny_While (codeAny_whileLoop (fun n s'=>∃ m' H' h' tk',s'=(sw s h' tk')/\Rel c ⟨m',H'⟩ s'/\Fp c.env.locals H H' s.heap h'/\I n m' H') ?_ n ⟨m,H,s.heap,(Bq s s.toks),rfl,R,.refl ..,h0⟩)
 rintro n s' ⟨m1,H1,h1,tk1,rfl,R1,F1,hI⟩
 refine Vv (step n m1 H1 hI _ R1 _ fun x vx m2 H2 h2 tk2 R2 F2 r2 q2=>?_) (fun _ _ q=>q) fun _ _ q=>q.elim
 cases r2
 cases x
 .exact WC (k .next _ m2 H2 h2 tk2 R2 (F1.trans R1.hasL F2) rfl q2)
 .refine Vv (q2 _ R2 _ fun f vf m3 H3 h3 tk3 R3 F3 r3 q3=>?_) (fun _ _ q=>q) fun _ _ q=>q.elim
  have F:=(F1.trans R1.hasL F2).trans R2.hasL F3
  cases f with
  | next=>cases (r3:vf=.next);obtain⟨j,hj,q⟩:=q3;exact⟨j,hj,m3,H3,h3,tk3,rfl,R3,F,q⟩
  | cont=>cases (r3:vf=.cont);obtain⟨j,hj,q⟩:=q3;exact⟨j,hj,m3,H3,h3,tk3,rfl,R3,F,q⟩
  | brk=>cases (r3:vf=.brk);exact k .next _ m3 H3 h3 tk3 R3 F rfl q3
  | ret u=>obtain⟨v,rfl,hv⟩:=r3;exact k (.ret u) _ m3 H3 h3 tk3 R3 F ⟨v,rfl,hv⟩ q3
theorem Rel.off{c:Ctx}{st:St}{s:Vb}(R:Rel c st s){it:Addr}{oi:Obj}{h':Heap}(tk:Tk)(hi:s.heap.get? it=some oi)(hnt:∀ k items n,¬ (oi.cls=Ef k/\oi.data=.seq items n))(h1:it∉dom st.H)(h2:it≠c.env.locals)(h3:c.G it=.none)(hk:∀ b o,b≠it->s.heap.get? b=some o->h'.get? b=some o)(hg:autoParam (tk.gens=s.gens) AV)(ht:autoParam (s.toks<=tk.toks) K3):Rel c st (sw s h' tk):=by
 have lift:∀ u v,V.rep s.heap u v->V.rep h' u v:=fun u v r=>by
  cases u with
  | «at» x=>exact r
  | tup k xs=>
   obtain⟨a,items,rfl,⟨o,n,ho,hc,hd⟩,hr⟩:=r
   refine⟨a,items,rfl,⟨o,n,hk _ _ (fun q=>?_) ho,hc,hd⟩,hr⟩
   subst q
   rw[hi]at ho
   cases ho
   exact hnt _ _ _ ⟨hc,hd⟩
 have liftL:∀ us vs,AS s.heap us vs->AS h' us vs:=fun us=>by
  induction us with
  | nil=>intro vs r;exact r
  | cons u us ih=>rintro vs ⟨v,r,e,hv,hr⟩;exact⟨v,r,e,lift u v hv,ih r hr⟩
 refine⟨?_,?_,R.nd,R.apart,fun b o e=>hk b o (fun q=>by subst q;rw[h3]at e;cases e) (R.keep b o e),R.gl,DM hg R.bare,Vp R.tp ht⟩
 .obtain⟨m',hn,q⟩:=R.loc
  obtain⟨o,es,ep,ho,r⟩:=hn
  exact⟨m',⟨o,es,ep,hk _ _ (fun q=>h2 q.symm) ho,r⟩,fun x u e=>(q x u e).elim fun v t9=>t9.elim fun h1 h2=>⟨v,h1,lift _ _ h2⟩⟩
 .intro a o hm
  have hka:∀ ob,s.heap.get? a=some ob->h'.get? a=some ob:=fun ob e=>hk a ob (fun q=>h1 (q▸Vm.mpr ⟨_,hm,rfl⟩)) e
  have r:=R.obj a o hm
  cases o with
  | list xs=>obtain⟨items,⟨o,ho,hc,n,hd⟩,⟨o2,ho2,q⟩,hr⟩:=r;exact⟨items,⟨o,hka _ ho,hc,n,hd⟩,⟨o2,hka _ ho2,q⟩,liftL _ _ hr⟩
  | dict ep es=>obtain⟨h0,kvs,hm,q1,q2⟩:=r;exact⟨h0,kvs,hm.at' hka,q1,liftL _ _ q2⟩
  | range x y z=>obtain⟨t,u,v,ho⟩:=r;exact⟨t,u,v,hka _ ho⟩
  | view k d=>obtain⟨o,ho,q⟩:=r;exact⟨o,hka _ ho,q⟩
  | set z ks=>obtain⟨o,ho,q⟩:=r;exact⟨o,hka _ ho,q⟩
  | inst c d=>obtain⟨o,ho,q⟩:=r;exact⟨o,hka _ ho,q⟩
  | ns fs=>obtain⟨m,hm,q,hr⟩:=r;exact⟨m,hm.at hka,q,fun x u hu=>(hr x u hu).elim fun v t9=>t9.elim fun h1 h2=>⟨v,h1,lift _ _ h2⟩⟩
  | cell x=>
   obtain⟨o,ho,y,hd,q⟩:=r
   refine⟨o,hka _ ho,y,hd,?_⟩
   cases x with
   | none=>exact q
   | some u=>obtain⟨v,h1,h2⟩:=q;exact⟨v,h1,lift _ _ h2⟩
  | obj o=>exact⟨hka _ r.1,r.2⟩
noncomputable def E5(o:Obj):Prop:=∀ k items n,¬ (o.cls=Ef k/\o.data=.seq items n)
noncomputable def Aj(c:Ctx)(H:Hp)(h:Heap)(fp:List Addr):Prop:=∀ b∈fp,b∉dom H/\b≠c.env.locals/\c.G b=.none/\∃ o,h.get? b=some o/\E5 o
theorem CT{c:Ctx}{H:Hp}{h h':Heap}{fp:List Addr}(A:Aj c H h fp)(hk:∀ b o,b∉fp->h.get? b=some o->h'.get? b=some o){u:V}{v:VX}(r:u.rep h v):u.rep h' v:=by
 cases u with
 | «at» x=>exact r
 | tup k xs=>
  obtain⟨a,items,rfl,⟨o,n,ho,hc,hd⟩,hr⟩:=r
  refine⟨a,items,rfl,⟨o,n,hk _ _ (fun q=>?_) ho,hc,hd⟩,hr⟩
  obtain⟨_,_,_,o',ho',nt⟩:=A a q
  rw[ho]at ho';cases ho'
  exact nt _ _ _ ⟨hc,hd⟩
theorem Br{c:Ctx}{H:Hp}{h h':Heap}{fp:List Addr}(A:Aj c H h fp)(hk:∀ b o,b∉fp->h.get? b=some o->h'.get? b=some o):∀ {us:List V} {vs:List VX},AS h us vs->AS h' us vs
 | [],_,e=>e
 | _::_,_,⟨v,r,e,hv,hr⟩=>⟨v,r,e,CT A hk hv,Br A hk hr⟩
theorem Aj.step{c:Ctx}{H H':Hp}{h h':Heap}{fp:List Addr}(a:Aj c H h fp)(F:Fp c.env.locals H H' h h'):Aj c H' h' fp:=fun b hb=>by
 obtain⟨h1,h2,h3,o,ho,nt⟩:=a b hb
 exact⟨fun q=>(F.dom b q).elim h1 fun n=>(by rw[n]at ho;cases ho),h2,h3,o,F.keep b o h1 h2 ho,nt⟩
noncomputable def Ae(t:Expr):Bool:=Nat.beq t.ctorIdx 23 || Nat.beq t.ctorIdx 25
structure Iter(c:Ctx)(t:Expr)(it:VX)(fp:List Addr)(n:Nat)(x:Nat->V)(Ok:Hp->Prop)(J:Nat->Heap->Prop)(J':Nat->VX->Heap->Prop):Prop where
 item:∀ i m H s,i<n->Rel c ⟨m,H⟩ s->Aj c H s.heap fp->Ok H->J i s.heap->∀ P:Option VX->Vb->Prop,
  (∀ v h tk,Rel c ⟨m,H⟩ (sw s h tk)->(∀ b o,b∉fp->s.heap.get? b=some o->h.get? b=some o)->Aj c H h fp->J' i v h->(x i).rep h v->P (some v) (sw s h tk))->c.wp (pyNext it) P s
 go:∀ i v m H s,Rel c ⟨m,H⟩ s->Aj c H s.heap fp->J' i v s.heap->(x i).rep s.heap v->∀ P:Unit->Vb->Prop,
  (∀ h tk,Rel c ⟨m,H⟩ (sw s h tk)->(∀ b o,b∉fp->s.heap.get? b=some o->h.get? b=some o)->Aj c H h fp->J (i+1) h->(x i).rep h v->P () (sw s h tk))->c.wp (WG t it v) P s
 done:∀ m H s,Rel c ⟨m,H⟩ s->Aj c H s.heap fp->Ok H->J n s.heap->∀ P:Option VX->Vb->Prop,
  (∀ h tk,Rel c ⟨m,H⟩ (sw s h tk)->(∀ b o,b∉fp->s.heap.get? b=some o->h.get? b=some o)->P .none (sw s h tk))->c.wp (pyNext it) P s
 keep:∀ i h h',J i h->(∀ b∈fp,∀ o,h.get? b=some o->h'.get? b=some o)->J i h'
 self:∀ s (P:VX->Vb->Prop),J 0 s.heap->P it s->c.wp (pyIter it) P s
noncomputable def DU(c:Ctx)(t e:Expr)(m:Lo)(H:Hp)(Q:Nat->(Nat->V)->(Hp->Prop)->Lo->Hp->Prop):Prop:=
 ∀ s,Rel c ⟨m,H⟩ s->∀ P:VX->Vb->Prop,
  (∀ it fp n x Ok J J' m1 H1 h tk,Iter c t it fp n x Ok J J'->Rel c ⟨m1,H1⟩ (sw s h tk)->Fp c.env.locals H H1 s.heap h->Aj c H1 h fp->(∀ b∈fp,s.heap.get? b=.none)->J 0 h->Q n x Ok m1 H1->P it (sw s h tk)) ->
  Vc (model c.prog c.w) c.A (eval e c.env) (fun xv s₁=>c.wp (pyIter xv) P s₁) (fun _ _=>False) s
theorem Fp.off{L:Addr}{H H':Hp}{h h₁ h₂:Heap}{fp:List Addr}(F:Fp L H H' h h₁)(hfp:∀ b∈fp,h.get? b=.none)(hk:∀ b o,b∉fp->h₁.get? b=some o->h₂.get? b=some o):Fp L H H' h h₂:=
 ⟨fun b o hb hL e=>hk b o (fun q=>by rw[hfp b q]at e;cases e) (F.keep b o hb hL e),F.dom,fun b o e=>(F.alive b o e).elim fun o' e'=>⟨o',hk b o' (fun q=>by rw[hfp b q]at e;cases e) e'⟩⟩
noncomputable def Ek(c:Ctx)(s:Vb)(H:Hp)(base:Heap)(fp:List Addr)(J:Nat->Heap->Prop)(I:Nat->Lo->Hp->Prop)(n k:Nat)(s':Vb):Prop:=∀ G:Vb->Prop,
 (∀ i m' H' h' tk',Rel c ⟨m',H'⟩ (sw s h' tk')->Fp c.env.locals H H' base h'->Aj c H' h' fp->J i h'->I i m' H'->i<=n->k=n+1-i->G (sw s h' tk'))->G s'
theorem Ek.use{s:Vb}{base:Heap}{fp:List Addr}{J:Nat->Heap->Prop}{I:Nat->Lo->Hp->Prop}{n k:Nat}{s':Vb}{G:Vb->Prop}(h:Ek c s H base fp J I n k s')(f:∀ i m' H' h' tk',Rel c ⟨m',H'⟩ (sw s h' tk')->Fp c.env.locals H H' base h'->Aj c H' h' fp->J i h'->I i m' H'->i<=n->k=n+1-i->G (sw s h' tk')):G s':=h G f
theorem Ek.mk{s:Vb}{base:Heap}{fp:List Addr}{J:Nat->Heap->Prop}{I:Nat->Lo->Hp->Prop}{n k i:Nat}{m':Lo}{H':Hp}{h':Heap}{tk':Tk}(a1:Rel c ⟨m',H'⟩ (sw s h' tk'))(a2:Fp c.env.locals H H' base h')(a3:Aj c H' h' fp)(a4:J i h')(a5:I i m' H')(a6:i<=n)(a7:k=n+1-i):Ek c s H base fp J I n k (sw s h' tk'):=
 fun _ f=>f i m' H' h' tk' a1 a2 a3 a4 a5 a6 a7
theorem GE{t iter:Expr}{b:List Stmt}{Q:Fl->Lo->Hp->Prop}(h:DU c t iter m H fun n x Ok m1 H1=>∃ I:Nat->Lo->Hp->Prop,I 0 m1 H1/\(∀ i m2 H2,i<n->I i m2 H2->Ok H2/\Fs c t (x i) m2 H2 fun m3 H3=>AW c b m3 H3 fun f m4 H4=>
   match f with | .next | .cont=>I (i+1) m4 H4 | .brk=>Q .next m4 H4 | .ret v=>Q (.ret v) m4 H4)/\∀ m2 H2,I n m2 H2->Ok H2/\Q .next m2 H2)(hs:autoParam (∀ x,WH iter c.env x=pure x) C4):DX c (.For t iter b [] pos) m H Q:=fun s R P k=>by
 refine wpAny_For (h s R _ fun it fp n x Ok J J' m1 H1 h1 tk1 W R1 F1 A1 fr1 j1 hI=>?_) hs
 obtain⟨I,i0,step,fin⟩:=hI
 refine codeAny_forLoop_any (Ek c s H s.heap fp J I n) ?_ (n+1)
  (Ek.mk (i:=0) (h':=h1) (tk':=tk1) R1 F1 A1 j1 i0 (WJ _) rfl)
 intro k' s' hJ
 refine Ek.use (G:=fun s'=>Vc _ _ (pyNext it) _ _ s') hJ fun i m2 H2 h2 tk2 R2 F2 A2 j2 hI hle hkk=>?_
 by_cases hlt:i<n
 .obtain⟨ok,body⟩:=step i m2 H2 hlt hI
  refine(Vv (W.item i m2 H2 _ hlt R2 A2 ok j2 _ fun v h3 tk3 R3 k3 A3 j3 r3=>?_) (fun _ _ q=>q) fun _ _ q=>q.elim)
  have F3:=F2.off fr1 k3
  refine Vv (W.go i v m2 H2 _ R3 A3 j3 r3 _ fun h4 tk4 R4 k4 A4 j4 r4=>?_) (fun _ _ q=>q) fun _ _ q=>q.elim
  have F4:=F3.off fr1 k4
  refine Vv (body _ v R4 r4 _ fun _ _ m5 H5 h5 tk5 R5 F5 _ q5=>?_) (fun _ _ q=>q) fun _ _ q=>q.elim
  refine Vv (q5 _ R5 _ fun f vf m6 H6 h6 tk6 R6 F6 r6 q6=>?_) (fun _ _ q=>q) fun _ _ q=>q.elim
  refine Jx fun G hG=>?_
  have F:=(F4.trans R4.hasL F5).trans R5.hasL F6
  have A5:=A4.step F5
  have A6:=A5.step F6
  have kp:∀ b∈fp,∀ o,h4.get? b=some o->h6.get? b=some o:=fun b hb o e=>by
   have e5:=F5.keep b o (A4 b hb).1 (A4 b hb).2.1 e
   exact F6.keep b o (A5 b hb).1 (A5 b hb).2.1 e5
  have j6:=W.keep _ _ _ j4 kp
  cases f with
  | next=>cases (r6:vf=.next);exact hG ⟨n+1-(i+1),by rw[hkk];exact AJ 2 (.t Y0 Y1) (.t (.s (.a Y1 N1) (.a Y0 N1)) (.s (.a Y1 N1) Y0)) [_,_] hlt,Ek.mk (i:=i+1) (h':=h6) (tk':=tk6) R6 F A6 j6 q6 hlt rfl⟩
  | cont=>cases (r6:vf=.cont);exact hG ⟨n+1-(i+1),by rw[hkk];exact AJ 2 (.t Y0 Y1) (.t (.s (.a Y1 N1) (.a Y0 N1)) (.s (.a Y1 N1) Y0)) [_,_] hlt,Ek.mk (i:=i+1) (h':=h6) (tk':=tk6) R6 F A6 j6 q6 hlt rfl⟩
  | brk=>cases (r6:vf=.brk);exact hG (k .next _ m6 H6 h6 tk6 R6 F rfl q6)
  | ret u=>obtain⟨v,rfl,hv⟩:=r6;exact hG (k (.ret u) _ m6 H6 h6 tk6 R6 F ⟨v,rfl,hv⟩ q6)
 .have hin:i=n:=by exact AL 2 (.l Y0 Y1) (.no (.t Y0 Y1)) (.e Y0 Y1) [_,_] hle hlt
  rw[hin]at hI j2
  obtain⟨ok,q⟩:=fin m2 H2 hI
  refine(Vv (W.done m2 H2 _ R2 A2 ok j2 _ fun h3 tk3 R3 k3=>?_) (fun _ _ q=>q) fun _ _ q=>q.elim)
  exact WC (k .next _ m2 H2 h3 tk3 R3 (F2.off fr1 k3) rfl q)
end
theorem AR(h:Heap):h.get? h.objs.size=.none:=by
 cases q:h.get? h.objs.size with
 | none=>rfl
 | some o=>exact absurd (WB q) (WK _)
theorem Bk{h:Heap}{a:Addr}(ha:h.objs.size<=a):h.get? a=.none:=by
 cases q:h.get? a with
 | none=>rfl
 | some o=>exact absurd (WB q) (WL.mpr ha)
theorem Rel.fresh{c:Ctx}{st:St}{s:Vb}(R:Rel c st s){a:Addr}(ha:s.heap.get? a=.none):a∉dom st.H/\a≠c.env.locals/\c.G a=.none:=by
 refine⟨fun q=>?_,fun q=>?_,?_⟩
 .obtain⟨o,ho⟩:=R.lt q;rw[ha]at ho;cases ho
 .subst q;obtain⟨o,ho⟩:=R.hasL;rw[ha]at ho;cases ho
 .cases q:c.G a with
  | none=>rfl
  | some o=>have:=R.keep a o q;rw[ha]at this;cases this
theorem Heap.SameBut.kp{a:Addr}{h h':Heap}(x:Vs a h h'):∀ b o,b≠a->h.get? b=some o->h'.get? b=some o:=fun b o hb e=>(x.2 b hb).trans e
section
variable{c:Ctx}{m:Lo}{H:Hp}{pos:Pos}
theorem BH{it:Addr}{h h':Heap}(hk:∀ b o,b≠it->h.get? b=some o->h'.get? b=some o):∀ b o,b∉[it]->h.get? b=some o->h'.get? b=some o:=
 fun b o hb e=>hk b o (fun q=>hb (by simp[q])) e
theorem Aj.one{H:Hp}{h h':Heap}{it:Addr}(a:Aj c H h [it])(hi:∃ o,h'.get? it=some o/\E5 o):Aj c H h' [it]:=fun b hb=>by
 simp at hb;subst hb
 obtain⟨h1,h2,h3,_⟩:=a b (by simp)
 exact⟨h1,h2,h3,hi⟩
theorem Rel.off2{st:St}{s:Vb}{fp:List Addr}{h':Heap}(R:Rel c st s)(tk:Tk)(A:Aj c st.H s.heap fp)(hk:∀ b o,b∉fp->s.heap.get? b=some o->h'.get? b=some o)(hg:autoParam (tk.gens=s.gens) AV)(ht:autoParam (s.toks<=tk.toks) K3):Rel c st (sw s h' tk):=by
 have lift:∀ u v,V.rep s.heap u v->V.rep h' u v:=fun u v r=>CT A hk r
 have liftL:∀ us vs,AS s.heap us vs->AS h' us vs:=fun us vs r=>Br A hk r
 refine⟨?_,?_,R.nd,R.apart,fun b o e=>hk b o (fun q=>by rw[(A b q).2.2.1]at e;cases e) (R.keep b o e),R.gl,DM hg R.bare,Vp R.tp ht⟩
 .obtain⟨m',hn,q⟩:=R.loc
  obtain⟨o,es,ep,ho,r⟩:=hn
  exact⟨m',⟨o,es,ep,hk _ _ (fun q=>(A _ q).2.1 rfl) ho,r⟩,fun x u e=>(q x u e).elim fun v t9=>t9.elim fun h1 h2=>⟨v,h1,lift _ _ h2⟩⟩
 .intro a o hm
  have hka:∀ ob,s.heap.get? a=some ob->h'.get? a=some ob:=fun ob e=>hk a ob (fun q=>(A a q).1 (Vm.mpr ⟨_,hm,rfl⟩)) e
  have r:=R.obj a o hm
  cases o with
  | list xs=>obtain⟨items,⟨o,ho,hc,n,hd⟩,⟨o2,ho2,q⟩,hr⟩:=r;exact⟨items,⟨o,hka _ ho,hc,n,hd⟩,⟨o2,hka _ ho2,q⟩,liftL _ _ hr⟩
  | dict ep es=>obtain⟨h0,kvs,hm,q1,q2⟩:=r;exact⟨h0,kvs,hm.at' hka,q1,liftL _ _ q2⟩
  | range x y z=>obtain⟨t,u,v,ho⟩:=r;exact⟨t,u,v,hka _ ho⟩
  | view k d=>obtain⟨o,ho,q⟩:=r;exact⟨o,hka _ ho,q⟩
  | set z ks=>obtain⟨o,ho,q⟩:=r;exact⟨o,hka _ ho,q⟩
  | inst c d=>obtain⟨o,ho,q⟩:=r;exact⟨o,hka _ ho,q⟩
  | ns fs=>obtain⟨m,hm,q,hr⟩:=r;exact⟨m,hm.at hka,q,fun x u hu=>(hr x u hu).elim fun v t9=>t9.elim fun h1 h2=>⟨v,h1,lift _ _ h2⟩⟩
  | cell x=>
   obtain⟨o,ho,y,hd,q⟩:=r
   refine⟨o,hka _ ho,y,hd,?_⟩
   cases x with
   | none=>exact q
   | some u=>obtain⟨v,h1,h2⟩:=q;exact⟨v,h1,lift _ _ h2⟩
  | obj o=>exact⟨hka _ r.1,r.2⟩
theorem Dd{t:Expr}{it:Addr}{v:VX}{o:Obj}{T:String}{vs:Array VX}{s:Vb}{P:Unit->Vb->Prop}(ht:Ae t=true)(ho:s.heap.get? it=some o)(hc:o.cls=.type T)(hd:o.data=.fields vs)(hT:(["enumerate","zip","dict_itemiterator","dict_reverseitemiterator","odict_iterator","itertools.zip_longest","itertools.pairwise"]:List String).contains T=false)(k:P () s):c.wp (WG t (.ref it) v) P s:=by
 cases t<;>try (exact Bool.noConfusion (show false=true from ht))
 .exact WM k
 .unfold WG
  cases v with
  | ref T'=>
   refine Ve (wpAny_load ho ?_)
   rw[hc,hd]
   show Vc _ _ (if (_&&_)=true then _ else _) _ _ _
   rw[if_neg (by intro h;rw[hT,Bool.false_and]at h;cases h)]
   exact WM k
  | _=>exact WM k
theorem MW{t:Expr}{a it:Addr}{xs:List V}(ht:Ae t=true)(hne:a≠it):Iter c t (.ref it) [it] xs.length (fun i=>xs.getD i .none) (fun H=>AK c H a (.list xs)) (fun i h=>h.IsListIter it a i) (fun i _ h=>h.IsListIter it a (i+1)) where
 item:=fun i m H s hi R A ok j P k=>by
  obtain⟨items,hl,_,hr⟩:=ok m s R
  obtain⟨h1,h2,h3,_⟩:=A it (by simp)
  have hx:xs[i]?=some (xs.getD i .none):=by simp[WN,hi]
  obtain⟨v,hv,hrv⟩:=hr.get hx
  obtain⟨oi,ho,_,hd⟩:=id j
  refine wpAny_pyNext_list_item j hl (by rw[<- WO];exact hv) fun h' hit' hs'=>?_
  have R':=R.off (h':=h') (Bq s s.toks) ho (fun _ _ _ q=>by rw[hd]at q;cases q.2) h1 h2 h3 (Heap.SameBut.kp hs')
  refine k v h' (Bq s s.toks) R' (BH (Heap.SameBut.kp hs')) (A.one (hit'.elim fun o t9=>t9.elim fun ho t9=>t9.elim fun _ hd=>⟨o,ho,fun _ _ _ q=>by rw[hd]at q;cases q.2⟩)) hit' ?_
  obtain⟨items',hl',_,hr'⟩:=ok m _ R'
  have:items'=items:=by
   obtain⟨o1,e1,_,n1,d1⟩:=hl
   obtain⟨o2,e2,_,n2,d2⟩:=hl'
   have e2':h'.get? a=some o2:=e2
   rw[Heap.SameBut.kp hs' a o1 hne e1]at e2'
   cases e2';rw[d1]at d2;cases d2;rfl
  subst this
  obtain⟨v',hv',hrv'⟩:=hr'.get hx
  rw[hv]at hv';cases hv';exact hrv'
 go:=fun i v m H s R A j r P k=>by
  obtain⟨oi,ho,hc,hd⟩:=id j
  exact Dd ht ho hc hd (by decide) (k s.heap (Bq s s.toks) R (fun _ _ _ e=>e) A j r)
 done:=fun m H s R A ok j P k=>by
  obtain⟨items,hl,_,hr⟩:=ok m s R
  obtain⟨h1,h2,h3,_⟩:=A it (by simp)
  obtain⟨oi,ho,_,hd⟩:=id j
  refine wpAny_pyNext_list_end c.hh j hl (by rw[<- WO];simp[hr.length]) fun h' hs'=>?_
  exact k h' (Bq s s.toks) (R.off (Bq s s.toks) ho (fun _ _ _ q=>by rw[hd]at q;cases q.2) h1 h2 h3 hs') (BH hs')
 keep:=fun i h h' j hk=>j.at fun o e=>hk it (by simp) o e
 self:=fun s P j p=>wpAny_pyIter_listiter j p
theorem Ff{t e:Expr}(ht:Ae t=true){Q:Nat->(Nat->V)->(Hp->Prop)->Lo->Hp->Prop}(h:Af c e m H fun u m1 H1=>∃ a xs,u=.ref a/\AK c H1 a (.list xs)/\Q xs.length (fun i=>xs.getD i .none) (fun H=>AK c H a (.list xs)) m1 H1):DU c t e m H Q:=fun s R P k=>by
 refine h s R _ fun u va m1 H1 h1 tk1 R1 F1 r1 q1=>?_
 obtain⟨a,xs,rfl,hs,q⟩:=q1
 cases (r1:va=_)
 obtain⟨items,hl,_,hr⟩:=hs m1 _ R1
 refine WP hl ?_
 have hg:∀ b o,h1.get? b=some o->(h1.push { cls:=.type "list_iterator",data:=.fields #[.ref a,.int 0 0] }).get? b=some o:=fun b o e=>WQ _ e
 have hf:=R1.fresh (AR h1)
 refine k (.ref h1.objs.size) [h1.objs.size] _ _ _ _ _ m1 H1 _ tk1 (MW (a:=a) (xs:=xs) ht (by obtain⟨o,ho,_⟩:=hl;exact WA (WB ho))) (R1.grow tk1 hg) (F1.trans R1.hasL (.grow hg))
  (fun b hb=>by simp at hb;subst hb;exact⟨hf.1,hf.2.1,hf.2.2,_,WR _ rfl,fun _ _ _ q=>by cases q.2⟩) (fun b hb=>by
   simp at hb;subst hb
   cases q:s.heap.get? h1.objs.size with
   | none=>rfl
   | some o=>obtain⟨o',e⟩:=F1.alive _ _ q;rw[AR]at e;cases e) ⟨_,WR _ rfl,rfl,rfl⟩ q
end
section
variable{c:Ctx}{m:Lo}{H:Hp}{pos:Pos}{Q:V->Lo->Hp->Prop}{a b:Int}
theorem TL(h:Q (.int (a+b)) m H):PO c .Add (.int a) (.int b) m H Q:=fun s va vb R ra rb=>by
 obtain⟨t,rfl⟩:=ra;obtain⟨u,rfl⟩:=rb
 exact .val R h fun P k=>wpAny_add_int (k _ _ ⟨_,rfl⟩)
theorem TJ(h:Q (.int (a-b)) m H):PO c .Sub (.int a) (.int b) m H Q:=fun s va vb R ra rb=>by
 obtain⟨t,rfl⟩:=ra;obtain⟨u,rfl⟩:=rb
 exact .val R h fun P k=>sub_int (k _ _ ⟨_,rfl⟩)
theorem TK(h:Q (.int (a * b)) m H)(hm:IntMulOk a b):PO c .Mult (.int a) (.int b) m H Q:=fun s va vb R ra rb=>by
 obtain⟨t,rfl⟩:=ra;obtain⟨u,rfl⟩:=rb
 exact .val R h fun P k=>mul_int (k _ _ ⟨_,rfl⟩) hm
theorem Qj(h:Q (.int (a.fdiv b)) m H)(h0:autoParam (b≠0) BX)(hb:autoParam (b.natAbs<1073741824) BX):PO c .FloorDiv (.int a) (.int b) m H Q:=fun s va vb R ra rb=>by
 obtain⟨t,rfl⟩:=ra;obtain⟨u,rfl⟩:=rb
 exact .val R h fun P k=>floordiv_int h0 (k _ _ ⟨_,rfl⟩) (.inl (PyProof.noPylong_small hb))
theorem Qi(h:Q (.int (a.fmod b)) m H)(h0:autoParam (b≠0) BX):PO c .Mod (.int a) (.int b) m H Q:=fun s va vb R ra rb=>by
 obtain⟨t,rfl⟩:=ra;obtain⟨u,rfl⟩:=rb
 exact .val R h fun P k=>PyProof.Rows.mod_int h0 (k _ _ ⟨_,rfl⟩)
theorem Rg(h:Q (.int (a+b)) m H):QZ c (.int a) (.int b) VR (inplaceOp .Add) m H Q:=fun s va vb R ra rb=>by
 obtain⟨t,rfl⟩:=ra;obtain⟨u,rfl⟩:=rb
 exact .val R h fun P k=>wpAny_iadd_int (k _ _ ⟨_,rfl⟩)
theorem T7(h:Q (.bool (decide (a<b))) m H):KG c .Lt (.int a) (.int b) m H Q:=fun s va vb R ra rb=>by
 obtain⟨t,rfl⟩:=ra;obtain⟨u,rfl⟩:=rb
 exact .val R h fun P k=>PyProof.Rows.lt_int (k _ _ rfl)
theorem T9(h:Q (.bool (decide (b<a))) m H):KG c .Gt (.int a) (.int b) m H Q:=fun s va vb R ra rb=>by
 obtain⟨t,rfl⟩:=ra;obtain⟨u,rfl⟩:=rb
 exact .val R h fun P k=>PyProof.Rows.gt_int (k _ _ rfl)
theorem Ue(h:Q (.bool (decide (b<=a))) m H):KG c .GtE (.int a) (.int b) m H Q:=fun s va vb R ra rb=>by
 obtain⟨t,rfl⟩:=ra;obtain⟨u,rfl⟩:=rb
 exact .val R h fun P k=>PyProof.Rows.ge_int (k _ _ rfl)
theorem QV(h:Q (.bool (a==b)) m H):KG c .Eq (.int a) (.int b) m H Q:=fun s va vb R ra rb=>by
 obtain⟨t,rfl⟩:=ra;obtain⟨u,rfl⟩:=rb
 exact .val R h fun P k=>PyProof.Rows.eq_int (k _ _ rfl)
theorem T6(h:Q (.bool (a != b)) m H):KG c .NotEq (.int a) (.int b) m H Q:=fun s va vb R ra rb=>by
 obtain⟨t,rfl⟩:=ra;obtain⟨u,rfl⟩:=rb
 exact .val R h fun P k=>PyProof.Rows.ne_int (k _ _ rfl)
theorem H9{Q:Bool->Lo->Hp->Prop}(h:Q (a != 0) m H):RL c (.int a) m H Q:=fun s va R ra=>by
 obtain⟨t,rfl⟩:=ra
 exact .val R h fun P k=>PyProof.Rows.truthy_int (k _ _ rfl)
theorem NC{Q:Bool->Lo->Hp->Prop}(h:Q false m H):RL c .none m H Q:=fun s va R ra=>by
 cases (ra:va=_)
 exact .val R h fun P k=>truthy_none (k _ _ rfl)
theorem O.list_get{prog:VY}{w:VZ}{h:Heap}{a:Addr}{xs:List V}(r:(O.list xs).rep prog w h a):∃ items n,IsL h a items n/\AS h xs items.toList:=by
 obtain⟨items,⟨o,ho,hc,n,hd⟩,⟨o2,ho2,q1,q2⟩,hr⟩:=r
 rw[ho]at ho2;cases ho2
 refine⟨items,n,?_,hr⟩
 obtain⟨cl,d,dt,sl⟩:=o
 subst hc hd q1 q2
 exact ho
theorem IsL.isList{h:Heap}{a:Addr}{items:Array VX}{n:Nat}(x:IsL h a items n):h.IsList a items:=⟨_,x,rfl,n,rfl⟩
theorem O.list_mk{prog:VY}{w:VZ}{h:Heap}{a:Addr}{xs:List V}{items:Array VX}{n:Nat}(x:IsL h a items n)(r:AS h xs items.toList):(O.list xs).rep prog w h a:=⟨items,⟨_,x,rfl,n,rfl⟩,⟨_,x,rfl,rfl⟩,r⟩
theorem AH{h:Heap}{o:Obj}:∀ b ob,h.get? b=some ob->(h.push o).get? b=some ob:=fun b ob e=>WQ _ e
theorem Bn{es:List Expr}(h:BJ c pos es m H fun vs m1 H1=>vs.length<=WS/\∀ a,Q (.ref a) m1 ((a,.list vs)::H1)):Af c (.List es pos) m H Q:=
 fun s R P k=>wpAny_List (h s R _ fun vs vv m1 H1 h1 tk1 R1 F1 r1 q1=>⟨by rw[r1.length];exact q1.1,by
  have hr:=R1.new (h':=h1.push { cls:=.type "list",data:=.seq vv.toArray }) (o:=.list vs) tk1 AH (AR h1) (O.list_mk (n:=0) (WR _ rfl) (by simpa using R1.liftL (.grow (H:=H1) AH) r1))
  exact k (.ref _) _ m1 _ _ tk1 hr (F1.trans R1.hasL (.new AH (AR h1))) rfl (q1.2 _)⟩)
theorem Du{es:List Expr}{k0:Nat}(h:BJ c pos es m H fun vs m1 H1=>∃ xs:List At,vs=xs.map .at/\vs.length<=WS/\Q (.tup .none xs) m1 H1):Af c (.Tuple es k0 pos) m H Q:=
 fun s R P k=>wpAny_Tuple (h s R _ fun vs vv m1 H1 h1 tk1 R1 F1 r1 q1=>by
  obtain⟨xs,rfl,hl,q⟩:=q1
  refine⟨by rw[r1.length];exact hl,?_⟩
  exact k (.tup .none xs) _ m1 H1 _ tk1 (R1.grow tk1 AH) (F1.trans R1.hasL (.grow AH)) ⟨_,_,rfl,⟨_,0,WR _ rfl,rfl,rfl⟩,by simpa using B1.of_reps r1⟩ q)
theorem Qk{x y:Addr}{xs ys:List V}(hx:AK c H x (.list xs))(hy:AK c H y (.list ys))(h:∀ a,Q (.ref a) m ((a,.list (xs++ys))::H))(hsz:xs.length+ys.length<=WS):PO c .Add (.ref x) (.ref y) m H Q:=fun s va vb R ra rb=>by
 cases (ra:va=_);cases (rb:vb=_)
 obtain⟨ix,nx,lx,rx⟩:=O.list_get (hx m s R)
 obtain⟨iy,ny,ly,ry⟩:=O.list_get (hy m s R)
 refine .new R (o:=.list (xs++ys)) (b:=fun a=>.ref a) h fun P k=>PySem.P.add_list lx ly (k _ _ _ s.toks AH (AR _) (O.list_mk (n:=0) (WR _ rfl) ?_) rfl) (by rw[<- V9,<- V9,rx.length,ry.length];exact hsz)
 rw[WT]
 exact(R.liftL (.grow (H:=H) AH) rx).append (R.liftL (.grow (H:=H) AH) ry)
noncomputable abbrev Sub(c:Ctx)(value slice:Expr)(a i:V)(m:Lo)(H:Hp)(Q:V->Lo->Hp->Prop):Prop:=QZ c a i VR (WU value slice) m H Q
theorem RF{v i:Expr}(h:Af c v m H fun a m1 H1=>Af c i m1 H1 fun b m2 H2=>Sub c v i a b m2 H2 Q):Af c (.Subscript v i pos) m H Q:=
 fun s R P k=>Subscript_ (h s R _ fun a va m1 H1 h1 tk1 R1 F1 r1 q1=>q1 _ R1 _ fun b vb m2 H2 h2 tk2 R2 F2 r2 q2=>q2 _ va vb R2 (R1.lift F2 r1) r2 P
  fun v v' m3 H3 h3 tk3 R3 F3 r3 q3=>k v v' m3 H3 h3 tk3 R3 ((F1.trans R1.hasL F2).trans R2.hasL F3) r3 q3)
theorem NN{v i:Expr}{x:Addr}{xs:List V}{k:Int}{u:V}(hx:AK c H x (.list xs))(h0:0<=k)(h1:xs[k.toNat]?=some u)(h:Q u m H)(hs:autoParam (∀ o t,WV i false (.ref o) (.int k t)=operate [.ref o,.int k t] (WW (.ref o) (.int k t))) Ik)(hl:autoParam (xs.length<=WS) RK):Sub c v i (.ref x) (.int k) m H Q:=fun s va vb R ra rb=>by
 cases (ra:va=_);obtain⟨t,rfl⟩:=rb
 obtain⟨ix,nx,lx,rx⟩:=O.list_get (hx m s R)
 obtain⟨w,hw,hr⟩:=rx.get h1
 have hk:k.toNat<xs.length:=(WX.mp h1).1
 have hz:k<2 ^ 63:=SY hk hl
 exact .done R (b:=u) (fun P p=>tail_any (IsL.isList lx).typeIs slot_list_getitem.lookup (wpAny_getItem_list (IsL.isList lx) h0 hz (by rw[<- WO];exact hw) p) (hs _ _)) hr h
end
section
variable{c:Ctx}{m:Lo}{H:Hp}{pos:Pos}{Q:V->Lo->Hp->Prop}
noncomputable def Ck(c:Ctx)(f:V)(vs:List V)(m:Lo)(H:Hp)(Q:V->Lo->Hp->Prop):Prop:=∀ s vf vvs,Rel c ⟨m,H⟩ s->f.rep s.heap vf->AS s.heap vs vvs->FJ c H s VR (call vf vvs) Q
noncomputable def Ba(c:Ctx)(f:V)(H:Hp):Prop:=∀ m s vf,Rel c ⟨m,H⟩ s->f.rep s.heap vf->∃ k,(k=WZ∨k=Wa∨k=Wb)/\Wc (model c.prog c.w) s.heap (keeperOf vf) k
theorem Av{id:String}:Ba c (.bi id) H:=fun m s vf R r=>by cases (r:vf=_);exact⟨.machine,.inr (.inl rfl),.now⟩
theorem Fe{id:String}:Ba c (.ty id) H:=fun m s vf R r=>by cases (r:vf=_);exact⟨.machine,.inr (.inl rfl),.now⟩
theorem IU{M:Wd}{A:Va}{E:VX->Vb->Prop}{s:Vb}{f:VX}{Q:Args->Vb->Prop}(h:Vc M A (spliced []) (fun vs s'=>Q ⟨vs,[]⟩ s') E s):Vc M A (evalArgs f true [] []) Q E s:=by
 unfold evalArgs
 show Vc M A (spliced [] >>= _) Q E s
 refine Ve (Vv h (fun vs s' h'=>?_) fun _ _ x=>x)
 refine Vd ?_
 exact Ve (WM (Ve (WM (WM h'))))
theorem EQ{f:V}{first:List V}{args:List Expr}{vf:VX}{vfirst:List VX}{s:Vb}(R:Rel c ⟨m,H⟩ s)(rf:f.rep s.heap vf)(rfirst:AS s.heap first vfirst)(h:BJ c pos args m H fun vs m1 H1=>Ba c f H1/\Ck c f (first++vs) m1 H1 Q)(hplain:((backTo pos (V3 args c.env)).any (·.1) || ([]:List (Option Str×Sem VX)).any (·.1.isNone))=false)(hne:∀ x r,backTo pos (V3 args c.env)≠(true,x)::r) :
  FJ c H s VR (callWith pos vf vfirst (backTo pos (V3 args c.env)) []) Q:=fun P k=>by
 refine callWith_of (P:=fun h=>∃ k,(k=WZ∨k=Wa∨k=Wb)/\Wc (model c.prog c.w) h (keeperOf vf) k) hplain (fun h q=>q) ?_
 have main:Vc (model c.prog c.w) c.A (spliced (backTo pos (V3 args c.env))) (fun vs s₁=>(∃ k,(k=WZ∨k=Wa∨k=Wb)/\Wc (model c.prog c.w) s₁.heap (keeperOf vf) k)/\Vc (model c.prog c.w) c.A (call vf (vfirst++vs) []) P (fun _ _=>False) s₁) (fun _ _=>False) s:=by
  refine h s R _ fun vs vv m1 H1 h1 tk1 R1 F1 r1 q1=>⟨q1.1 m1 _ vf R1 (R.lift F1 rf),?_⟩
  exact q1.2 _ vf _ R1 (R.lift F1 rf) ((R.liftL F1 rfirst).append r1) P fun v v' m3 H3 h3 tk3 R3 F3 r3 q3=>k v v' m3 H3 h3 tk3 R3 (F1.trans R1.hasL F3) r3 q3
 cases q:backTo pos (V3 args c.env) with
 | nil=>rw[q]at main;exact IU main
 | cons x r=>
  obtain⟨b,x⟩:=x
  cases b with
  | true=>exact absurd q (hne x r)
  | false=>rw[q]at main;exact evalArgs_plain main
theorem AZ{fn:Expr}{args:List Expr}(h:Af c fn m H fun f m0 H0=>BJ c pos args m0 H0 fun vs m1 H1=>Ba c f H1/\Ck c f vs m1 H1 Q)(he:autoParam (eval (.Call fn args [] pos) c.env=(do callWith pos (<- eval fn c.env) [] (backTo pos (V3 args c.env)) (backToKw pos (keywordEach [] c.env)))) AV)(hplain:autoParam (((backTo pos (V3 args c.env)).any (·.1) || ([]:List (Option Str×Sem VX)).any (·.1.isNone))=false) AV)(hne:autoParam (∀ x r,backTo pos (V3 args c.env)≠(true,x)::r) UC):Af c (.Call fn args [] pos) m H Q:=
 fun s R P k=>Call_ (h s R _ fun f vf m1 H1 h1 tk1 R1 F1 r1 q1=>EQ (first:=[]) R1 r1 rfl q1 hplain hne P fun v v' m3 H3 h3 tk3 R3 F3 r3 q3=>k v v' m3 H3 h3 tk3 R3 (F1.trans R1.hasL F3) r3 q3) he
noncomputable def GM(c:Ctx)(u:V)(name:Str)(f:V)(first:List V)(H:Hp):Prop:=∀ m s vu pl (P:VX×List VX->Vb->Prop),Rel c ⟨m,H⟩ s->u.rep s.heap vu->(∀ vf vfirst tk,f.rep s.heap vf->AS s.heap first vfirst->P (vf,vfirst) { s with toks:=tk })->c.wp (getMethod vu name pl) P s
theorem AO{o:Expr}{name:Str}{apos:Pos}{args:List Expr}{pl:Sem Bool}(h:Af c o m H fun u m0 H0=>∃ f first,GM c u name f first H0/\BJ c pos args m0 H0 fun vs m1 H1=>Ba c f H1/\Ck c f (first++vs) m1 H1 Q)(he:autoParam (eval (.Call (.Attribute o name apos) args [] pos) c.env=(do let ov <- eval o c.env;V1 apos.atName;let(f,first) <- V2 [ov] (getMethod ov name pl);callWith pos f first (backTo pos (V3 args c.env)) [])) AV)(hplain:autoParam (((backTo pos (V3 args c.env)).any (·.1) || ([]:List (Option Str×Sem VX)).any (·.1.isNone))=false) AV)(hne:autoParam (∀ x r,backTo pos (V3 args c.env)≠(true,x)::r) UC):Af c (.Call (.Attribute o name apos) args [] pos) m H Q:=
 fun s R P k=>MethodCall_ (h s R _ fun u vu m1 H1 h1 tk1 R1 F1 r1 q1=>by
  obtain⟨f,first,hg,q⟩:=q1
  exact Ctx.wpT (hg m1 _ vu pl _ R1 r1 fun vf vfirst tk rf rfirst (ht:(sw s h1 tk1).toks<=tk)=>EQ (R1.toks (Bq (sw s h1 tk1) tk)) rf rfirst q hplain hne P fun v v' m3 H3 h3 tk3 R3 F3 r3 q3=>k v v' m3 H3 h3 tk3 R3 (F1.trans R1.hasL F3) r3 q3)) he
theorem EZ{a:Addr}{xs:List V}{name:Str}{id:String}(hx:AK c H a (.list xs))(slot:Slot "list" name id)(hty:typeOf (.builtin id)=pure (.type "method_descriptor")):GM c (.ref a) name (.bi id) [.ref a] H:=fun m s vu pl P R r k=>by
 cases (r:vu=_)
 obtain⟨items,n,hl,_⟩:=O.list_get (hx m s R)
 exact We (IsL.isList hl).typeIs F.plainAttrs_list slot hty (fun b e=>by cases e;exact⟨_,hl,rfl⟩) (k _ _ s.toks rfl (.one rfl))
end
section
variable{c:Ctx}{m:Lo}{H:Hp}{pos:Pos}{Q:V->Lo->Hp->Prop}
theorem AS.two{h:Heap}{x y:V}{vs:List VX}(r:AS h [x,y] vs):∃ a b,vs=[a,b]/\x.rep h a/\y.rep h b:=by
 obtain⟨a,r,rfl,ha,b,r2,rfl,hb,e⟩:=r
 cases e;exact⟨a,b,rfl,ha,hb⟩
theorem AS.sole{h:Heap}{x:V}{vs:List VX}(r:AS h [x] vs):∃ a,vs=[a]/\x.rep h a:=by
 obtain⟨a,r,rfl,ha,e⟩:=r
 cases e;exact⟨a,rfl,ha⟩
theorem DY{h:Heap}{a:Addr}{f:Obj->Obj}:∀ b ob,b≠a->h.get? b=some ob->(h.update a f).get? b=some ob:=fun b ob hb e=>(Heap.get?_update_other h f (Wf hb)).trans e
theorem FE{a:Addr}{xs ys:List V}{H':Hp}{t:Sem VX}{s:Vb}{f:Array VX->Array VX}{u:V}(R:Rel c ⟨m,H⟩ s)(up:Cd a (.list xs) (.list ys) H H'){items:Array VX}{n:Nat}(hl:IsL s.heap a items n)(hr:∀ h',Fp c.env.locals H H' s.heap h'->AS h' ys (f items).toList){v:VX}(hv:∀ h',Fp c.env.locals H H' s.heap h'->u.rep h' v)(h:Q u m H')(hw:∀ P:VX->Vb->Prop,P v { s with heap:=s.heap.update a (Wg f),toks:=s.toks }->c.wp t P s):FJ c H s VR t Q:=by
 have hu:=IsL.update hl f
 have F:Fp c.env.locals H H' s.heap (s.heap.update a (Wg f)):=.upd up DY ⟨_,hu⟩
 exact .upd R up h fun P k=>hw P (k v _ s.toks DY ⟨_,hu⟩ (fun F=>O.list_mk hu (hr _ F)) (hv _ F))
theorem Jh{a:Addr}{xs:List V}{x:V}{H':Hp}(up:Cd a (.list xs) (.list (xs++[x])) H H')(h:Q .none m H')(hsz:xs.length<=WS):Ck c (.bi "list.append") [.ref a,x] m H Q:=fun s vf vvs R rf rv=>by
 cases (rf:vf=_)
 obtain⟨va,vx,rfl,ra,rx⟩:=rv.two
 cases (ra:va=_)
 obtain⟨items,n,hl,hr⟩:=O.list_get (R.obj _ _ up.mem)
 have hs:items.size<=WS:=by rw[<- V9,hr.length];exact hsz
 refine FE R up hl (f:=(·.push vx)) (u:=.none) (v:=.none) (fun h' F=>?_) (fun _ _=>rfl) h fun P p=>Wh Wi ⟨_,hl,rfl⟩ Wj (Wk _ _) (PySem.list_append a items n vx hs) ⟨hl,p⟩
 rw[Wl]
 exact(R.liftL F hr).append (.one (R.lift F rx))
theorem Te{a:Addr}{xs:List V}(ha:AK c H a (.list xs))(h:Q (.int xs.length) m H)(hsz:xs.length<=1000000):Ck c (.bi "len") [.ref a] m H Q:=fun s vf vvs R rf rv=>by
 cases (rf:vf=_)
 obtain⟨va,rfl,ra⟩:=rv.sole
 cases (ra:va=_)
 obtain⟨items,n,hl,hr⟩:=O.list_get (ha m s R)
 have hz:items.size=xs.length:=by rw[<- V9,hr.length]
 exact .val R h fun P k=>PyProof.Rows.len_list (IsL.isList hl) (ON (Yi (Z5 hz) hsz)) (k _ _ ⟨_,by rw[hz]⟩)
theorem Pw{n:Int}(h:∀ a,Q (.ref a) m ((a,.range 0 n 1)::H)):Ck c (.ty "range") [.int n] m H Q:=fun s vf vvs R rf rv=>by
 cases (rf:vf=_)
 obtain⟨va,rfl,ra⟩:=rv.sole
 obtain⟨t,rfl⟩:=ra
 exact .new R (o:=.range 0 n 1) (b:=fun a=>.ref a) h fun P k=>call_range_1 (k _ _ _ _ AH (AR _) ⟨_,_,_,WR _ rfl⟩ rfl)
theorem OG{a b:Int}(h:∀ x,Q (.ref x) m ((x,.range a b 1)::H)):Ck c (.ty "range") [.int a,.int b] m H Q:=fun s vf vvs R rf rv=>by
 cases (rf:vf=_)
 obtain⟨va,vb,rfl,ra,rb⟩:=rv.two
 obtain⟨t,rfl⟩:=ra;obtain⟨u,rfl⟩:=rb
 exact .new R (o:=.range a b 1) (b:=fun a=>.ref a) h fun P k=>call_range_2 (k _ _ _ _ AH (AR _) ⟨_,_,_,WR _ rfl⟩ rfl)
theorem Kg{t:Expr}(ht:Ae t=true){it:Addr}{a:Int}{n:Nat}:Iter c t (.ref it) [it] n (fun i=>.int (a+i)) (fun _=>True) (fun i h=>i<=n/\IsRangeIter h it (a+i) (n-i) 1) (fun i _ h=>i+1<=n/\IsRangeIter h it (a+(i+1)) (n-(i+1)) 1) where
 item:=fun i m H s hi R A ok j P k=>by
  obtain⟨h1,h2,h3,_⟩:=A it (by simp)
  refine wpAny_pyNext_range_item j.2 (Int.sub_pos_of_lt (dC.mpr hi)) fun h' hit' hs'=>?_
  refine k _ h' (Bq s (s.toks+1)) (R.off (h':=h') _ j.2 (fun _ _ _ q=>by cases q.2) h1 h2 h3 (Heap.SameBut.kp hs')) (BH (Heap.SameBut.kp hs')) (A.one ⟨_,hit',fun _ _ _ q=>by cases q.2⟩) ⟨hi,?_⟩ ⟨_,rfl⟩
  have e1:a+(i:Int)+1=a+((i:Int)+1):=Int.add_assoc _ _ _
  have e2:(n:Int)-i-1=n-((i:Int)+1):=Int.sub_sub _ _ _
  rw[e1,e2]at hit'
  exact hit'
 go:=fun i v m H s R A j r P k=>Dd ht j.2 rfl rfl (by decide) (k s.heap (Bq s s.toks) R (fun _ _ _ e=>e) A (by simpa using j) r)
 done:=fun m H s R A ok j P k=>by
  obtain⟨h1,h2,h3,_⟩:=A it (by simp)
  refine wpAny_pyNext_range_end c.hh j.2 (Int.le_of_eq (Int.sub_self _)) fun h' hs'=>?_
  exact k h' (Bq s s.toks) (R.off (Bq s s.toks) j.2 (fun _ _ _ q=>by cases q.2) h1 h2 h3 hs') (BH hs')
 keep:=fun i h h' j hk=>⟨j.1,hk it (by simp) _ j.2⟩
 self:=fun s P j p=>wpAny_pyIter_rangeiter j.2 p
theorem OH{t e:Expr}(ht:Ae t=true){Q:Nat->(Nat->V)->(Hp->Prop)->Lo->Hp->Prop}(h:Af c e m H fun u m1 H1=>∃ x a b,u=.ref x/\AK c H1 x (.range a b 1)/\(-1000000<=a/\a<=1000000)/\(-1000000<=b/\b<=1000000)/\Q (b-a).toNat (fun i=>.int (a+i)) (fun _=>True) m1 H1):DU c t e m H Q:=fun s R P k=>by
 refine h s R _ fun u va m1 H1 h1 tk1 R1 F1 r1 q1=>?_
 obtain⟨x,a,b,rfl,hs,ha,hb,q⟩:=q1
 cases (r1:va=_)
 obtain⟨t1,u,v,hr⟩:=hs m1 _ R1
 have hsz:Wn a b 1=((b-a).toNat:Int):=by
  unfold Wn
  rw[if_pos (by decide),Int.ediv_one,Int.sub_add_cancel]
  exact SW
 have hsmall:Wo a b 1=true:=by
  unfold Wo
  rw[hsz]
  have f:∀ z:Int,-3000000<=z/\z<=3000000->Wp z=true:=fun z h1=>by
   unfold Wp
   rw[X5,decide_eq_true_eq,decide_eq_true_eq]
   exact P6 h1
  rw[f a (Fg ha),f b (Fg hb),f 1 ⟨by decide,by decide⟩,f _ (OM ha.1 hb.2)]
  simp
  exact .inr (f _ (Fg hb))
 refine wpAny_pyIter_range hr hsmall ?_
 rw[hsz]
 have hf:=R1.fresh (AR h1)
 refine k (.ref h1.objs.size) [h1.objs.size] _ _ _ _ _ m1 H1 _ tk1 (Kg ht (a:=a) (n:=(b-a).toNat)) (R1.grow tk1 AH) (F1.trans R1.hasL (.grow AH))
  (fun b hb=>by simp at hb;subst hb;exact⟨hf.1,hf.2.1,hf.2.2,_,WR _ rfl,fun _ _ _ q=>by cases q.2⟩) (fun b hb=>by
   simp at hb;subst hb
   cases q:s.heap.get? h1.objs.size with
   | none=>rfl
   | some o=>obtain⟨o',e⟩:=F1.alive _ _ q;rw[AR]at e;cases e) ⟨WJ _,by simpa using WR h1 (o:={ cls:=.type "range_iterator",data:=.fields #[rawInt a,rawInt ((b-a).toNat:Int),rawInt 1] }) rfl⟩ q
end
section
variable{c:Ctx}{m:Lo}{H:Hp}{pos:Pos}{Q:V->Lo->Hp->Prop}
theorem AW.post{b:List Stmt}{Q:Fl->Lo->Hp->Prop}(h:AW c b m H fun f m' H'=>∃ m2 H2,AI m' H' m2 H2/\Q f m2 H2):AW c b m H Q:=
 fun s R P k=>h s R P fun b v m' H' h tk R' F r t8=>t8.elim fun m2 t9=>t9.elim fun H2 t9=>t9.elim fun l q=>k b v m2 H2 h tk (R'.weaken l.1 l.2.1 (l.2.2 R'.nd)) ⟨F.keep,fun b hb=>F.dom b (by obtain⟨p,hp,e⟩:=Vm.mp hb;exact e▸Vm.mpr ⟨p,l.2.1 p hp,rfl⟩),F.alive⟩ r q
noncomputable def Ao(c:Ctx)(f:V)(vs:List V)(m:Lo)(H:Hp)(Q:V->Lo->Hp->Prop):Prop:=∀ s vf vvs,Rel c ⟨m,H⟩ s->f.rep s.heap vf->AS s.heap vs vvs->∀ P:VX->Vb->Prop,
 (∀ b v m' H' h tk,Rel c ⟨m',H'⟩ (sw s h tk)->Fp c.env.locals H H' s.heap h->VR h b v->Q b m' H'->P v (sw s h tk)) ->
 Wq (model c.prog c.w) c.A (.call vf ⟨vvs,[]⟩) (fun r s'=>match r with | .ok (.ret v)=>P v s' | .ok _=>False | .error _=>False) s
theorem Ao.cal{f:V}{vs:List V}(h:Ao c f vs m H Q):Ck c f vs m H Q:=fun s vf vvs R rf rv P k=>Wr (h s vf vvs R rf rv P k)
noncomputable def DV{κ:Type}(h:Heap)(es:List (κ×V))(kvs:List (κ×VX)):Prop:=kvs.map (·.1)=es.map (·.1)/\AS h (es.map (·.2)) (kvs.map (·.2))
noncomputable abbrev Em(h:Heap)(bs:List (Str×V))(binds:List (Str×VX)):Prop:=DV h bs binds
theorem DV.mk{κ:Type}{h:Heap}{k:κ}{u:V}{v:VX}{es:List (κ×V)}{kvs:List (κ×VX)}(hv:u.rep h v)(r:DV h es kvs):DV h ((k,u)::es) ((k,v)::kvs):=⟨congrArg (k::·) r.1,.cons hv r.2⟩
theorem DV.ind{κ:Type}{h:Heap}{P:List (κ×V)->List (κ×VX)->Prop}(h0:P [] [])(h1:∀ k u v es kvs,u.rep h v->DV h es kvs->P es kvs->P ((k,u)::es) ((k,v)::kvs)){es:List (κ×V)}:∀ {kvs},DV h es kvs->P es kvs:=by
 induction es with
 | nil=>
  intro kvs b
  cases kvs with
  | nil=>exact h0
  | cons _ _=>exact nomatch b.1
 | cons e es ih=>
  intro kvs b
  cases kvs with
  | nil=>exact nomatch b.1
  | cons p kvs=>exact b.2.elim fun v q=>q.elim fun r q=>List.cons.inj q.1 |>.elim fun q1 q2=>List.cons.inj b.1 |>.elim fun b1 b2=>
    (show p=(e.1,v) from Prod.ext b1 q1)▸h1 e.1 e.2 v es kvs q.2.1 ⟨b2,(show kvs.map (·.2)=r from q2)▸q.2.2⟩ (ih ⟨b2,(show kvs.map (·.2)=r from q2)▸q.2.2⟩)
noncomputable def CY(names:List (Str×Wt))(bs:List (Str×V)):Lo:=(bs.filter fun p=>decide (names.lookup p.1=some .local)).reverse
noncomputable def T4(names:List (Str×Wt))(bs:List (Str×V))(n:Str):Option V:=((bs.filter fun p=>!decide (names.lookup p.1=some .local)).reverse).lookup n
theorem Cg{α:Type}{x:Str}{u:α}(m:List (Str×α)):((x,u)::m).lookup x=some u:=by rw[Vt,beq_self_eq_true]
theorem Cf{α:Type}{x y:Str}{u:Option α}{w:α}{m:List (Str×α)}(h:x≠y)(q:m.lookup x=u):((y,w)::m).lookup x=u:=by rw[Vt,beq_eq_false_iff_ne.mpr h];exact q
theorem Mr{h:Heap}{kindOf:Str->Option Wt}{bs:List (Str×V)}{binds:List (Str×VX)}(b:Em h bs binds):∀ {m:Str->Option VX} {acc:Lo},(∀ x u,acc.lookup x=some u->∃ v,m x=some v/\u.rep h v) ->
  ∀ x u,((bs.filter fun p=>decide (kindOf p.1=some .local)).reverse++acc).lookup x=some u->∃ v,bindL kindOf binds m x=some v/\u.rep h v:=by
 refine DV.ind (P:=fun bs binds=>∀ {m:Str->Option VX} {acc:Lo},(∀ x u,acc.lookup x=some u->∃ v,m x=some v/\u.rep h v)->∀ x u,((bs.filter fun p=>decide (kindOf p.1=some .local)).reverse++acc).lookup x=some u->∃ v,bindL kindOf binds m x=some v/\u.rep h v) (fun hm=>hm) (fun y w v bs r hv _ ih m acc hm x u e=>?_) b
 unfold bindL
 by_cases hk:kindOf y=some .local
 .rw[List.filter_cons_of_pos (by exact decide_eq_true hk),Vh,Wv]at e
  rw[if_pos hk]
  refine ih (acc:=(y,w)::acc) (fun z t q=>?_) x u e
  by_cases hb:z=y
  .rw[hb,Cg]at q;exact⟨v,if_pos hb,Option.some.inj q▸hv⟩
  .rw[Cf hb rfl]at q;exact(hm z t q).elim fun v' q=>⟨v',(if_neg hb).trans q.1,q.2⟩
 .rw[List.filter_cons_of_neg (by exact fun q=>hk (of_decide_eq_true q))]at e
  rw[if_neg hk]
  exact ih hm x u e
noncomputable def Eg(h:Heap)(u:Option V)(v:Option VX):Prop:=match u with
 | .none=>v=.none
 | some u=>∃ w,v=some w/\u.rep h w
theorem Mt{h:Heap}{kindOf:Str->Option Wt}{bs:List (Str×V)}{binds:List (Str×VX)}(b:Em h bs binds):∀ {m:Str->Option VX} {acc:Lo},(∀ x,Eg h (acc.lookup x) (m x)) ->
  ∀ x,Eg h (((bs.filter fun p=>!decide (kindOf p.1=some .local)).reverse++acc).lookup x) (bindC kindOf binds m x):=by
 refine DV.ind (P:=fun bs binds=>∀ {m:Str->Option VX} {acc:Lo},(∀ x,Eg h (acc.lookup x) (m x))->∀ x,Eg h (((bs.filter fun p=>!decide (kindOf p.1=some .local)).reverse++acc).lookup x) (bindC kindOf binds m x)) (fun hm=>hm) (fun y w v bs r hv _ ih m acc hm x=>?_) b
 unfold bindC
 by_cases hk:kindOf y=some .local
 .rw[List.filter_cons_of_neg (by show ¬ (!decide (kindOf y=some .local))=true;rw[decide_eq_true hk];exact ab),if_pos hk]
  exact ih hm x
 .rw[List.filter_cons_of_pos (by show(!decide (kindOf y=some .local))=true;rw[decide_eq_false hk];rfl),if_neg hk,Vh,Wv]
  refine ih (acc:=(y,w)::acc) (fun z=>?_) x
  by_cases hb:z=y
  .rw[hb,Cg];exact⟨v,if_pos rfl,hv⟩
  .rw[Cf hb rfl,if_neg hb];exact hm z
noncomputable def Ctx.enter(c:Ctx)(fd:Wx)(a L:Addr)(k:Nat)(hf:c.fuel=k+1)(hk:fd.scope.kind=.function):Ctx:=
 ⟨c.prog,c.w,c.A.deeper (callEnvC fd L a),callEnvC fd L a,c.G,k,c.hh,(by have:=c.hd;rw[hf]at this;show c.A.depth+1+k<Vk;exact AJ 3 (.t (.a Y0 (.a Y1 N1)) Y2) (.t (.a (.a Y0 N1) Y1) Y2) [_,_,_] this),
  (by have:=c.hu;rw[hf]at this;show c.A.units+3+40 * k+400<cLine;exact AJ 3 (.t (.a (.a Y0 (.m 40 (.a Y1 N1))) (.n 400)) Y2) (.t (.a (.a (.a Y0 (.n 3)) (.m 40 Y1)) (.n 400)) Y2) [_,_,_] this),hk⟩
noncomputable def Aw(L:Addr)(fd:Wx)(bs:List (Str×V)):Hp:=(Wy (L+1) fd.scope.names []).map fun p=>(p.2,.cell (T4 fd.scope.names bs p.1))
noncomputable def Fl.val:Fl->V
 | .ret v=>v
 | _=>.none
theorem Sy{fa:Addr}{fd:Wx}{body:List Stmt}{vs:List V}{bs:List (Str×V)}{k:Nat}(hfu:c.fuel=k+1)(hf:c.Knows fun h=>∃ o,h.get? fa=some o/\o.data=.func fd)(hcd:c.Knows fun h=>h.CodeRec fd.code fd.qualname)(hlim:c.Knows Wz)(hbody:fd.body=.stmts body)(hclo:fd.closure=[])(hk:fd.scope.kind=.function)(hco:fd.scope.isCoroutine=false)(hgen:fd.scope.isGenerator=false)(hbind:∀ m H s vvs,Rel c ⟨m,H⟩ s->AS s.heap vs vvs->∃ binds,W0 s fd ⟨vvs,[]⟩ binds/\Em s.heap bs binds)(hkind:∀ n x,x∈bs->fd.scope.names.lookup x.1=some .local∨(fd.scope.names.lookup x.1=some .cell/\((Wy n fd.scope.names []).lookup x.1).isSome=true))(hnd:∀ n x,x∈Wy n fd.scope.names []->(Wy n fd.scope.names []).lookup x.1=some x.2)(h:∀ L,AW (c.enter fd fa L k hfu hk) body (CY fd.scope.names bs) (Aw L fd bs++H) fun f _ H'=>Q f.val m H'):Ao c (.ref fa) vs m H Q:=fun s vf vvs R rf rv P kont=>by
 cases (rf:vf=_)
 obtain⟨o,ho,hd⟩:=hf s.heap R.keep
 obtain⟨binds,hb,br⟩:=hbind m H s vvs R rv
 have hkd:∀ x∈binds,fd.scope.names.lookup x.1=some .local∨(fd.scope.names.lookup x.1=some .cell/\((Wy (s.heap.objs.size+1) fd.scope.names []).lookup x.1).isSome=true):=fun x hx=>by
  have:x.1∈bs.map (·.1):=br.1▸Vm.mpr ⟨x,hx,rfl⟩
  obtain⟨y,hy,e⟩:=Vm.mp this
  have:=hkind (s.heap.objs.size+1) y hy
  rw[e]at this
  exact this
 refine W3 (W4 (W5 _ _) c.hd) ho hd hco hgen hbody (hcd s.heap R.keep) ?_
 refine hb _ _ _ _ ?_
 rw[hclo]
 refine wpAny_with_toks (Vn _) (W6 hk hkd fun env he s₁ x htk₁=>?_)
 subst he
 obtain⟨h₁,tk₁,rfl⟩:=x.toInCall.same
 have hg:∀ b o,s.heap.get? b=some o->h₁.get? b=some o:=x.toInCall.keep
 refine⟨(hlim s.heap R.keep).keeps hg,codeAny_func ?_⟩
 generalize hL:s.heap.objs.size=L at *
 have fresh:s.heap.get? L=.none:=hL▸AR _
 have hcell:∀ p∈Aw L fd bs,s.heap.get? p.1=.none:=fun p hp=>by
  obtain⟨q,hq,rfl⟩:=Vm.mp hp
  exact Bk (by have:=x.above q.1 q.2 hq;rw[hL];exact W7 this)
 have lift:∀ {u v},V.rep s.heap u v->V.rep h₁ u v:=fun r=>V.rep_fp r R (Fp.grow hg)
 have R₁:Rel (c.enter fd fa L k hfu hk) ⟨CY fd.scope.names bs,Aw L fd bs++H⟩ (sw s h₁ (Bq s tk₁)):=by
  have br₁:Em h₁ bs binds:=⟨br.1,R.liftL (Fp.grow hg) br.2⟩
  refine⟨⟨_,x.toInCall.ns,fun y u e=>Mr br₁ (acc:=[]) (fun z t q=>by cases q) y u (by rw[W8];exact e)⟩,?_,?_,?_,fun b o e=>hg b o (R.keep b o e),(R.fresh fresh).2.2,R.bare,Vp R.tp htk₁⟩
  .intro a o hm
   rcases W9.mp hm with hm|hm
   .obtain⟨q,hq,e⟩:=Vm.mp hm
    cases e
    obtain⟨oc,hoc,hdc⟩:=x.cell q.1 q.2 (hnd _ q hq)
    have:=Mt (kindOf:=fun n=>fd.scope.names.lookup n) br₁ (acc:=[]) (m:=fun _=>.none) (fun z=>rfl) q.1
    rw[W8]at this
    refine⟨oc,hoc,_,hdc,?_⟩
    unfold Eg at this
    exact this
   .exact O.rep_keep (R.obj a o hm) R (Fp.grow hg) fun ob e=>hg _ _ e
  .rw[dom,XA]
   refine XB.mpr ⟨?_,R.nd,?_⟩
   .show((Aw L fd bs).map (·.1)).Nodup
    unfold Aw
    rw[XC]
    exact XD.mpr x.apart
   .intro a ha b hb e
    subst e
    obtain⟨p,hp,rfl⟩:=Vm.mp ha
    obtain⟨o,ho⟩:=R.lt hb
    rw[hcell p hp]at ho;cases ho
  .intro a ha
   show a≠L/\c.G a=.none
   rw[dom,XA]at ha
   rcases W9.mp ha with ha|ha
   .obtain⟨p,hp,rfl⟩:=Vm.mp ha
    obtain⟨q,hq,rfl⟩:=Vm.mp hp
    exact⟨XE (x.above q.1 q.2 hq),(R.fresh (hcell _ hp)).2.2⟩
   .have ha':a∈dom H:=ha
    refine⟨fun e=>?_,(R.apart a ha').2⟩
    obtain⟨o,ho⟩:=R.lt ha'
    rw[e,fresh]at ho;cases ho
 have hLd:c.env.locals∉dom (Aw L fd bs++H):=fun q=>by
  rw[dom,XA]at q
  rcases W9.mp q with ha|ha
  .obtain⟨p,hp,e⟩:=Vm.mp ha
   obtain⟨o,ho⟩:=R.hasL
   rw[<- e,hcell p hp]at ho;cases ho
  .exact(R.apart _ ha).1 rfl
 have hLL:c.env.locals≠L:=(R.fresh fresh).2.1.symm
 refine Vv (h L _ R₁ _ fun f vf m' H' h₂ tk₂ R₂ F₂ r₂ q₂=>?_) (fun _ _ q=>q) fun _ _ q=>q.elim
 have F₂':Fp L (Aw L fd bs++H) H' h₁ h₂:=F₂
 have out:∀ b o,b∉dom H->s.heap.get? b=some o->h₂.get? b=some o:=fun b o hb e=>by
  refine F₂'.keep b o (fun q=>?_) (fun q=>by subst q;rw[fresh]at e;cases e) (hg b o e)
  rw[dom,XA]at q
  rcases W9.mp q with ha|ha
  .obtain⟨p,hp,rfl⟩:=Vm.mp ha
   rw[hcell p hp]at e;cases e
  .exact hb ha
 have F:Fp c.env.locals H H' s.heap h₂:=by
  refine⟨fun b o hb _ e=>out b o hb e,fun b hb=>?_,fun b o e=>F₂'.alive b o (hg b o e)⟩
  rcases F₂'.dom b hb with q|q
  .rw[dom,XA]at q
   rcases W9.mp q with ha|ha
   .obtain⟨p,hp,rfl⟩:=Vm.mp ha
    exact .inr (hcell p hp)
   .exact .inl ha
  .cases e:s.heap.get? b with
   | none=>exact .inr rfl
   | some o=>rw[hg b o e]at q;cases q
 have RR:Rel c ⟨m,H'⟩ (sw s h₂ tk₂):=by
  refine R.change tk₂ F ?_ R₂.obj R₂.nd R₂.bare R₂.tp
  obtain⟨m',hn,q⟩:=R.loc
  obtain⟨oL,es,ep,hoL,rL⟩:=hn
  exact⟨m',⟨oL,es,ep,out _ _ (fun q=>(R.apart _ q).1 rfl) hoL,rL⟩,fun x u e=>(q x u e).elim fun v t9=>t9.elim fun h1 h2=>⟨v,h1,V.rep_fp h2 R F⟩⟩
 cases f with
 | next=>cases (r₂:vf=.next);exact kont .none _ m H' h₂ tk₂ RR F rfl q₂
 | brk=>cases (r₂:vf=.brk);exact kont .none _ m H' h₂ tk₂ RR F rfl q₂
 | cont=>cases (r₂:vf=.cont);exact kont .none _ m H' h₂ tk₂ RR F rfl q₂
 | ret u=>obtain⟨v,rfl,hv⟩:=r₂;exact kont u _ m H' h₂ tk₂ RR F hv q₂
end
theorem IY{prog:VY}{w:VZ}{A:Va}{R:XF->Vb->Prop}{s:Vb}{elt target iter:Expr}{ifs:List Expr}{scope:XG}{pos:Pos}{it acc:VX}{env:Env}(I:Nat->Vb->Prop)(turn:∀ n s,I n s->Vc (model prog w) A (pyNext it) (fun r s₁=>match r with
   | .none=>R (.ok .next) s₁
   | some v=>Vc (model prog w) A (WG target it v) (fun _ s₁'=>Vc (model prog w) A (assign target env v) (fun _ s₂=>
     Vc (model prog w) A (forIn ifs true fun c r=>if r=true then do let ok <- isTrue c env (eval c env);pure (XH ok) else pure (XH r)) (fun ok s₃=>
      if ok=true then Vc (model prog w) A (eval elt env) (fun x s₄=>
       Vc (model prog w) A (call (.builtin "list.append") [acc,x]) (fun _ s₅=>∃ m,m<n/\I m s₅) (fun _ _=>False) s₄) (fun _ _=>False) s₃
      else ∃ m,m<n/\I m s₃) (fun _ _=>False) s₂) (fun _ _=>False) s₁') (fun _ _=>False) s₁) (fun _ _=>False) s)(n:Nat)(h:I n s):Wq (model prog w) A (.compLoop (.ListComp elt [⟨target,iter,ifs,0⟩] scope pos) 0 it acc env) R s:=by
 refine codeAny_loop rfl I (fun n s hI=>?_) n h
 show Vc _ A ((compTurn (.ListComp elt [⟨target,iter,ifs,0⟩] scope pos) 0 it acc env).onRaise (fun x=>do noteFrame x env;XI x)) _ _ s
 refine wpAny_noted ?_
 rw[compTurn_list]
 refine Ve (XJ (Ve (Vv (turn n s hI) (fun r s₁ h₁=>?_) fun _ _ h'=>h'.elim)))
 cases r with
 | none=>exact WM h₁
 | some v=>
  refine Ve (Vv h₁ (fun _ s₁' h₁'=>?_) fun _ _ h'=>h'.elim)
  refine Ve (Vv h₁' (fun _ s₂ h₂=>Ve (Vv h₂ (fun ok s₃ h₃=>?_) fun _ _ h'=>h'.elim)) fun _ _ h'=>h'.elim)
  cases ok with
  | false=>exact WM ⟨rfl,h₃⟩
  | true=>exact Ve (Ve (Vv h₃ (fun x s₄ h₄=>Ve (Vv h₄ (fun _ s₅ h₅=>WM (WM ⟨rfl,h₅⟩)) fun _ _ h'=>h'.elim)) fun _ _ h'=>h'.elim))
noncomputable def DQ(c:Ctx):List Expr->Lo->Hp->(Bool->Lo->Hp->Prop)->Prop
 | [],m,H,Q=>Q true m H
 | e::r,m,H,Q=>FT c e m H fun b m1 H1=>if b then DQ c r m1 H1 Q else Q false m1 H1
theorem E8{M:Wd}{A:Va}{E:VX->Vb->Prop}{s:Vb}{env:Env}{Q:Bool->Vb->Prop}(h:Q false s):∀ l:List Expr,
  Vc M A (forIn l false fun c r=>if r=true then do let ok <- isTrue c env (eval c env);pure (XH ok) else pure (XH r)) Q E s
 | []=>WM h
 | e::l=>by
  rw[XK]
  exact Ve (WM (E8 h l))
theorem DQ.run{c:Ctx}:∀ {l:List Expr} {m:Lo} {H:Hp} {Q:Bool->Lo->Hp->Prop} (h:DQ c l m H Q) (s:Vb) (R:Rel c ⟨m,H⟩ s),
  FJ c H s BR (forIn l true fun e r=>if r=true then do let ok <- isTrue e c.env (eval e c.env);pure (XH ok) else pure (XH r)) Q
 | [],m,H,Q,h,s,R=>.done R (b:=true) (fun P p=>WM p) rfl h
 | e::l,m,H,Q,h,s,R=>fun P k=>by
  rw[XK]
  refine Ve ?_
  show Vc _ _ (isTrue e c.env (eval e c.env) >>= fun ok=>pure (XH ok)) _ _ s
  refine Ve (h s R _ fun b vb m1 H1 h1 tk1 R1 F1 r1 q1=>WM ?_)
  cases r1
  cases b with
  | false=>exact E8 (k false _ m1 H1 h1 tk1 R1 F1 rfl q1) l
  | true=>exact DQ.run (l:=l) q1 _ R1 P fun v v' m3 H3 h3 tk3 R3 F3 r3 q3=>k v v' m3 H3 h3 tk3 R3 (F1.trans R1.hasL F3) r3 q3
theorem DQ.go{c:Ctx}{l:List Expr}{m:Lo}{H:Hp}{Q:Bool->Lo->Hp->Prop}(h:DQ c l m H Q){s:Vb}(R:Rel c ⟨m,H⟩ s){P:Bool->Vb->Prop}(kt:∀ m' H' h' tk',Rel c ⟨m',H'⟩ (sw s h' tk')->Fp c.env.locals H H' s.heap h'->Q true m' H'->P true (sw s h' tk'))(kf:∀ m' H' h' tk',Rel c ⟨m',H'⟩ (sw s h' tk')->Fp c.env.locals H H' s.heap h'->Q false m' H'->P false (sw s h' tk')) :
  Vc (model c.prog c.w) c.A (forIn l true fun e r=>if r=true then do let ok <- isTrue e c.env (eval e c.env);pure (XH ok) else pure (XH r)) P (fun _ _=>False) s:=
 h.run s R P fun b vb m' H' h' tk' R' F' r q=>by
  cases (r:b=vb)
  cases b
  .exact kf m' H' h' tk' R' F' q
  .exact kt m' H' h' tk' R' F' q
theorem Uf{α β:Type}{R:Prop}(J:α->β->Prop)(h:∀ JJ:α->β->Prop,(∀ a b,J a b->JJ a b)->(∀ a b,JJ a b->J a b)->R):R:=h J (fun _ _=>id) (fun _ _=>id)
noncomputable def Ctx.comp(c:Ctx)(scope:XG)(cl:List (Str×Addr))(C:Addr)(hk:scope.kind=.function):Ctx:=
 ⟨c.prog,c.w,c.A,XM scope cl C c.env,c.G,c.fuel,c.hh,c.hd,c.hu,hk⟩
section
variable{c:Ctx}{m:Lo}{H:Hp}{pos:Pos}{Q:V->Lo->Hp->Prop}
theorem Rel.inner{scope:XG}{cl:List (Str×Addr)}{C:Addr}{hk:scope.kind=.function}{s:Vb}{m0:Str->Option VX}(R:Rel c ⟨m,H⟩ s)(hn:s.heap.Ns C m0)(h1:C∉dom H)(h3:c.G C=.none):Rel (c.comp scope cl C hk) ⟨[],H⟩ s:=
 ⟨⟨m0,hn,fun x u e=>by cases e⟩,R.obj,R.nd,fun a ha=>⟨fun e=>(by have e':a=C:=e;subst e';exact h1 ha),(R.apart a ha).2⟩,R.keep,h3,R.bare,R.tp⟩
theorem Rel.outer{scope:XG}{cl:List (Str×Addr)}{C:Addr}{hk:scope.kind=.function}{s:Vb}{m0 m':Lo}{H':Hp}{h':Heap}{tk:Tk}(R:Rel c ⟨m,H⟩ s)(R0:Rel (c.comp scope cl C hk) ⟨m0,H⟩ s)(hne:c.env.locals≠C)(F:Fp C H H' s.heap h')(R':Rel (c.comp scope cl C hk) ⟨m',H'⟩ (sw s h' tk)):Rel c ⟨m,H'⟩ (sw s h' tk):=by
 refine⟨?_,R'.obj,R'.nd,fun a ha=>⟨fun e=>?_,(R'.apart a ha).2⟩,R'.keep,R.gl,R'.bare,R'.tp⟩
 .obtain⟨m',hn,q⟩:=R.loc
  obtain⟨oL,es,ep,hoL,rL⟩:=hn
  exact⟨m',⟨oL,es,ep,F.keep _ _ (fun q=>(R.apart _ q).1 rfl) hne hoL,rL⟩,fun x u e=>(q x u e).elim fun v t9=>t9.elim fun h1 h2=>⟨v,h1,V.rep_fp h2 R0 F⟩⟩
 .rcases F.dom a ha with q|q
  .exact(R.apart a q).1 e
  .subst e;obtain⟨o,ho⟩:=R.hasL;rw[q]at ho;cases ho
theorem Fp.via{L C:Addr}{H H' H'':Hp}{base h h':Heap}(F:Fp L H H' base h)(hC:base.get? C=.none)(F':Fp C H' H'' h h'):Fp L H H'' base h' where
 keep:=fun b o hb hL e=>F'.keep b o (fun q=>(F.dom b q).elim hb fun n=>by rw[n]at e;cases e) (fun q=>by subst q;rw[hC]at e;cases e) (F.keep b o hb hL e)
 dom:=fun b hb=>(F'.dom b hb).elim (F.dom b) fun n=>by
  cases q:base.get? b with
  | none=>exact .inr rfl
  | some o=>obtain⟨o',e⟩:=F.alive b o q;rw[n]at e;cases e
 alive:=fun b o e=>(F.alive b o e).elim fun o' e'=>F'.alive b o' e'
noncomputable def CX(c:Ctx)(scope:XG)(cl:List (Str×Addr))(hk:scope.kind=.function)(t elt:Expr)(ifs:List Expr)(n:Nat)(x:Nat->V)(Ok:Hp->Prop)(H1:Hp)(Qf:List V->Hp->Prop):Prop:=
 ∀ C,∃ I:Nat->List V->Hp->Prop,I 0 [] H1/\(∀ i ys H2,i<n->I i ys H2->Ok H2/\Fs (c.comp scope cl C hk) t (x i) [] H2 fun m3 H3=>DQ (c.comp scope cl C hk) ifs m3 H3 fun b m4 H4=>
  if b then Af (c.comp scope cl C hk) elt m4 H4 fun v _ H5=>I (i+1) (ys++[v]) H5 else I (i+1) ys H4)/\∀ ys H2,I n ys H2->Ok H2/\Qf ys H2
noncomputable def El(c:Ctx)(s:Vb)(m1:Lo)(H:Hp)(base:Heap)(fp:List Addr)(D C:Addr)(J:Nat->Heap->Prop)(I:Nat->List V->Hp->Prop)(n k:Nat)(s':Vb):Prop:=∀ G:Vb->Prop,
 (∀ i ys m2 H' h' tk' items nn,Rel c ⟨m1,H'⟩ (sw s h' tk')->Fp c.env.locals H H' base h'->Aj c H' h' (fp++[D])->(C∉dom H'/\C≠c.env.locals/\c.G C=.none)->h'.Ns C m2->IsL h' D items nn->AS h' ys items.toList->J i h'->I i ys H'->i<=n->ys.length<=i->k=n+1-i->G (sw s h' tk'))->G s'
theorem El.use{s:Vb}{m1:Lo}{base:Heap}{fp:List Addr}{D C:Addr}{J:Nat->Heap->Prop}{I:Nat->List V->Hp->Prop}{n k:Nat}{s':Vb}{G:Vb->Prop}(h:El c s m1 H base fp D C J I n k s')(f:∀ i ys m2 H' h' tk' items nn,Rel c ⟨m1,H'⟩ (sw s h' tk')->Fp c.env.locals H H' base h'->Aj c H' h' (fp++[D])->(C∉dom H'/\C≠c.env.locals/\c.G C=.none)->h'.Ns C m2->IsL h' D items nn->AS h' ys items.toList->J i h'->I i ys H'->i<=n->ys.length<=i->k=n+1-i->G (sw s h' tk')):G s':=h G f
theorem El.mk{s:Vb}{m1:Lo}{base:Heap}{fp:List Addr}{D C:Addr}{J:Nat->Heap->Prop}{I:Nat->List V->Hp->Prop}{n k:Nat}{i:Nat}{ys:List V}{m2:Str->Option VX}{H':Hp}{h':Heap}{tk':Tk}{items:Array VX}{nn:Nat}(a1:Rel c ⟨m1,H'⟩ (sw s h' tk'))(a2:Fp c.env.locals H H' base h')(a3:Aj c H' h' (fp++[D]))(a4:(C∉dom H'/\C≠c.env.locals/\c.G C=.none))(a5:h'.Ns C m2)(a6:IsL h' D items nn)(a7:AS h' ys items.toList)(a8:J i h')(a9:I i ys H')(a10:i<=n)(a11:ys.length<=i)(a12:k=n+1-i):El c s m1 H base fp D C J I n k (sw s h' tk'):=
 fun _ f=>f i ys m2 H' h' tk' items nn a1 a2 a3 a4 a5 a6 a7 a8 a9 a10 a11 a12
theorem Cn{α:Type}(l:List α)(a:α):a∈l++[a]:=XN _ (XO a)
theorem Cw{items:Array VX}{nn:Nat}:E5 { cls:=.type "list",dict:=.none,data:=.seq items nn,slots:=#[] }:=fun k its m q=>by cases k<;>exact absurd q.1 (by unfold Ef;simp)
theorem Ml{m1:Lo}{H7:Hp}{s:Vb}{h7:Heap}{tk7:Tk}{D:Addr}{items:Array VX}{nn:Nat}{ys:List V}{u:V}{vu:VX}{G:Heap->Prop}(R7c:Rel c ⟨m1,H7⟩ (sw s h7 tk7))(hl7:IsL h7 D items nn)(hr7:AS h7 ys items.toList)(r7:u.rep h7 vu)(aD:D∉dom H7)(hDL:D≠c.env.locals)(gD:c.G D=.none)(k:∀ h8 items' nn',Rel c ⟨m1,H7⟩ (sw s h8 tk7)->IsL h8 D items' nn'->AS h8 (ys++[u]) items'.toList->(∀ b o,b≠D->h7.get? b=some o->h8.get? b=some o)->G h8):G (h7.update D (Wg (·.push vu))):=by
 have A:Aj c H7 h7 [D]:=fun b hb=>by rw[XQ.mp hb];exact⟨aD,hDL,gD,_,hl7,Cw⟩
 have kp:∀ b o,b≠D->h7.get? b=some o->(h7.update D (Wg (·.push vu))).get? b=some o:=DY
 refine k _ _ _ (R7c.off tk7 hl7 Cw aD hDL gD kp) (IsL.update hl7 (·.push vu)) ?_ kp
 rw[Wl]
 exact(Br A (BH kp) hr7).append (.one (CT A (BH kp) r7))
theorem Mm{RR:XF->Vb->Prop}{scope:XG}{cl:List (Str×Addr)}{hk:scope.kind=.function}{t elt iter:Expr}{ifs:List Expr}{it:VX}{fp:List Addr}{n:Nat}{x:Nat->V}{Ok:Hp->Prop}{J:Nat->Heap->Prop}{J':Nat->VX->Heap->Prop}{H1:Hp}{m1:Lo}{s:Vb}{base:Heap}{D C:Addr}{Qf:List V->Hp->Prop}{m0:Str->Option VX}(W:Iter c t it fp n x Ok J J')(hsz:n<=WS)(hw:CX c scope cl hk t elt ifs n x Ok H1 Qf)(R1:Rel c ⟨m1,H1⟩ s)(F1:Fp c.env.locals H H1 base s.heap)(A1:Aj c H1 s.heap (fp++[D]))(hfr:∀ b∈fp,base.get? b=.none)(hD:base.get? D=.none)(hC:base.get? C=.none)(hCo:C∉dom H1/\C≠c.env.locals/\c.G C=.none)(hCf:C∉fp)(hDf:D∉fp)(hCD:C≠D)(hn:s.heap.Ns C m0)(hl:IsL s.heap D #[] 0)(j:J 0 s.heap)(post:∀ ys H2 h2 tk2 m2,Rel c ⟨m1,(D,.list ys)::H2⟩ (sw s h2 tk2)->Fp c.env.locals H ((D,.list ys)::H2) base h2->h2.Ns C m2->(C∉dom H2/\C≠c.env.locals/\c.G C=.none)->Qf ys H2->RR (.ok .next) (sw s h2 tk2)) :
  Wq (model c.prog c.w) c.A (.compLoop (.ListComp elt [⟨t,iter,ifs,0⟩] scope pos) 0 it (.ref D) (XM scope cl C c.env)) RR s:=by
 obtain⟨I,i0,step,fin⟩:=hw C
 refine Uf (El c s m1 H base fp D C J I n) fun JJ mk ou=>?_
 refine IY JJ ?_ (n+1) (mk _ _ (El.mk (i:=0) (ys:=[]) (h':=s.heap) (tk':=(Bq s s.toks)) R1 F1 A1 hCo hn hl rfl j i0 (WJ _) (Vn _) rfl))
 intro k s' hJ
 refine El.use (G:=fun s'=>Vc _ _ (pyNext it) _ _ s') (ou _ _ hJ) fun i ys m2 H2 h2 tk2 items nn R2 F2 A2 hC2 hn2 hl2 hr2 j2 hI hle hyl hkk=>?_
 have Afp:Aj c H2 h2 fp:=fun b hb=>A2 b (XR _ hb)
 by_cases hlt:i<n
 .obtain⟨ok,body⟩:=step i ys H2 hlt hI
  refine W.item i m1 H2 _ hlt R2 Afp ok j2 _ fun v h3 tk3 R3 k3 A3 j3 r3=>?_
  have F3:=F2.off hfr k3
  have hl3:IsL h3 D items nn:=k3 D _ hDf hl2
  have hr3:=Br Afp k3 hr2
  have hn3:h3.Ns C m2:=hn2.at' fun o e=>k3 C o hCf e
  refine W.go i v m1 H2 _ R3 A3 j3 r3 _ fun h4 tk4 R4 k4 A4 j4 r4=>?_
  have F4:=F3.off hfr k4
  have hn4:h4.Ns C m2:=hn3.at' fun o e=>k4 C o hCf e
  have hl4:IsL h4 D items nn:=k4 D _ hDf hl3
  have hr4:=Br A3 k4 hr3
  have R4':Rel (c.comp scope cl C hk) ⟨[],H2⟩ _:=R4.inner hn4 hC2.1 hC2.2.2
  have A4':Aj (c.comp scope cl C hk) H2 h4 (fp++[D]):=fun b hb=>(W9.mp hb).elim
   (fun q=>⟨(A4 b q).1,fun e=>hCf ((show b=C from e)▸q),(A4 b q).2.2⟩)
   fun q=>by
    rw[XQ.mp q]
    exact⟨(A2 D (Cn fp D)).1,fun e=>hCD (e:D=C).symm,(A2 D (Cn fp D)).2.2.1,_,hl4,Cw⟩
  refine body _ v R4' r4 _ fun _ _ m5 H5 h5 tk5 R5 F5 _ q5=>?_
  have F5':=F4.via hC F5
  have A5:=A4'.step F5
  have kp5:∀ b∈fp++[D],∀ o,h4.get? b=some o->h5.get? b=some o:=fun b hb o e=>F5.keep b o (A4' b hb).1 (A4' b hb).2.1 e
  have hr5:=R4'.liftL F5 hr4
  refine q5.go R5 (fun m6 H6 h6 tk6 R6 F6 q6=>?_) (fun m6 H6 h6 tk6 R6 F6 q6=>?_)
  .have A6:=A5.step F6
   have kp6:∀ b∈fp++[D],∀ o,h4.get? b=some o->h6.get? b=some o:=fun b hb o e=>F6.keep b o (A5 b hb).1 (A5 b hb).2.1 (kp5 b hb o e)
   refine q6 _ R6 _ fun u vu m7 H7 h7 tk7 R7 F7 r7 q7=>?_
   have A7:=A6.step F7
   have kp7:∀ b∈fp++[D],∀ o,h4.get? b=some o->h7.get? b=some o:=fun b hb o e=>F7.keep b o (A6 b hb).1 (A6 b hb).2.1 (kp6 b hb o e)
   have hl7:IsL h7 D items nn:=kp7 D (Cn fp D) _ hl4
   have hr7:AS h7 ys items.toList:=R6.liftL F7 (R5.liftL F6 hr5)
   have R7c:Rel c ⟨m1,H7⟩ (sw s h7 tk7):=R4.outer R4' (Wf hC2.2.1) ((F5.trans R5.hasL F6).trans R6.hasL F7) R7
   have hisz:items.size<=WS:=by have:=hr2.length;rw[<- V9,this];exact Be 4 (.l Y0 Y1) (.l Y2 Y3) (.t Y3 Y0) (.l Y2 Y1) [_,_,_,_] hsz hyl hlt
   refine Wh Wi ⟨_,hl7,rfl⟩ Wj (Wk _ _) (PySem.list_append D items nn vu hisz) ⟨hl7,?_⟩
   have AD:=A7 D (Cn fp D)
   have hDL:=(A2 D (Cn fp D)).2.1
   show ∃ m,m<k/\JJ m (sw s (h7.update D (Wg (·.push vu))) tk7)
   refine Ml (G:=fun h8=>∃ m,m<k/\JJ m (sw s h8 tk7)) R7c hl7 hr7 r7 AD.1 hDL AD.2.2.1 fun h8 items' nn' R8 hl8 hr8 kp8=>?_
   have j8:=W.keep _ _ _ (W.keep _ _ _ j4 fun b hb o e=>kp7 b (XR _ hb) o e) fun b hb o e=>kp8 b o (fun e=>hDf (e▸hb)) e
   have F8:=(((F5'.via hC F6).via hC F7).off (fp:=[D]) (fun b hb=>by rw[XQ.mp hb];exact hD) fun b o q e=>kp8 b o (fun e=>q (e▸XO _)) e)
   obtain⟨m7',hn7,_⟩:=R7.loc
   refine⟨n+1-(i+1),by rw[hkk];exact AJ 2 (.t Y0 Y1) (.t (.s (.a Y1 N1) (.a Y0 N1)) (.s (.a Y1 N1) Y0)) [_,_] hlt,mk _ _ (El.mk (i:=i+1) (ys:=ys++[u]) (h':=h8) (tk':=tk7) R8 F8 (fun b hb=>(W9.mp hb).elim (fun q=>?_) (fun q=>?_)) ⟨fun q=>(R7.apart C q).1 rfl,hC2.2⟩ (hn7.at' fun o e=>kp8 C o hCD e) hl8 hr8 j8 q7 hlt (by rw[XS];exact XT hyl) rfl)⟩
   .obtain⟨a1,a2,a3,o,ho,nt⟩:=A7 b hb
    exact⟨a1,(A2 b hb).2.1,a3,o,kp8 b o (fun e=>hDf (e▸q)) ho,nt⟩
   .rw[XQ.mp q]
    exact⟨AD.1,hDL,AD.2.2.1,_,hl8,Cw⟩
  .have A6:=A5.step F6
   have kp6:∀ b∈fp++[D],∀ o,h4.get? b=some o->h6.get? b=some o:=fun b hb o e=>F6.keep b o (A5 b hb).1 (A5 b hb).2.1 (kp5 b hb o e)
   have R6c:Rel c ⟨m1,H6⟩ _:=R4.outer R4' (Wf hC2.2.1) (F5.trans R5.hasL F6) R6
   obtain⟨m6',hn6,_⟩:=R6.loc
   exact⟨n+1-(i+1),by rw[hkk];exact AJ 2 (.t Y0 Y1) (.t (.s (.a Y1 N1) (.a Y0 N1)) (.s (.a Y1 N1) Y0)) [_,_] hlt,mk _ _ (El.mk (i:=i+1) (ys:=ys) (h':=h6) (tk':=tk6) R6c (F5'.via hC F6) (fun b hb=>⟨(A6 b hb).1,(A2 b hb).2.1,(A6 b hb).2.2⟩) ⟨fun q=>(R6.apart C q).1 rfl,hC2.2⟩ hn6 (kp6 D (Cn fp D) _ hl4) (R5.liftL F6 hr5) (W.keep _ _ _ j4 fun b hb o e=>kp6 b (XR _ hb) o e) q6 hlt (XU hyl) rfl)⟩
 .have hin:i=n:=by exact AL 2 (.l Y0 Y1) (.no (.t Y0 Y1)) (.e Y0 Y1) [_,_] hle hlt
  rw[hin]at hI j2
  obtain⟨ok,q⟩:=fin ys H2 hI
  refine W.done m1 H2 _ R2 Afp ok j2 _ fun h3 tk3 R3 k3=>?_
  have hl3:IsL h3 D items nn:=k3 D _ hDf hl2
  have AD:=A2 D (Cn fp D)
  have F3:=F2.off hfr k3
  exact post ys H2 h3 tk3 m2 ⟨R3.loc,fun a o hm=>(Vq.mp hm).elim (fun e=>by cases e;exact O.list_mk hl3 (Br Afp k3 hr2)) (R3.obj a o),Vr.mpr ⟨AD.1,R3.nd⟩,fun a ha=>(Vq.mp ha).elim (fun e=>by rw[show a=D from e];exact⟨AD.2.1,AD.2.2.1⟩) (R3.apart a),R3.keep,R3.gl,R3.bare,R3.tp⟩
   ⟨F3.keep,fun b hb=>(Vq.mp hb).elim (fun e=>by rw[show b=D from e];exact .inr hD) (F3.dom b),F3.alive⟩ (hn2.at' fun o e=>k3 C o hCf e) hC2 q
end
section
variable{c:Ctx}{m:Lo}{H:Hp}{pos:Pos}{Q:V->Lo->Hp->Prop}
theorem Hs{PQ:VX->Vb->Prop}{use:Option (VX->Sem Unit)}{scope:XG}{cl:List (Str×Addr)}{hk:scope.kind=.function}{t elt iter:Expr}{ifs:List Expr}{it:VX}{fp:List Addr}{n:Nat}{x:Nat->V}{Ok:Hp->Prop}{J:Nat->Heap->Prop}{J':Nat->VX->Heap->Prop}{H1:Hp}{m1:Lo}{s:Vb}{h1:Heap}{tk1:Tk}{Qf:List V->Hp->Prop}(hcell:∀ y∈scope.names,y.2≠.cell)(W:Iter c t it fp n x Ok J J')(hsz:n<=WS)(hw:CX c scope cl hk t elt ifs n x Ok H1 Qf)(R1:Rel c ⟨m1,H1⟩ (sw s h1 tk1))(F1:Fp c.env.locals H H1 s.heap h1)(A1:Aj c H1 h1 fp)(hfr:∀ b∈fp,s.heap.get? b=.none)(j:J 0 h1)(post:∀ ys H2 h2 tk2 m2 D C,Rel c ⟨m1,(D,.list ys)::H2⟩ (sw s h2 tk2)->Fp c.env.locals H ((D,.list ys)::H2) s.heap h2->h2.Ns C m2->(C∉dom ((D,.list ys)::H2)/\C≠c.env.locals/\c.G C=.none/\s.heap.get? C=.none)->Qf ys H2 ->
   XV (model c.prog c.w) c.A (fun _ _=>False) use PQ (.ref D) C (.ok .next) (sw s h2 tk2)) :
  Vc (model c.prog c.w) c.A (newList []) (fun acc s₃=>Vc (model c.prog c.w) c.A (newFunctionEnv scope c.env.globals cl [] c.env.qual .none .none (some c.env)) (fun cenv s₄=>
   Wq (model c.prog c.w) c.A (.compStart (.ListComp elt [⟨t,iter,ifs,0⟩] scope pos) 0 it acc { cenv with scope:=XW scope c.env }) (XV (model c.prog c.w) c.A (fun _ _=>False) use PQ acc cenv.locals) s₄) (fun _ _=>False) s₃) (fun _ _=>False) (sw s h1 tk1):=by
 refine XX ?_
 refine XY hcell (fun y hy=>by cases hy) (fun h' hn hs=>?_) hk
 have e1:(h1.push { cls:=.type "list",data:=.seq #[] }).objs.size=h1.objs.size+1:=by simp
 have g1:∀ b o,h1.get? b=some o->(h1.push { cls:=.type "list",data:=.seq #[] }).get? b=some o:=AH
 have g2:∀ b o,(h1.push { cls:=.type "list",data:=.seq #[] }).get? b=some o->h'.get? b=some o:=fun b o e=>
  (hs.2 b (WA (WB e))).trans (AH b o e)
 have g:∀ b o,h1.get? b=some o->h'.get? b=some o:=fun b o e=>g2 b o (g1 b o e)
 have hl:IsL h' h1.objs.size #[] 0:=g2 _ _ (WR _ rfl)
 have fD:=R1.fresh (AR h1)
 have cN:h1.get? (h1.objs.size+1)=.none:=Bk (Vo _)
 have fC:=R1.fresh cN
 have back:∀ b,h1.get? b=.none->s.heap.get? b=.none:=fun b hb=>by
  cases q:s.heap.get? b with
  | none=>rfl
  | some o=>obtain⟨o',e⟩:=F1.alive _ _ q;rw[hb]at e;cases e
 have ntD:E5 { cls:=.type "list",dict:=.none,data:=.seq #[] 0,slots:=#[] }:=fun k its m q=>by cases k<;>exact absurd q.1 (by unfold Ef;simp)
 have live:∀ b∈fp,b<h1.objs.size:=fun b hb=>by obtain⟨_,_,_,o,ho,_⟩:=A1 b hb;exact WB ho
 have main:=fun (n0:Nat) (ht:tk1.toks<=n0)=>Mm (c:=c) (H:=H) (pos:=pos) (RR:=XV (model c.prog c.w) c.A (fun _ _=>False) use PQ (.ref h1.objs.size) (h1.objs.size+1)) (iter:=iter) (hk:=hk) (s:=(sw s h' ⟨n0,tk1.drawn,tk1.gens⟩)) (base:=s.heap) (D:=h1.objs.size) (C:=h1.objs.size+1) W hsz hw
  (R1.grow ⟨n0,tk1.drawn,tk1.gens⟩ g) (F1.trans R1.hasL (.grow g)) (fun b hb=>by
   rcases W9.mp hb with q|q
   .obtain⟨a1,a2,a3,o,ho,nt⟩:=A1 b q
    exact⟨a1,a2,a3,o,g b o ho,nt⟩
   .simp at q;subst q
    exact⟨fD.1,fD.2.1,fD.2.2,_,hl,ntD⟩) hfr (back _ (AR h1)) (back _ cN) fC (fun q=>absurd (live _ q) (WL.mpr (Vo _))) (fun q=>absurd (live _ q) (WK _)) (XZ _)
  (m0:=fun x=>([]:List (Str×VX)).reverse.lookup x) (by rw[<- e1];exact hn) hl (W.keep _ _ _ j fun b _ o e=>g b o e) (fun ys H2 h2 tk2 m2 R F N o q=>post ys H2 h2 tk2 m2 _ _ R F N ⟨fun q=>by
   rcases Vq.mp q with e|e
   .exact absurd (e:h1.objs.size+1=h1.objs.size) (XZ _)
   .exact o.1 e,o.2.1,o.2.2,back _ cN⟩ q)
 have eC:({ newEnv scope (h1.push { cls:=.type "list",data:=.seq #[] }).objs.size c.env.globals cl c.env.qual .none .none (some c.env) 0 with scope:=XW scope c.env }:Env)=XM scope cl (h1.objs.size+1) c.env:=by rw[e1];rfl
 have e2:(newEnv scope (h1.push { cls:=.type "list",data:=.seq #[] }).objs.size c.env.globals cl c.env.qual .none .none (some c.env) 0).locals=h1.objs.size+1:=e1
 show Wq _ _ (.compStart _ 0 it (.ref h1.objs.size) { newEnv scope (h1.push { cls:=.type "list",data:=.seq #[] }).objs.size c.env.globals cl c.env.qual .none .none (some c.env) 0 with scope:=XW scope c.env }) (XV _ _ _ use PQ (.ref h1.objs.size) (newEnv scope (h1.push { cls:=.type "list",data:=.seq #[] }).objs.size c.env.globals cl c.env.qual .none .none (some c.env) 0).locals) _
 rw[eC,e2]
 refine Xa (main _ (by first|exact Vn _|exact Vo _|exact W5 _ _)) (Vv (W.self _ _ (W.keep _ _ _ j fun b _ o e=>g b o e) (main _ (by first|exact Vn _|exact Vo _|exact W5 _ _))) (fun _ _ q=>q) fun _ _ q=>q.elim)
theorem Sv{t elt iter:Expr}{ifs:List Expr}{scope:XG}{cl:List (Str×Addr)}(hclos:Xb scope c.env=pure cl)(hk:scope.kind=.function)(h:DU c t iter m H fun n x Ok m1 H1=>n<=WS/\CX c scope cl hk t elt ifs n x Ok H1 fun ys H2=>∀ D,Q (.ref D) m1 ((D,.list ys)::H2))(hcell:autoParam (∀ y∈scope.names,y.2≠.cell) BX)(hnames:autoParam (∀ y∈scope.names,y.2=.local->scope.names.lookup y.1=some .local) BX)(hs:autoParam (∀ x,WH iter c.env x=pure x) C4):Af c (.ListComp elt [⟨t,iter,ifs,0⟩] scope pos) m H Q:=fun s R P k=>by
 rw[eval_ListComp]
 refine Xc (use:=.none) rfl hs hclos hk hnames (h s R _ fun it fp n x Ok J J' m1 H1 h1 tk1 W R1 F1 A1 fr1 j1 q=>?_)
 refine Hs hcell W q.1 q.2 R1 F1 A1 fr1 j1 fun ys H2 h2 tk2 m2 D C R2 F2 N o q=>?_
 refine⟨m2,N,fun h' hs'=>?_⟩
 obtain⟨oC,es,ep,hoC,hdC,_⟩:=N
 have R3:=R2.off (h':=h') tk2 hoC (fun _ _ _ q=>by rw[hdC]at q;cases q.2) o.1 o.2.1 o.2.2.1 (Heap.SameBut.kp hs')
 exact k (.ref D) _ m1 _ h' tk2 R3 (F2.off (fp:=[C]) (fun b hb=>by simp at hb;subst hb;exact o.2.2.2) (BH (Heap.SameBut.kp hs'))) rfl (q D)
theorem Pe{y:Str}{py spos:Pos}{Q:Fl->Lo->Hp->Prop}{t elt iter:Expr}{ifs:List Expr}{scope:XG}{cl:List (Str×Addr)}(hclos:Xb scope c.env=pure cl)(hk:scope.kind=.function)(hy:c.env.kindOf y=some .local)(h:DU c t iter m H fun n x Ok m1 H1=>n<=WS/\CX c scope cl hk t elt ifs n x Ok H1 fun ys H2=>∀ D,Q .next ((y,.ref D)::m1) ((D,.list ys)::H2))(hsw:WD (.ListComp elt [⟨t,iter,ifs,0⟩] scope pos) (some (.Name y py)) spos.line c.env=pure true)(hcell:autoParam (∀ y∈scope.names,y.2≠.cell) BX)(hnames:autoParam (∀ y∈scope.names,y.2=.local->scope.names.lookup y.1=some .local) BX)(hs:autoParam (∀ x,WH iter c.env x=pure x) C4):DX c (.Assign [.Name y py] (.ListComp elt [⟨t,iter,ifs,0⟩] scope pos) spos) m H Q:=fun s R P k=>by
 rw[exec_Assign_Name_used _ _ _ _ hsw]
 refine Ve (XJ (Ve ?_))
 show Vc _ _ (do let _ <- comprehension (.ListComp elt [⟨t,iter,ifs,0⟩] scope pos) scope c.env _ (newList []) false (eval iter c.env) (some (assign (.Name y py) c.env))) _ _ s
 refine Ve (Vv (Xc (use:=some (assign (.Name y py) c.env)) (Q:=fun _ s'=>P .next s') rfl hs hclos hk hnames (h s R _ fun it fp n x Ok J J' m1 H1 h1 tk1 W R1 F1 A1 fr1 j1 q=>?_))
  (fun _ s' hq=>WM (WM hq)) fun _ _ e=>e)
 refine Hs hcell W q.1 q.2 R1 F1 A1 fr1 j1 fun ys H2 h2 tk2 m2 D C R2 F2 N o q=>?_
 obtain⟨mL,hn,qL⟩:=R2.loc
 show Vc _ _ (assign (.Name y py) c.env (.ref D)) _ _ _
 refine wpAny_assign_Name (V4 hy hn (fun h3 hn3 hs3=>?_) c.hp)
 have R3:=R2.store (h':=h3) ⟨tk2.toks+1,tk2.drawn,tk2.gens⟩ (x:=y) (u:=.ref D) (v:=.ref D) rfl hs3 qL hn3
 have N3:h3.Ns C m2:=N.sameBut hs3 o.2.1
 refine⟨m2,N3,fun h' hs'=>?_⟩
 obtain⟨oC,es,ep,hoC,hdC,_⟩:=N3
 have R4:=R3.off (h':=h') ⟨tk2.toks+1,tk2.drawn,tk2.gens⟩ hoC (fun _ _ _ q=>by rw[hdC]at q;cases q.2) o.1 o.2.1 o.2.2.1 (Heap.SameBut.kp hs')
 have F3:=F2.trans R2.hasL (Fp.frame (H:=(D,.list ys)::H2) hs3 (hn3.elim fun o t9=>t9.elim fun _ t9=>t9.elim fun _ t9=>t9.elim fun ho _=>⟨o,ho⟩))
 exact k .next _ _ _ h' ⟨tk2.toks+1,tk2.drawn,tk2.gens⟩ R4 (F3.off (fp:=[C]) (fun b hb=>by simp at hb;subst hb;exact o.2.2.2) (BH (Heap.SameBut.kp hs'))) rfl (q D)
end
theorem AS.repl{h:Heap}{xs:List V}{vs:List VX}(r:AS h xs vs):∀ k,AS h (Xd k xs).flatten (Xd k vs).flatten
 | 0=>rfl
 | k+1=>by rw[Xe,Xe,Xf,Xf];exact r.append (AS.repl r k)
structure Base(c:Ctx)(K:Frag):Prop where
 kin:c.Knows K.In
 glo:∃ mg,c.Knows fun h=>h.Ns Xg mg
 bui:∃ mb,(c.Knows fun h=>h.Ns Xh mb)/\∀ x:Str,x≠"__name__"->mb x=bootBuiltins x
 lim:c.Knows Wz
 g:c.env.globals=Xg
 b:c.env.builtins=Xh
noncomputable def BK(x:Str)(u:V)(m:Lo):Prop:=m.lookup x=some u
theorem BK.head{x:Str}{u:V}(m:Lo):BK x u ((x,u)::m):=Cg m
theorem BK.tail{x y:Str}{u w:V}{m:Lo}(h:x≠y)(q:BK x u m):BK x u ((y,w)::m):=Cf h q
theorem BK.eq{x:Str}{u:V}{m:Lo}(h:BK x u m):m.lookup x=some u:=h
theorem AI.of{m m':Lo}{H H':Hp}(hm:∀ x u,(x,u)∈m'->BK x u m)(hH:Xj H' H):AI m H m' H':=by
 refine⟨fun x u e=>(hm x u ?_).eq,fun p hp=>hH.subset hp,fun nd=>?_⟩
 .exact mem_of_lookup e
 .exact nd.sublist (hH.map _)
section
variable{c:Ctx}{m:Lo}{H:Hp}{pos:Pos}{Q:V->Lo->Hp->Prop}{K:Frag}
theorem Base.glob(B:Base c K){x:Str}{u:At}{v:VX}(hk:c.env.kindOf x=some .globalImplicit)(e:nsIn K Xg x=some (some v))(hr:u.rep v):An c x u:=by
 refine⟨hk,fun h hh s P hs k=>?_⟩
 obtain⟨mg,hg⟩:=B.glo
 subst hs
 exact loadGlobal_global (by rw[B.g];exact hg _ hh) (mg_of (B.kin _ hh) (hg _ hh) e) (k v hr)
theorem Base.bi(B:Base c K){x:Str}{u:At}{v:VX}(hk:c.env.kindOf x=some .globalImplicit)(e:nsIn K Xg x=some .none)(hb:bootBuiltins x=some v)(hn:x≠"__name__")(hr:u.rep v):An c x u:=by
 refine⟨hk,fun h hh s P hs k=>?_⟩
 obtain⟨mg,hg⟩:=B.glo
 obtain⟨mb,hm,hx⟩:=B.bui
 subst hs
 exact loadGlobal_builtin (by rw[B.g];exact hg _ hh) (mg_none_of (B.kin _ hh) (hg _ hh) e) (by rw[B.b];exact hm _ hh) ((hx x hn).trans hb) (k v hr)
theorem Base.enter(B:Base c K){fd:Wx}{a L:Addr}{k:Nat}{hf:c.fuel=k+1}{hk:fd.scope.kind=.function}(hg:fd.globals=Xg)(hb:fd.builtins=Xh):Base (c.enter fd a L k hf hk) K:=
 ⟨B.kin,B.glo,B.bui,B.lim,hg,hb⟩
theorem Base.comp(B:Base c K){scope:XG}{cl:List (Str×Addr)}{C:Addr}{hk:scope.kind=.function}:Base (c.comp scope cl C hk) K:=⟨B.kin,B.glo,B.bui,B.lim,B.g,B.b⟩
theorem BO{ns:List (Str×Wt)}(hn:c.env.scope.names=ns){x:Str}{k:Wt}(h:ns.lookup x=some k):c.env.kindOf x=some k:=by unfold Env.kindOf;rw[hn];exact h
theorem BA{ns:List (Str×Wt)}(hn:c.env.scope.names=ns){x:Str}{u:V}(hl:ns.lookup x=some .local)(hv:BK x u m)(h:Q u m H)(hd:autoParam ((x==("__debug__":Str))=false) BX):Af c (.Name x pos) m H Q:=Ll (BO hn hl) hv.eq h hd
theorem EX{b:Bool}{A B:Prop}(h1:b=true->A)(h0:b=false->B):if b then A else B:=by cases b;exact h0 rfl;exact h1 rfl
theorem No{x:Addr}{xs:List V}{k:Int}(hx:AK c H x (.list xs))(h:∀ a,Q (.ref a) m ((a,.list (Xd k.toNat xs).flatten)::H))(hk:-1000000<=k/\k<=1000000)(hsz:xs.length * k.toNat<=1000000):PO c .Mult (.ref x) (.int k) m H Q:=fun s va vb R ra rb=>by
 cases (ra:va=_);obtain⟨t,rfl⟩:=rb
 obtain⟨items,n,hl,hr⟩:=O.list_get (hx m s R)
 have hz:items.size=xs.length:=by rw[<- V9,hr.length]
 refine .new R (o:=.list (Xd k.toNat xs).flatten) (b:=fun a=>.ref a) h fun P kk=>?_
 refine wpAny_binaryOp_repeat_ref (T:="list") (U:="int") (by decide) ⟨_,hl,rfl⟩ (fun s'=>Xk s' k t) noFill_list_mul F.fills_int_mul F.slot_int_rmul repeat_list F.slot_int_index.lookup
  (Wh F.slot_int_rmul (Xk s k t) F.entry_int_rmul (F.args_int_rmul_2 _ _) (int___rmul___int_list k t x items n)
   ⟨hl,rfl,⟨_,hl,rfl⟩,Wh F.slot_list_mul ⟨_,hl,rfl⟩ F.entry_list_mul (F.args_list_mul_2 _ _)
    (AutoListH.list___mul___list_int_3 x items n k t (SZ (Fg hk)) (by rw[hz];exact WL.mpr (Yi hsz (by decide))) (by rw[hz];simp[Builtin.List.listTooLong,WS];exact AJ 1 (.l Y0 (.n 1000000)) (.l Y0 (.n 16777216)) [_] hsz))
    ⟨hl,kk _ _ _ s.toks AH (AR _) (O.list_mk (n:=0) (WR _ rfl) ?_) rfl⟩⟩)
 rw[listMul_foldl_if]
 exact AS.repl (R.liftL (.grow (H:=H) AH) hr) _
theorem FU.less{a:V}{α β:Type}{R:Heap->β->α->Prop}{t:VX->Sem α}{Q:β->Lo->Hp->Prop}{m':Lo}{H':Hp}(l:AI m H m' H')(h:FU c a R t m' H' Q):FU c a R t m H Q:=
 fun s va Rl r P k=>h s va (Rl.weaken l.1 l.2.1 (l.2.2 Rl.nd)) r P fun b v m' H2 h tk R' F r q=>k b v m' H2 h tk R' (F.less l.2.1) r q
theorem AK.less{H':Hp}{a:Addr}{o:O}{m':Lo}(l:AI m H m' H')(h:(a,o)∈H'):AK c H a o:=AK.mem (l.2.1 _ h)
noncomputable def Ab(m m':Lo):Prop:=∀ x u,(x,u)∈m'->BK x u m
theorem Ab.nil{m:Lo}:Ab m []:=fun _ _ q=>nomatch q
theorem Ab.loc{m m':Lo}(h:Ab m m'):∀ x u,(x,u)∈m'->BK x u m:=h
theorem Cy{m':Lo}{H':Hp}(hm:Ab m m')(hH:Xj H' H):AI m H m' H':=AI.of hm.loc hH
theorem AI.refl(m:Lo)(H:Hp):AI m H m H:=⟨fun _ _ e=>e,fun _ h=>h,id⟩
theorem TG{t:Expr}{a b r:List Stmt}{Q:Fl->Lo->Hp->Prop}(h:FT c t m H fun x m1 H1=>if x then AW c a m1 H1 fun f m2 H2=>match f with | .next=>AW c r m2 H2 Q|f=>Q f m2 H2 else AW c b m1 H1 fun f m2 H2=>match f with | .next=>AW c r m2 H2 Q|f=>Q f m2 H2):AW c (.If t a b pos::r) m H Q:=AB (EP h)
theorem D7{t iter:Expr}{b r:List Stmt}{Q:Fl->Lo->Hp->Prop}(h:Af c iter m H fun u m1 H1=>∃ a xs,u=.ref a/\∃ I:Nat->Lo->Hp->Prop,I 0 m1 H1/\(∀ i m2 H2,I i m2 H2->AK c H2 a (.list xs))/\(∀ i v m2 H2,xs[i]?=some v->I i m2 H2->Fs c t v m2 H2 fun m3 H3=>AW c b m3 H3 fun f m4 H4=>
   match f with | .next | .cont=>I (i+1) m4 H4 | .brk=>AW c r m4 H4 Q | .ret v=>Q (.ret v) m4 H4)/\∀ m2 H2,I xs.length m2 H2->AW c r m2 H2 Q)(ht:autoParam (Ae t=true) AV)(hs:autoParam (∀ x,WH iter c.env x=pure x) C4):AW c (.For t iter b [] pos::r) m H Q:=by
 refine AB (GE (Ff ht (h.mono ?_)) hs)
 rintro u m1 H1 ⟨a,xs,rfl,I,i0,sees,step,fin⟩
 refine⟨a,xs,rfl,sees 0 m1 H1 i0,I,i0,fun i m2 H2 hi hI=>⟨sees i m2 H2 hI,?_⟩,fun m2 H2 hI=>⟨sees _ m2 H2 hI,fin m2 H2 hI⟩⟩
 refine FU.mono (step i (xs.getD i .none) m2 H2 (by simp[WN,hi]) hI) fun _ m3 H3 q=>q.mono fun f m4 H4 q=>?_
 cases f<;>exact q
theorem FB{t iter:Expr}{b r:List Stmt}{Q:Fl->Lo->Hp->Prop}(h:Af c iter m H fun u m1 H1=>∃ x lo hi,u=.ref x/\AK c H1 x (.range lo hi 1)/\(-1000000<=lo/\lo<=1000000)/\(-1000000<=hi/\hi<=1000000)/\∃ I:Nat->Lo->Hp->Prop,I 0 m1 H1/\(∀ (i:Nat) m2 H2,lo+i<hi->I i m2 H2->Fs c t (.int (lo+i)) m2 H2 fun m3 H3=>AW c b m3 H3 fun f m4 H4=>
   match f with | .next | .cont=>I (i+1) m4 H4 | .brk=>AW c r m4 H4 Q | .ret v=>Q (.ret v) m4 H4)/\∀ m2 H2,I (hi-lo).toNat m2 H2->AW c r m2 H2 Q)(ht:autoParam (Ae t=true) AV)(hs:autoParam (∀ x,WH iter c.env x=pure x) C4):AW c (.For t iter b [] pos::r) m H Q:=by
 refine AB (GE (OH ht (h.mono ?_)) hs)
 rintro u m1 H1 ⟨x,lo,hi,rfl,sees,h1,h2,I,i0,step,fin⟩
 refine⟨x,lo,hi,rfl,sees,h1,h2,I,i0,fun i m2 H2 hi hI=>⟨trivial,?_⟩,fun m2 H2 hI=>⟨trivial,fin m2 H2 hI⟩⟩
 refine FU.mono (step i m2 H2 (P5 hi) hI) fun _ m3 H3 q=>q.mono fun f m4 H4 q=>?_
 cases f<;>exact q
theorem CW{st:Stmt}{r:List Stmt}{Q:Fl->Lo->Hp->Prop}(J:Lo->Hp->Prop)(h:DX c st m H fun f m1 H1=>match f with | .next=>J m1 H1|f=>Q f m1 H1)(k:∀ m1 H1,J m1 H1->AW c r m1 H1 Q):AW c (st::r) m H Q:=by
 refine AB fun s R P kk=>h s R P fun f v m' H' h tk R' F r q=>kk f v m' H' h tk R' F r ?_
 cases f with
 | next=>exact k m' H' q
 | brk=>exact q
 | cont=>exact q
 | ret u=>exact q
theorem KP{st:Stmt}{r:List Stmt}{Q:Fl->Lo->Hp->Prop}(m':Lo)(H':Hp)(h:DX c st m H fun f m1 H1=>match f with | .next=>AI m1 H1 m' H'|f=>Q f m1 H1)(k:AW c r m' H' Q):AW c (st::r) m H Q:=
 CW (fun m1 H1=>AI m1 H1 m' H') h fun m1 H1 l=>AW.less l k
theorem L9{e:Expr}{gens:List Comprehension}{scope:XG}{p p':Pos}{line:Nat}{x:Str}{ns:List (Str×Wt)}(hn:c.env.scope.names=ns)(hl:ns.lookup x=some .local)(hp:(p'.line==p.line)=true)(ha:(scope.names.any fun (n,k)=>n==x&&(k==.local || k==.cell))=false):WD (.ListComp e gens scope p) (some (.Name x p')) line c.env=pure true:=by
 have h1:c.env.blockKind=.function:=by unfold Env.blockKind;rw[c.hk];rfl
 show pure (c.env.blockKind==.function&&c.env.kindOf x==some .local&&p'.line==p.line&&!(scope.names.any fun (n,k)=>n==x&&(k==.local || k==.cell)))=(pure true:Sem Bool)
 rw[h1,BO hn hl,hp,ha];rfl
theorem AI.lift{H':Hp}{a:Addr}{o:O}(l:AI [] H [] H'):AI m ((a,o)::H) m ((a,o)::H'):=by
 refine⟨fun _ _ e=>e,fun p hp=>?_,fun nd=>?_⟩
 .rcases Vq.mp hp with e|e
  .exact e▸mS
  .exact mT (l.2.1 p e)
 .obtain⟨h1,h2⟩:=Vr.mp nd
  refine Vr.mpr ⟨fun q=>h1 ?_,l.2.2 h2⟩
  obtain⟨p,hp,e⟩:=Vm.mp q
  exact e▸Vm.mpr ⟨p,l.2.1 p hp,rfl⟩
structure Inner(c:Ctx)(scope:XG)(cl:List (Str×Addr))(c2:Ctx):Prop where
 names:c2.env.scope.names=(XW scope c.env).names
 cells:c2.env.cells=cl
 base:∀ K,Base c K->Base c2 K
 knows:∀ P,c.Knows P->c2.Knows P
 fuel:c2.fuel=c.fuel
 prog:c2.prog=c.prog
 w:c2.w=c.w
theorem Ctx.inner(c:Ctx)(scope:XG)(cl:List (Str×Addr))(C:Addr)(hk:scope.kind=.function):Inner c scope cl (c.comp scope cl C hk):=⟨rfl,rfl,fun _ B=>B.comp,fun _ k=>k,rfl,rfl,rfl⟩
noncomputable def JN(names ns:List (Str×Wt)):List (Str×Wt):=names.map fun x=>if x.2=.free/\ns.lookup x.1=some .cell then (x.1,.cell) else x
theorem Inner.named{scope:XG}{cl:List (Str×Addr)}{c2:Ctx}(h:Inner c scope cl c2){ns:List (Str×Wt)}(hn:c.env.scope.names=ns):c2.env.scope.names=JN scope.names ns:=by
 rw[h.names]
 unfold XW JN
 refine Xm fun x hx=>?_
 obtain⟨n,k⟩:=x
 have e:c.env.kindOf n=ns.lookup n:=by unfold Env.kindOf;rw[hn]
 have e2:(c.env.scope.kind==ScopeKind.function)=true:=by rw[c.hk];rfl
 dsimp only
 rw[e,e2]
 by_cases h1:k=.free<;>by_cases h2:ns.lookup n=some .cell<;>simp[h1,h2]
structure Called(c:Ctx)(fd:Wx)(L:Addr)(c2:Ctx):Prop where
 scope:c2.env.scope=fd.scope
 cells:c2.env.cells=Wy (L+1) fd.scope.names []
 base:∀ K,Base c K->fd.globals=Xg->fd.builtins=Xh->Base c2 K
 knows:∀ P,c.Knows P->c2.Knows P
 fuel:c.fuel=c2.fuel+1
 prog:c2.prog=c.prog
 w:c2.w=c.w
 locals:c2.env.locals=L
 code:c2.env.code=fd.code
theorem Ctx.called(c:Ctx)(fd:Wx)(fa L:Addr)(k:Nat)(hf:c.fuel=k+1)(hk:fd.scope.kind=.function):Called c fd L (c.enter fd fa L k hf hk):=⟨rfl,rfl,fun _ B hg hb=>B.enter hg hb,fun _ k=>k,hf,rfl,rfl,rfl,rfl⟩
theorem Aq{f:Addr}(B:Base c K)(hk:keepIn K (.ref f)=true):Ba c (.ref f) H:=fun m s vf R r=>by cases (r:vf=_);exact keeps_K hk _ (B.kin _ R.keep)
noncomputable def O8(c:Ctx)(elt:Expr)(ifs:List Expr)(m:Lo)(H:Hp)(Q:Option V->Hp->Prop):Prop:=DQ c ifs m H fun b m4 H4=>if b then Af c elt m4 H4 fun v _ H5=>Q (some v) H5 else Q .none H4
theorem Jy{scope:XG}{cl:List (Str×Addr)}{hk:scope.kind=.function}{t elt:Expr}{ifs:List Expr}{n:Nat}{x:Nat->V}{Ok:Hp->Prop}{H1 H':Hp}{Qf:List V->Hp->Prop}(f:Nat->Option V)(h0:∀ m,AI m H1 [] H')(hstep:∀ c2,Inner c scope cl c2->∀ i,i<n->Fs c2 t (x i) [] H' fun m3 H3=>O8 c2 elt ifs m3 H3 fun o H5=>o=f i/\AI [] H5 [] H')(hok:∀ H2,AI [] H2 [] H'->Ok H2)(hq:∀ H2,AI [] H2 [] H'->Qf ((Xn n).filterMap f) H2):CX c scope cl hk t elt ifs n x Ok H1 Qf:=fun C=>by
 refine⟨fun i ys H2=>ys=(Xn i).filterMap f/\AI [] H2 [] H',⟨rfl,h0 []⟩,fun i ys H2 hi hI=>⟨hok H2 hI.2,?_⟩,fun ys H2 hI=>⟨hok H2 hI.2,hI.1▸hq H2 hI.2⟩⟩
 obtain⟨rfl,hl⟩:=hI
 refine FU.less hl (FU.mono (hstep _ (c.inner scope cl C hk) i hi) fun _ m3 H3 q=>?_)
 have key:∀ (o:Option V) (H5:Hp),(o=f i/\AI [] H5 [] H')->(match o with|some v=>((Xn i).filterMap f++[v]=(Xn (i+1)).filterMap f/\AI [] H5 [] H') | .none=>((Xn i).filterMap f=(Xn (i+1)).filterMap f/\AI [] H5 [] H')):=by
  rintro o H5 ⟨rfl,hl⟩
  rw[Xo,Xp]
  cases q:f i with
  | none=>simp[q,hl]
  | some v=>simp[q,hl]
 have wm:∀ (l:List Expr) (m:Lo) (H:Hp) (Q Q':Bool->Lo->Hp->Prop),(∀ b m H,Q b m H->Q' b m H)->DQ (c.comp scope cl C hk) l m H Q->DQ (c.comp scope cl C hk) l m H Q':=by
  intro l
  induction l with
  | nil=>intro m H Q Q' hQ q;exact hQ _ _ _ q
  | cons e l ih=>intro m H Q Q' hQ q;exact FT.mono q fun b m1 H1 q=>by cases b;exact hQ _ _ _ q;exact ih _ _ _ _ hQ q
 refine wm _ _ _ _ _ (fun b m4 H4 q=>?_) q
 cases b with
 | false=>exact key .none H4 q
 | true=>exact Af.mono q fun v _ H5 q=>key (some v) H5 q
end
theorem Ab.k{m m':Lo}(h:autoParam (m'.map (fun p=>m.lookup p.1)=m'.map fun p=>some p.2) CZ):Ab m m':=fun _ _ q=>List.map_inj_left.mp h _ q
section
open PySem.SeqAt
section
variable{c:Ctx}{m:Lo}{H:Hp}{pos:Pos}{Q:V->Lo->Hp->Prop}{K:Frag}
theorem Ctx.hu0(c:Ctx):c.A.units<cLine:=by have:=c.hu;exact AJ 3 (.t (.a (.a Y0 (.m 40 Y1)) (.n 400)) Y2) (.t Y0 Y2) [_,_,_] this
theorem Ctx.hu1(c:Ctx):c.A.in1.units<cLine:=by have:=c.hu;show c.A.units+1<cLine;exact AJ 3 (.t (.a (.a Y0 (.m 40 Y1)) (.n 400)) Y2) (.t (.a Y0 N1) Y2) [_,_,_] this
theorem BI{k:IS}{h:Heap}{v:VX}(r:k.v.rep h v):HK k v=true:=by
 cases k with
 | i n=>exact r.elim fun t e=>e▸(show(n==n)=true from beq_self_eq_true n)
 | s x=>exact r.elim fun t e=>e▸(show(x==x)=true from beq_self_eq_true x)
theorem GG{k:IS}{h:Heap}{v:VX}(r:HK k v=true):k.v.rep h v:=by
 rcases BD r with ⟨n,t,rfl,rfl⟩|⟨x,t,rfl,rfl⟩
 .exact⟨t,rfl⟩
 .exact⟨t,rfl⟩
theorem Hl{k k':IS}{u v:VX}{A:Va}{s:Vb}(hu:HK k u=true)(hv:HK k' v=true):EqAt A s u v (decide (k=k')):=fun prog w E Q q=>(Ag prog w).eqBool hu hv q
end
end
section
open PySem.SeqAt
structure Cls(K:Frag)(C:Addr):Prop where
 pg:findIn K (.ref C) "__getattribute__" = some (some (.builtin "object.__getattribute__"))
 pa:findIn K (.ref C) "__getattr__" = some .none
 hd:hasDictIn K C=true
 po:plainOver K C=true
 sa:findIn K (.ref C) "__setattr__" = some (some (.builtin "object.__setattr__"))
noncomputable def At.notBi(x:At):Bool:=!Nat.beq x.ctorIdx 6
noncomputable def V.notBi(v:V):Bool:=@V.casesOn (fun _=>Bool) v At.notBi fun _ _=>true
theorem Md{u:V}{h:Heap}{v:VX}(hu:u.notBi=true)(r:u.rep h v):handedIn v=true:=by
 cases u with
 | «at» x=>
  cases x with
  | bi n=>exact Bool.noConfusion (show false=true from hu)
  | none=>cases (r:v=_);rfl
  | bool b=>cases (r:v=_);rfl
  | ty b=>cases (r:v=_);rfl
  | ref b=>cases (r:v=_);rfl
  | int i=>obtain⟨t,rfl⟩:=r;rfl
  | str i=>obtain⟨t,rfl⟩:=r;rfl
  | float i=>obtain⟨t,rfl,_⟩:=r;rfl
 | tup k xs=>obtain⟨a,items,rfl,_⟩:=r;rfl
theorem He:∀ (l l':List Str),l.Nodup->(∀ x∈l,x∈l')->l.length<=l'.length
 | [],_,_,_=>WJ _
 | x::l,l',nd,h=>by
  obtain⟨h1,h2⟩:=Vr.mp nd
  have hx:=h x mS
  have:=He l (l'.erase x) h2 fun y hy=>(Xq (a:=y) (b:=x) (fun e=>h1 (by rw[<- e];exact hy))).mpr (h y (mT hy))
  rw[Xr hx]at this
  have h9:=this
  have:0<l'.length:=Xs hx
  rw[bT];exact Nat.add_le_of_le_sub this h9
noncomputable def Dr(v:VX):Str:=@Value.casesOn (fun _=>Str) v .empty .empty .empty (fun _=>.empty) (fun _ _=>.empty) (fun _ _=>.empty) (fun n _=>n) (fun _ _=>.empty) (fun _=>.empty) (fun _=>.empty) fun _=>.empty
theorem Pn{h:Heap}{a:Addr}{mm:Str->Option VX}{fs:List (Str×V)}(hn:h.Ns1 a mm)(h1:∀ y,mm y=.none↔fs.lookup y=.none):∃ o es ep,h.get? a=some o/\o.data=.dict es ep/\es.size<=fs.length:=by
 obtain⟨o,es,ep,ho,hd,hk,hu,hf⟩:=hn
 refine⟨o,es,ep,ho,hd,?_⟩
 have key:∀ e∈es.toList,e.key.isStr (Dr e.key)=true:=fun e he=>by
  obtain⟨n,t,hkey⟩:=hk e (by simpa using he)
  rw[hkey];show(n==n)=true;exact beq_self_eq_true n
 have:=He (es.toList.map fun e=>Dr e.key) (fs.map (·.1)) ?_ ?_
 .simpa using this
 .rw[List.nodup_iff_pairwise_ne]
  refine XD.mpr ?_
  refine List.Pairwise.imp_of_mem (fun {a b} ha hb q e=>?_) hu
  exact q (Dr a.key) (key a ha) (e▸key b hb)
 .intro x hx
  obtain⟨e,he,rfl⟩:=Vm.mp hx
  have hne:mm (Dr e.key)≠.none:=by
   rw[<- hf]
   unfold nsFind findBy
   rw[<- Xv]
   cases q:es.toList.find? (fun x=>x.key.isStr (Dr e.key)) with
   | some y=>simp
   | none=>exact absurd (key e he) (by have:=Xw.mp q e he;simpa using this)
  cases q:fs.lookup (Dr e.key) with
  | none=>exact absurd ((h1 _).mpr q) hne
  | some u=>exact Vm.mpr ⟨_,mem_of_lookup q,rfl⟩
section
variable{c:Ctx}{m:Lo}{H:Hp}{pos:Pos}{Q:V->Lo->Hp->Prop}{K:Frag}
theorem II{x C d:Addr}{fs:List (Str×V)}{s:Vb}(hx:(O.inst C d).rep c.prog c.w s.heap x)(hd:(O.ns fs).rep c.prog c.w s.heap d):∃ ox od mm,InstAt s.heap x ox C (some od)/\ox.dict=some d/\s.heap.get? d=some od/\s.heap.Ns1 d mm/\(∀ y,lookIn y od=some (mm y))/\(∀ y,mm y=.none↔fs.lookup y=.none)/\∀ y u,fs.lookup y=some u->∃ v,mm y=some v/\u.rep s.heap v:=by
 obtain⟨ox,ho,hc,hdc,hp,_⟩:=hx
 obtain⟨mm,hn,h1,h2⟩:=hd
 obtain⟨od,es,ep,hod,hde,hk,huq,hf⟩:=id hn
 refine⟨ox,od,mm,⟨ho,hc,?_,?_⟩,hdc,hod,hn,?_,h1,h2⟩
 .obtain⟨a,b,dt,sl⟩:=ox;subst hp;rfl
 .rw[hdc];exact hod
 .intro y
  unfold lookIn
  rw[hde]
  dsimp only
  rw[<- hf y]
  unfold nsFind findBy
  rw[<- Xv]
  cases q:es.toList.find? (·.key.isStr y) with
  | some e=>rfl
  | none=>
   have:es.toList.any (·.refKey)=false:=by
    rw[List.any_eq_false]
    intro e he
    obtain⟨n,t,hkey⟩:=hk e (by simpa using he)
    simp[DictEntry.refKey,hkey]
   simp[this]
noncomputable abbrev PJ(c:Ctx)(u:V)(name:Str)(m:Lo)(H:Hp)(Q:V->Lo->Hp->Prop):Prop:=FU c u VR (fun v=>Xx v name true) m H Q
theorem EG{o:Expr}{name:Str}(h:Af c o m H fun u m1 H1=>PJ c u name m1 H1 Q)(he:autoParam (eval (.Attribute o name pos) c.env=(do let v <- eval o c.env;V1 pos.atName;let r <- V2 [v] (Xx v name true);Xy o v r;pure r)) CZ):Af c (.Attribute o name pos) m H Q:=
 fun s R P k=>Attribute_any_ (h s R _ fun a va m1 H1 h1 tk1 R1 F1 r1 q1=>q1 _ va R1 r1 P fun v v' m3 H3 h3 tk3 R3 F3 r3 q3=>k v v' m3 H3 h3 tk3 R3 (F1.trans R1.hasL F3) r3 q3) he
theorem K9{x C d:Addr}{fs:List (Str×V)}{name:Str}{u:V}(B:Base c K)(hC:Cls K C)(hf:findIn K (.ref C) name=some .none)(hx:AK c H x (.inst C d))(hd:AK c H d (.ns fs))(hu:fs.lookup name=some u)(h:Q u m H)(hb:autoParam (u.notBi=true) AV):PJ c (.ref x) name m H Q:=fun s va R r=>by
 cases (r:va=_)
 obtain⟨ox,od,mm,I,hdd,hod,hn,hl,h1,h2⟩:=II (hx m s R) (hd m s R)
 obtain⟨v,hv,hr⟩:=h2 name u hu
 refine .val R h fun P k=>get_value (B.kin _ R.keep) I hC.pg ?_ (Md hb hr) (k v _ hr)
 obtain⟨cd,hc,hdd⟩:=any_some hC.hd
 unfold findObj
 rw[hc,Xz,hf,Xz]
 dsimp only[Xz]
 unfold W.ownOf
 rw[hdd,if_pos rfl]
 show(lookIn name od).bind _=_
 rw[hl name,hv];rfl
theorem A9{x C d f:Addr}{fs:List (Str×V)}{name:Str}(B:Base c K)(hC:Cls K C)(hf:findIn K (.ref C) name=some (some (.ref f)))(hfn:typeIn K (.ref f)=some (.type "function"))(hx:AK c H x (.inst C d))(hd:AK c H d (.ns fs))(hu:fs.lookup name=.none):GM c (.ref x) name (.ref f) [.ref x] H:=fun m s vu pl P R r k=>by
 cases (r:vu=_)
 obtain⟨ox,od,mm,I,hdd,hod,hn,hl,h1,h2⟩:=II (hx m s R) (hd m s R)
 refine method_fn (B.kin _ R.keep) I hC.pg hC.pa hf hfn ?_ (k _ _ s.toks rfl (.one rfl))
 show(lookIn name od).map _=_
 rw[hl name,(h1 name).mpr hu];rfl
theorem Az{o:Expr}{name:Str}{v:V}{Q:Lo->Hp->Prop}(h:Af c o m H fun u m1 H1=>QZ c u v UR (fun a b=>setAttr a name b) m1 H1 fun _=>Q):Fs c (.Attribute o name pos) v m H Q:=
 fun s va R r P k=>kas_attr (h s R _ fun a vo m1 H1 h1 tk1 R1 F1 r1 q1=>q1 _ vo va R1 r1 (R.lift F1 r) _ fun b w m3 H3 h3 tk3 R3 F3 r3 q3=>k b w m3 H3 h3 tk3 R3 (F1.trans R1.hasL F3) r3 q3)
theorem Ay{x C d:Addr}{fs:List (Str×V)}{H':Hp}{name:Str}{v:V}{Q:Lo->Hp->Prop}(B:Base c K)(hC:Cls K C)(hf:findIn K (.ref C) name=some .none)(hx:AK c H x (.inst C d))(up:Cd d (.ns fs) (.ns ((name,v)::fs)) H H')(h:Q m H')(hz:autoParam (fs.length<=1000) RK):QZ c (.ref x) v UR (fun a b=>setAttr a name b) m H fun _=>Q:=fun s va vb R ra rb=>by
 cases (ra:va=_)
 obtain⟨ox,od,mm,I,hdd,hod,hn,hl,h1,h2⟩:=II (hx m s R) (R.obj _ _ up.mem)
 have X:=B.kin _ R.keep
 refine .upd R up (b:=()) h fun P k=>set_plain X I hC.sa ?_
 refine osa_open (s:={ s with toks:=s.toks+1 }) X I hC.po (r:=.none) (by unfold takerIn;rw[hf];rfl) fun b=>?_
 obtain⟨cd,hc,hdc⟩:=any_some hC.hd
 have hox:=I.at_
 have hcl:=I.cls
 have hno:=I.no
 obtain⟨oc,odi,oda,osl⟩:=ox
 dsimp only at hcl hdd
 subst hcl hdd
 refine Ve (WM (Ve (Ve (X1 hox (Ve (Looks.here (s:={ s with toks:=s.toks+1 }) (X3 X hc) ?_))))))
 rw[hdc]
 refine WM (a:=some d) (Ve (WM (Ve ?_)))
 refine wpAny_nsSet1 hn fun h' hn' hs'=>?_
 have g1:∀ y,(fun x=>if x=name then some vb else mm x) y=.none↔((name,v)::fs).lookup y=.none:=fun y=>by
  rw[Vt]
  cases q:y==name with
  | true=>simp[beq_iff_eq.mp q]
  | false=>
   have:y≠name:=fun e=>by subst e;simp at q
   simp only[this,if_false]
   exact h1 y
 obtain⟨o9,es9,ep9,ho9,hd9,hz9⟩:=Pn hn' g1
 refine Ve (wpAny_lookBehind (s:={ s with heap:=h',toks:=s.toks+1+1 }) ho9 (by rw[hd9];exact pastItsLine_dict (by rw[sizeLine_eq];simp at hz9;exact AL 2 (.l Y0 (.n 1000)) (.l Y1 (.a Y0 N1)) (.l Y1 (.a (.n 16777216) N1)) [_,_] hz hz9)) (WM ?_))
 refine k () h' _ (Heap.SameBut.kp hs') (hn'.elim fun o t9=>t9.elim fun _ t9=>t9.elim fun _ t9=>t9.elim fun ho _=>⟨o,ho⟩) (fun F=>?_) trivial
 refine⟨_,hn',g1,fun y u e=>?_⟩
 .rw[Vt]at e
  cases q:y==name with
  | true=>rw[q]at e;cases e;exact⟨vb,if_pos (beq_iff_eq.mp q),R.lift F rb⟩
  | false=>
   rw[q]at e
   have:y≠name:=fun e=>by subst e;simp at q
   obtain⟨w,hw,hr⟩:=h2 y u e
   exact⟨w,(if_neg this).trans hw,R.lift F hr⟩
end
end
section
open PySem.SeqAt
noncomputable def AM(K:Frag)(a:Addr):Wx:=match K.lookup a with
 | some ⟨_,_,.func fd,_⟩=>fd
 | _=>default
noncomputable def AU(fd:Wx):List Stmt:=match fd.body with
 | .stmts b=>b
 | _=>[]
noncomputable def Uj(K:Frag)(a:Addr)(fd:Wx):Bool:=codeIn K fd.code fd.qualname&&fd.closure.isEmpty&&(match fd.scope.kind with | .function=>true|_=>false)&&!fd.scope.isCoroutine&&!fd.scope.isGenerator&&(fd.globals==Xg)&&(fd.builtins==Xh)&&(match fd.body with | .stmts _=>true|_=>false)&&keepIn K (.ref a)
noncomputable def OZ(K:Frag)(a:Addr):Bool:=match K.lookup a with
 | some ⟨_,_,.func fd,_⟩=>Uj K a fd
 | _=>false
noncomputable def DA:List Str->Bool
 | []=>true
 | x::l=>!l.contains x&&DA l
theorem DO:∀ {l:List Str},DA l=true->l.Nodup
 | [],_=>X4
 | x::l,h=>by
  have h:(!l.contains x&&DA l)=true:=h
  rw[X5,X6]at h
  exact Vr.mpr ⟨by simpa using h.1,DO h.2⟩
structure FnOk(K:Frag)(fa:Addr)(fd:Wx):Prop where
 look:∃ o,K.lookup fa=some o/\o.data=.func fd
 code:codeIn K fd.code fd.qualname=true
 clo:fd.closure=[]
 kind:fd.scope.kind=.function
 co:fd.scope.isCoroutine=false
 gen:fd.scope.isGenerator=false
 glob:fd.globals=Xg
 bui:fd.builtins=Xh
 body:fd.body=.stmts (AU fd)
 keep:keepIn K (.ref fa)=true
theorem Bs{K:Frag}{a:Addr}(h:OZ K a=true):FnOk K a (AM K a):=by
 delta OZ at h
 delta AM
 cases q:K.lookup a with
 | none=>rw[q]at h;cases h
 | some o=>
  rw[q]at h
  obtain⟨oc,od,dat,osl⟩:=o
  cases dat with
  | func fd=>
   refine(fun (h:Uj K a fd=true)=>?_) h
   unfold Uj at h
   rw[X5,X5,X5,X5,X5,X5,X5,X5,X6,X6]at h
   obtain⟨⟨⟨⟨⟨⟨⟨⟨h1,h2⟩,h3⟩,h4⟩,h5⟩,h6⟩,h7⟩,h8⟩,h9⟩:=h
   refine⟨⟨_,q,rfl⟩,h1,by simpa using h2,?_,h4,h5,by simpa using h6,by simpa using h7,?_,h9⟩
   .show fd.scope.kind=_
    cases k:fd.scope.kind with
    | function=>rfl
    | _=>rw[k]at h3;cases h3
   .show fd.body=.stmts (AU fd)
    cases k:fd.body with
    | stmts b=>delta AU;rw[k]
    | _=>rw[k]at h8;cases h8
  | _=>cases h
theorem Cq:∀ {names:List (Str×Wt)} {n:Nat} {acc:List (Str×Addr)},(names.map (·.1)).Nodup->(∀ x∈acc,x.1∉names.map (·.1))->(∀ x∈acc,acc.lookup x.1=some x.2)->∀ x∈Wy n names acc,(Wy n names acc).lookup x.1=some x.2
 | [],n,acc,nd,hx,h=>h
 | (nm,k)::r,n,acc,nd,hx,h=>by
  obtain⟨n1,n2⟩:=Vr.mp nd
  unfold Wy
  split
  .refine Cq n2 (fun y hy q=>?_) (fun y hy=>?_)
   .rcases Vq.mp hy with e|e
    .subst e;exact n1 q
    .exact hx y e (by simp only[Vu];exact mT q)
   .rcases Vq.mp hy with e|e
    .subst e;simp[List.lookup]
    .rw[Vt]
     have:(y.1==nm)=false:=by
      have:y.1≠nm:=fun q=>hx y e (by rw[q];simp)
      simpa using this
     rw[this];exact h y e
  .exact Cq n2 (fun y hy q=>hx y hy (by simp only[Vu];exact mT q)) h
theorem Bp:∀ {names:List (Str×Wt)} {n:Nat} {acc:List (Str×Addr)} {x:Str},(names.lookup x=some .cell∨(acc.lookup x).isSome=true)->((Wy n names acc).lookup x).isSome=true
 | [],n,acc,x,h=>by
  rcases h with h|h
  .cases h
  .exact h
 | (nm,k)::r,n,acc,x,h=>by
  unfold Wy
  rw[Vt]at h
  cases q:x==nm with
  | true=>
   rw[q]at h
   split
   .exact Bp (.inr (by rw[Vt,q];rfl))
   .rename_i hk
    rcases h with h|h
    .cases h;exact absurd rfl hk
    .exact Bp (.inr h)
  | false=>
   rw[q]at h
   split
   .exact Bp (h.imp id fun h=>by rw[Vt,q];exact h)
   .exact Bp h
noncomputable def OE(names:List (Str×Wt))(ps:List Str):Bool:=ps.all fun x=>match names.lookup x with
 | some .local=>true
 | some .cell=>true
 | _=>false
section
variable{c:Ctx}{m:Lo}{H:Hp}{pos:Pos}{Q:V->Lo->Hp->Prop}{K:Frag}
theorem DE{fa:Addr}{fd:Wx}{vs:List V}{bs:List (Str×V)}{k:Nat}(B:Base c K)(hfu:c.fuel=k+1)(f:FnOk K fa fd)(hnd:DA (fd.scope.names.map (·.1))=true)(hks:OE fd.scope.names (bs.map (·.1))=true)(hbind:∀ s vvs,K.In s.heap->AS s.heap vs vvs->∃ binds,W0 s fd ⟨vvs,[]⟩ binds/\Em s.heap bs binds)(h:∀ L c2,Called c fd L c2->c2.fuel=k->Base c2 K->AW c2 (AU fd) (CY fd.scope.names bs) (Aw L fd bs++H) fun f _ H'=>Q f.val m H'):Ao c (.ref fa) vs m H Q:=by
 obtain⟨o,hf,hd⟩:=f.look
 refine Sy (bs:=bs) hfu (fun h hh=>⟨o,B.kin h hh _ _ hf,hd⟩) (fun h hh=>codeRec_of (B.kin h hh) f.code) B.lim f.body f.clo f.kind f.co f.gen (fun m H s vvs R r=>hbind s vvs (B.kin _ R.keep) r) ?_
  (fun n=>Cq (DO hnd) (fun _ q=>by cases q) (fun _ q=>by cases q)) (fun L=>h L _ (c.called fd fa L k hfu f.kind) rfl (B.enter f.glob f.bui))
 intro n x hx
 have:=X7.mp hks x.1 (Vm.mpr ⟨x,hx,rfl⟩)
 cases q:fd.scope.names.lookup x.1 with
 | none=>rw[q]at this;cases this
 | some k=>
  rw[q]at this
  cases k with
  | «local»=>exact .inl rfl
  | cell=>exact .inr ⟨rfl,Bp (.inl q)⟩
  | _=>cases this
theorem Ax{fd:Wx}{vs:List V}{ps:List Str}(hps:ps.length=vs.length)(h:∀ vvs:List VX,vvs.length=vs.length->X8 fd ⟨vvs,[]⟩=pure (ps.zip vvs))(s:Vb)(vvs:List VX)(X:K.In s.heap)(r:AS s.heap vs vvs) :
  ∃ binds,W0 s fd ⟨vvs,[]⟩ binds/\Em s.heap (ps.zip vs) binds:=by
 refine⟨ps.zip vvs,.of_eq (h vvs r.length),?_,?_⟩
 .have:=r.length
  rw[List.map_fst_zip (by exact AL 3 (.e Y0 Y1) (.e Y2 Y1) (.l Y0 Y2) [_,_,_] hps this),List.map_fst_zip (by exact AJ 2 (.e Y0 Y1) (.l Y0 Y1) [_,_] hps)]
 .have:=r.length
  rw[List.map_snd_zip (by exact AJ 2 (.e Y0 Y1) (.l Y1 Y0) [_,_] hps),List.map_snd_zip (by exact AL 3 (.e Y0 Y1) (.e Y2 Y1) (.l Y2 Y0) [_,_,_] hps this)]
  exact r
structure Made(c c2:Ctx):Prop where
 env:c2.env=c.env
 G:c2.G=c.G
 fuel:c.fuel=c2.fuel+1
 prog:c2.prog=c.prog
 w:c2.w=c.w
theorem Made.rel{c c2:Ctx}(h:Made c c2){st:St}{s:Vb}:Rel c st s↔Rel c2 st s:=by
 obtain⟨e1,e2,e3,e4,e5⟩:=h
 constructor
 .intro R
  exact⟨by rw[e1];exact R.loc,by rw[e4,e5];exact R.obj,R.nd,by rw[e1,e2];exact R.apart,by rw[e2];exact R.keep,by rw[e1,e2];exact R.gl,R.bare,R.tp⟩
 .intro R
  exact⟨by rw[<- e1];exact R.loc,by rw[<- e4,<- e5];exact R.obj,R.nd,by rw[<- e1,<- e2];exact R.apart,by rw[<- e2];exact R.keep,by rw[<- e1,<- e2];exact R.gl,R.bare,R.tp⟩
theorem Made.base{c c2:Ctx}(h:Made c c2)(B:Base c K):Base c2 K:=
 ⟨fun hp hh=>B.kin hp (by rw[<- h.G];exact hh),B.glo.imp fun _ k hp hh=>k hp (by rw[<- h.G];exact hh),B.bui.imp fun _ k=>⟨fun hp hh=>k.1 hp (by rw[<- h.G];exact hh),k.2⟩,fun hp hh=>B.lim hp (by rw[<- h.G];exact hh),by rw[h.env];exact B.g,by rw[h.env];exact B.b⟩
theorem Mp{C fI:Addr}{vs:List V}{k:Nat}(B:Base c K)(hfu:c.fuel=k+1)(hm:makesIn K C=true)(hi:findIn K (.ref C) "__init__" = some (some (.ref fI)))(hf:typeIn K (.ref fI)=some (.type "function"))(h:∀ c2 x d,Made c c2->c2.fuel=k->Base c2 K->Ao c2 (.ref fI) (.ref x::vs) m ((x,.inst C d)::(d,.ns [])::H) fun v m' H'=>v=.none/\Q (.ref x) m' H'):Ao c (.ref C) vs m H Q:=fun s vf vvs R rf rv P kont=>by
 cases (rf:vf=_)
 have X:=B.kin _ R.keep
 obtain⟨hp,g,d,t,os⟩:=s
 have dep:(c.A.under (.builtin "type.__call__" ⟨.ref C::vvs,[]⟩)).depth=c.A.depth+1:=rfl
 have uni:(c.A.under (.builtin "type.__call__" ⟨.ref C::vvs,[]⟩)).units=c.A.units+1:=rfl
 let c2:Ctx:=⟨c.prog,c.w,c.A.under (.builtin "type.__call__" ⟨.ref C::vvs,[]⟩),c.env,c.G,k,c.hh,(by have:=c.hd;rw[hfu]at this;rw[dep];exact AJ 3 (.t (.a Y0 (.a Y1 N1)) Y2) (.t (.a (.a Y0 N1) Y1) Y2) [_,_,_] this),(by have:=c.hu;rw[hfu]at this;rw[uni];exact AJ 3 (.t (.a (.a Y0 (.m 40 (.a Y1 N1))) (.n 400)) Y2) (.t (.a (.a (.a Y0 N1) (.m 40 Y1)) (.n 400)) Y2) [_,_,_] this),c.hk⟩
 have M:Made c c2:=⟨rfl,rfl,hfu,rfl,rfl⟩
 have g1:∀ b o,hp.get? b=some o->(hp.push X9).get? b=some o:=AH
 have R1:Rel c ⟨m,(hp.objs.size,.ns [])::H⟩ ⟨hp.push X9,g,d,t,os⟩:=R.new (s:=⟨hp,g,d,t,os⟩) ⟨t,d,g⟩ g1 (AR hp) ⟨_,Heap.Ns1.of_empty (Heap.Ns.new hp _),fun _=>⟨fun _=>rfl,fun _=>rfl⟩,fun _ _ e=>by cases e⟩
 have e1:(hp.push X9).objs.size=hp.objs.size+1:=by simp
 have R2:Rel c ⟨m,(hp.objs.size+1,.inst C hp.objs.size)::(hp.objs.size,.ns [])::H⟩ ⟨(hp.push X9).push (instObj C hp.objs.size),g,d,t,os⟩:=by
  have:=R1.new (s:=⟨hp.push X9,g,d,t,os⟩) (a:=(hp.push X9).objs.size) (o:=.inst C hp.objs.size) ⟨t,d,g⟩ (AH (o:=instObj C hp.objs.size)) (AR _) ⟨_,WR _ rfl,rfl,rfl,rfl,rfl⟩
  rwa [e1]at this
 have F0:Fp c.env.locals H ((hp.objs.size+1,.inst C hp.objs.size)::(hp.objs.size,.ns [])::H) hp ((hp.push X9).push (instObj C hp.objs.size)):=by
  have a:=Fp.new (L:=c.env.locals) (H:=H) (o:=.ns []) g1 (AR hp)
  have b:=Fp.new (L:=c.env.locals) (H:=(hp.objs.size,O.ns [])::H) (a:=(hp.push X9).objs.size) (o:=.inst C hp.objs.size) (AH (h:=hp.push X9) (o:=instObj C hp.objs.size)) (AR _)
  rw[e1]at b
  exact a.trans R1.hasL b
 refine(make_core (makes_of X hm) (YA X hi) (fun self=>bind_fn X self hf) (.inl rfl) ?_)
 have main:=h c2 (hp.objs.size+1) hp.objs.size M rfl (M.base B) _ _ _ (M.rel.mp R2) rfl (.cons rfl (R.liftL F0 rv)) (fun v s'=>v=.none/\P (.ref (hp.objs.size+1)) s') (fun b v m' H' h' tk' R' F' r' q'=>?_)
 .refine YB main fun r s' q=>?_
  cases r with
  | ok f=>cases f<;>first|exact q|exact q.elim
  | error e=>exact q.elim
 .obtain⟨rfl,q⟩:=q'
  cases (r':v=_)
  exact⟨rfl,kont (.ref (hp.objs.size+1)) _ m' H' h' tk' (M.rel.mpr R') (F0.trans R2.hasL F') rfl q⟩
end
end
section
open PySem.SeqAt
noncomputable def dictAt(es:List (IS×V))(k:IS):Option V:=(es.find? fun e=>decide (e.1=k)).map (·.2)
noncomputable def C3(es:List (IS×V))(k:IS):List (IS×V):=es.filter fun e=>decide (e.1≠k)
noncomputable def BQ(es:List (IS×V))(k:IS)(v:V):List (IS×V):=if es.any (fun e=>decide (e.1=k)) then es.map (fun e=>if e.1=k then (e.1,v) else e) else es++[(k,v)]
noncomputable abbrev Ai(h:Heap)(kvs:List (IS×VX))(es:List (IS×V)):Prop:=DV h es kvs
section
variable{h:Heap}{k:IS}{u:V}{v:VX}{es:List (IS×V)}{kvs:List (IS×VX)}
theorem Ai.nil(b:Ai h kvs []):kvs=[]:=List.map_eq_nil_iff.mp b.1
theorem Ai.length(b:Ai h kvs es):kvs.length=es.length:=by rw[<- V8 (f:=(·.1)),b.1,V8]
theorem Hy{e:IS×VX}:valueAt (e::kvs) k=if e.1=k then some e.2 else valueAt kvs k:=by
 unfold valueAt
 by_cases q:e.1=k
 .rw[List.find?_cons_of_pos (p:=fun e:IS×VX=>decide (e.1=k)) (decide_eq_true q),if_pos q];rfl
 .rw[List.find?_cons_of_neg (p:=fun e:IS×VX=>decide (e.1=k)) (fun h=>q (of_decide_eq_true h)),if_neg q]
theorem Bo{e:IS×V}:dictAt (e::es) k=if e.1=k then some e.2 else dictAt es k:=by
 unfold dictAt
 by_cases q:e.1=k
 .rw[List.find?_cons_of_pos (p:=fun e:IS×V=>decide (e.1=k)) (decide_eq_true q),if_pos q];rfl
 .rw[List.find?_cons_of_neg (p:=fun e:IS×V=>decide (e.1=k)) (fun h=>q (of_decide_eq_true h)),if_neg q]
theorem Ai.at(b:Ai h kvs es):(dictAt es k=.none↔valueAt kvs k=.none)/\∀ u,dictAt es k=some u->∃ v,valueAt kvs k=some v/\u.rep h v:=
 DV.ind (P:=fun es kvs=>(dictAt es k=.none↔valueAt kvs k=.none)/\∀ u,dictAt es k=some u->∃ v,valueAt kvs k=some v/\u.rep h v) ⟨⟨fun _=>rfl,fun _=>rfl⟩,fun _ e=>nomatch e⟩ (fun j w x es kvs hv _ ih=>by
  rw[Hy,Bo]
  by_cases q:j=k
  .rw[if_pos q,if_pos q];exact⟨⟨(fun e=>nomatch e),(fun e=>nomatch e)⟩,fun _ e=>⟨x,rfl,Option.some.inj e▸hv⟩⟩
  .rw[if_neg q,if_neg q];exact ih) b
theorem Ai.del(b:Ai h kvs es):Ai h (without kvs k) (C3 es k):=
 DV.ind (P:=fun es kvs=>Ai h (without kvs k) (C3 es k)) ⟨rfl,rfl⟩ (fun j w x es kvs hv _ ih=>by
  unfold C3 without at *
  by_cases q:j=k
  .rw[List.filter_cons_of_neg (by exact fun e=>of_decide_eq_true e q),List.filter_cons_of_neg (by exact fun e=>of_decide_eq_true e q)];exact ih
  .rw[List.filter_cons_of_pos (by exact decide_eq_true q),List.filter_cons_of_pos (by exact decide_eq_true q)];exact .mk hv ih) b
theorem Ai.snoc(hv:u.rep h v)(b:Ai h kvs es):Ai h (kvs++[(k,v)]) (es++[(k,u)]):=
 DV.ind (P:=fun es kvs=>Ai h (kvs++[(k,v)]) (es++[(k,u)])) (DV.mk (es:=[]) (kvs:=[]) hv ⟨rfl,rfl⟩) (fun _ _ _ _ _ hx _ ih=>.mk hx ih) b
theorem Ai.any(b:Ai h kvs es):kvs.any (fun e=>decide (e.1=k))=es.any (fun e=>decide (e.1=k)):=
 DV.ind (P:=fun es kvs=>kvs.any (fun e=>decide (e.1=k))=es.any (fun e=>decide (e.1=k))) rfl (fun _ _ _ _ _ _ _ ih=>by rw[List.any_cons,List.any_cons,ih]) b
theorem Ai.over(hv:u.rep h v)(b:Ai h kvs es):Ai h (kvs.map fun e=>if e.1=k then (e.1,v) else e) (es.map fun e=>if e.1=k then (e.1,u) else e):=
 DV.ind (P:=fun es kvs=>Ai h (kvs.map fun e=>if e.1=k then (e.1,v) else e) (es.map fun e=>if e.1=k then (e.1,u) else e)) ⟨rfl,rfl⟩ (fun j w x es kvs hx _ ih=>by
  rw[Vu,Vu]
  by_cases q:j=k
  .rw[if_pos q,if_pos q];exact .mk hv ih
  .rw[if_neg q,if_neg q];exact .mk hx ih) b
end
theorem Ai.put{h:Heap}{k:IS}{u:V}{v:VX}(hv:u.rep h v){es:List (IS×V)}{kvs:List (IS×VX)}(b:Ai h kvs es):Ai h (stored kvs k v) (BQ es k u):=by
 unfold stored BQ
 rw[b.any]
 split
 .exact b.over hv
 .exact b.snoc hv
theorem Jv{es:List (IS×V)}{k:IS}(h:dictAt es k=.none):es.any (fun e=>decide (e.1=k))=false:=by
 unfold dictAt at h
 rw[Option.map_eq_none_iff,Xw]at h
 rw[List.any_eq_false]
 exact h
section
variable{c:Ctx}{m:Lo}{H:Hp}{pos:Pos}{Q:V->Lo->Hp->Prop}{K:Frag}
theorem Am{d:Addr}{ep:Nat}{es:List (IS×V)}{s:Vb}(r:(O.dict ep es).rep c.prog c.w s.heap d):(d==sysModules)=false/\∃ kvs,s.heap.DictAt (Ag c.prog c.w) d kvs ep/\s.heap.DictOf (Ag c.prog c.w) d kvs/\Ai s.heap kvs es:=by
 obtain⟨h0,kvs,hm,h1,h2⟩:=r
 exact⟨h0,kvs,hm,hm.dictOf,h1,h2⟩
theorem Gp(B:Base c K)(h:∀ a,Q (.ref a) m ((a,.dict 0 [])::H)):Af c (.Dict [] [] pos) m H Q:=fun s R=>by
 refine .new R (o:=.dict 0 []) (b:=fun a=>.ref a) h fun P k=>wpAny_Dict_empty (k _ _ _ s.toks AH (AR _) ⟨?_,[],?_,rfl,rfl⟩ rfl)
 .obtain⟨mg,hg⟩:=B.glo
  obtain⟨o,es,ep,ho,_⟩:=hg _ R.keep
  have:=WB ho
  have e:Xg=3:=rfl
  rw[e]at this
  have h1:s.heap.objs.size≠1:=fun q=>by rw[q]at this;exact absurd this (by decide)
  exact beq_eq_false_iff_ne.mpr h1
 .exact⟨_,#[],WR _ rfl,⟨rfl,rfl,rfl⟩,rfl,(by intro e he;simp at he),.nil,(by simp)⟩
theorem Ea{a:Addr}{ep:Nat}{es:List (IS×V)}{name:Str}{id:String}(hx:AK c H a (.dict ep es))(slot:Slot "dict" name id)(hty:typeOf (.builtin id)=pure (.type "method_descriptor")):GM c (.ref a) name (.bi id) [.ref a] H:=fun m s vu pl P R r k=>by
 cases (r:vu=_)
 obtain⟨_,kvs,ha,hd,_⟩:=Am (hx m s R)
 obtain⟨o,des,ho,hex,_⟩:=ha
 exact We hd.typeIs F.plainAttrs_dict slot hty (fun b e=>by cases e;exact⟨_,ho,hex.2.1⟩) (k _ _ s.toks rfl (.one rfl))
theorem Jf{d:Addr}{ep:Nat}{es es':List (IS×V)}{F:O->Hp}{t:Sem VX}{s:Vb}{u:V}{v:VX}(R:Rel c ⟨m,H⟩ s)(sp:DF d (.dict ep es) H F)(h:∀ ep',Q u m (F (.dict ep' es')))(hv:u.rep s.heap v)(hw:∀ P:VX->Vb->Prop,(∀ h' tk kvs',h'.DictOf (Ag c.prog c.w) d kvs'->(∀ h,(∀ u v,V.rep s.heap u v->V.rep h u v)->Ai h kvs' es')->Vs d s.heap h'->P v { s with heap:=h',toks:=tk })->c.wp t P s):FJ c H s VR t Q:=fun P k=>by
 refine Ctx.wpT (hw _ fun h' tk kvs' hd hr hs (ht:s.toks<=tk)=>?_)
 obtain⟨ep',ha⟩:=hd.dictAt
 have al:∃ o,h'.get? d=some o:=ha.elim fun o t9=>t9.elim fun _ t9=>t9.elim fun ho _=>⟨o,ho⟩
 have Fp':Fp c.env.locals H (F (.dict ep' es')) s.heap h':=.upd (sp.upd _) (Heap.SameBut.kp hs) al
 refine k u v m (F (.dict ep' es')) h' (Bq s tk) (R.upd (Bq s tk) (sp.upd _) (Heap.SameBut.kp hs) al fun _=>?_) Fp' (R.lift Fp' hv) (h ep')
 obtain⟨h0,_⟩:=Am (R.obj _ _ (sp.upd (.dict 0 [])).mem)
 exact⟨h0,kvs',ha,(hr h' fun u v r=>R.lift Fp' r)⟩
theorem Ai.lift{h h':Heap}{kvs:List (IS×VX)}{es:List (IS×V)}(b:Ai h kvs es)(l:∀ u v,V.rep h u v->V.rep h' u v):Ai h' kvs es:=by
 refine⟨b.1,?_⟩
 have:∀ (us:List V) (vs:List VX),AS h us vs->AS h' us vs:=by
  intro us
  induction us with
  | nil=>intro vs r;exact r
  | cons u us ih=>rintro vs ⟨v,r,e,hv,hr⟩;exact⟨v,r,e,l u v hv,ih r hr⟩
 exact this _ _ b.2
theorem Ex{d:Addr}{ep:Nat}{es:List (IS×V)}{k:IS}{u:V}{F:O->Hp}(sp:DF d (.dict ep es) H F)(hn:dictAt es k=.none)(h:∀ ep',Q u m (F (.dict ep' (es++[(k,u)]))))(hz:es.length<=1000000):Ck c (.bi "dict.setdefault") [.ref d,k.v,u] m H Q:=fun s vf vvs R rf rv=>by
 cases (rf:vf=_)
 obtain⟨va,rest,rfl,ra,rr⟩:=rv
 obtain⟨vk,vu,rfl,rk,ru⟩:=AS.two rr
 cases (ra:va=_)
 obtain⟨h0,kvs,ha,hd,hp⟩:=Am (R.obj _ _ (sp.upd (.dict 0 [])).mem)
 refine Jf R sp h ru fun P kk=>YF YG hd.typeIs YH (YI _ _ _) (kt_meets_setdefault (Ag c.prog c.w) d (BI rk) h0 vu)
  ⟨kvs,hd,by rw[hp.length];have:WS=16777216:=rfl;exact AL 2 (.l Y0 (.n 1000000)) (.e Y1 (.n 16777216)) (.l Y0 Y1) [_,_] hz this,fun v e=>?_,fun _ h' hd' hs'=>kk h' _ _ hd' (fun h l=>?_) hs'⟩
 .rw[(hp.at.1.mp hn)]at e;cases e
 .have e:BQ es k u=es++[(k,u)]:=by unfold BQ;rw[Jv hn];rfl
  exact e▸(hp.lift l).put (l _ _ ru)
theorem Ew{d:Addr}{ep:Nat}{es:List (IS×V)}{k:IS}{u w:V}(hx:AK c H d (.dict ep es))(hn:dictAt es k=some w)(h:Q w m H)(hz:es.length<=1000000):Ck c (.bi "dict.setdefault") [.ref d,k.v,u] m H Q:=fun s vf vvs R rf rv=>by
 cases (rf:vf=_)
 obtain⟨va,rest,rfl,ra,rr⟩:=rv
 obtain⟨vk,vu,rfl,rk,ru⟩:=AS.two rr
 cases (ra:va=_)
 obtain⟨h0,kvs,ha,hd,hp⟩:=Am (hx m s R)
 obtain⟨v,hv,hr⟩:=hp.at.2 w hn
 refine .val R h fun P kk=>YF YG hd.typeIs YH (YI _ _ _) (kt_meets_setdefault (Ag c.prog c.w) d (BI rk) h0 vu)
  ⟨kvs,hd,by rw[hp.length];have:WS=16777216:=rfl;exact AL 2 (.l Y0 (.n 1000000)) (.e Y1 (.n 16777216)) (.l Y0 Y1) [_,_] hz this,fun v' e=>?_,fun e=>?_⟩
 .rw[hv]at e;cases e;exact kk _ _ hr
 .rw[hv]at e;cases e
theorem Qz{d:Addr}{ep:Nat}{es:List (IS×V)}{k:IS}{u:V}(hx:AK c H d (.dict ep es))(h:Q ((dictAt es k).getD u) m H):Ck c (.bi "dict.get") [.ref d,k.v,u] m H Q:=fun s vf vvs R rf rv=>by
 cases (rf:vf=_)
 obtain⟨va,rest,rfl,ra,rr⟩:=rv
 obtain⟨vk,vu,rfl,rk,ru⟩:=AS.two rr
 cases (ra:va=_)
 obtain⟨h0,kvs,ha,hd,hp⟩:=Am (hx m s R)
 refine .val R h fun P kk=>YF YK hd.typeIs YL (YM _ _ _) (YN (Ag c.prog c.w) d (BI rk) h0 vu) ⟨_,hd.mapOf,kk _ _ ?_⟩
 cases q:dictAt es k with
 | none=>rw[hp.at.1.mp q];exact ru
 | some w=>obtain⟨v,hv,hr⟩:=hp.at.2 w q;rw[hv];exact hr
theorem NO{v i:Expr}{d:Addr}{ep:Nat}{es:List (IS×V)}{k:IS}{u:V}(hx:AK c H d (.dict ep es))(hu:dictAt es k=some u)(h:Q u m H)(hs:autoParam (∀ o vk,WV i false (.ref o) vk=operate [.ref o,vk] (WW (.ref o) vk)) Ik):Sub c v i (.ref d) k.v m H Q:=fun s va vb R ra rb=>by
 cases (ra:va=_)
 obtain⟨h0,kvs,ha,hd,hp⟩:=Am (hx m s R)
 obtain⟨w,hw,hr⟩:=hp.at.2 u hu
 refine .val R h fun P kk=>tail_any hd.typeIs PySem.F.slot_dict_getitem.lookup (wpAny_getItem_of (BI rb) hd.mapOf hw (kk _ _ hr)) (hs _ _)
theorem Oo{d:Addr}{ep:Nat}{es:List (IS×V)}{k:IS}{u:V}{F:O->Hp}{Q:Lo->Hp->Prop}(sp:DF d (.dict ep es) H F)(hu:dictAt es k=some u)(h:∀ ep',Q m (F (.dict ep' (C3 es k))))(hz:es.length<=1000000):QZ c (.ref d) k.v UR delItem m H fun _=>Q:=fun s va vb R ra rb P kk=>by
 cases (ra:va=_)
 obtain⟨h0,kvs,ha,hd,hp⟩:=Am (R.obj _ _ (sp.upd (.dict 0 [])).mem)
 obtain⟨w,hw,hr⟩:=hp.at.2 u hu
 unfold delItem
 refine Vd ?_
 refine Ve (wpAny_sequenceKey hd.typeIs (by decide) ?_)
 refine Ve (YO (name:=YP "__delitem__") hd.typeIs YQ
  (YF YQ hd.typeIs PySem.F.entry_dict_delitem (PySem.F.args_dict_delitem_2 _ _) (meets_dict_delitem_pairs (Ag c.prog c.w) d (BI rb)) ⟨kvs,hd,by rw[hp.length];have:WS=16777216:=rfl;exact AL 2 (.l Y0 (.n 1000000)) (.e Y1 (.n 16777216)) (.l Y0 Y1) [_,_] hz this,by rw[hw];rfl,fun h' hd' hs'=>?_⟩))
 obtain⟨ep',ha'⟩:=hd'.dictAt
 have al:∃ o,h'.get? d=some o:=ha'.elim fun o t9=>t9.elim fun _ t9=>t9.elim fun ho _=>⟨o,ho⟩
 have Fp':Fp c.env.locals H (F (.dict ep' (C3 es k))) s.heap h':=.upd (sp.upd _) (Heap.SameBut.kp hs') al
 exact WM (kk () () m _ h' (Bq s (s.toks+1)) (R.upd _ (sp.upd _) (Heap.SameBut.kp hs') al (o':=.dict ep' (C3 es k)) fun _=>⟨h0,_,ha',(hp.lift fun u v r=>R.lift Fp' r).del⟩) Fp' trivial (h ep'))
end
end
section
open PySem.SeqAt
noncomputable def IS.a:IS->At
 | .i n=>.int n
 | .s x=>.str x
theorem IS.v_a(k:IS):k.v=.at k.a:=by cases k<;>rfl
section
variable{c:Ctx}{m:Lo}{H:Hp}{pos:Pos}{K:Frag}
theorem Ai.get{h:Heap}{es:List (IS×V)}{kvs:List (IS×VX)}{i:Nat}{e:IS×V}(b:Ai h kvs es):es[i]?=some e->∃ v,kvs[i]?=some (e.1,v)/\e.2.rep h v:=
 DV.ind (P:=fun es kvs=>∀ i,es[i]?=some e->∃ v,kvs[i]?=some (e.1,v)/\e.2.rep h v) (fun _ q=>nomatch (List.getElem?_nil.symm.trans q)) (fun k u v _ _ hv _ ih i=>by
  cases i with
  | zero=>exact fun q=>⟨v,(Option.some.inj q)▸rfl,(Option.some.inj q)▸hv⟩
  | succ i=>exact ih i) b i
theorem CK{H H1:Hp}{s:Vb}{h1:Heap}(F1:Fp c.env.locals H H1 s.heap h1){b:Addr}(hb:h1.get? b=.none):s.heap.get? b=.none:=by
 cases q:s.heap.get? b with
 | none=>rfl
 | some o=>obtain⟨o',e⟩:=F1.alive _ _ q;rw[hb]at e;cases e
theorem MY{t:Expr}{d it:Addr}{ep:Nat}{es:List (IS×V)}(ht:Ae t=true)(hne:d≠it):Iter c t (.ref it) [it] es.length (fun i=>(es.getD i (.i 0,.none)).1.v) (fun H=>AK c H d (.dict ep es)) (fun i h=>h.IsKeyIter it d i es.length ep) (fun i _ h=>h.IsKeyIter it d (i+1) es.length ep) where
 item:=fun i m H s hi R A ok j P k=>by
  obtain⟨h0,kvs,ha,hd,hp⟩:=Am (ok m s R)
  obtain⟨h1,h2,h3,_⟩:=A it (by simp)
  have hx:es[i]?=some (es.getD i (.i 0,.none)):=by simp[WN,hi]
  obtain⟨v,hv,hrv⟩:=hp.get hx
  obtain⟨oi,ho,_,hdi⟩:=_root_.id j
  refine wpAny_pyNext_dict_item (by rw[hp.length];exact j) ha hv fun key h' hk hit' hs'=>?_
  have R':=R.off (h':=h') (Bq s s.toks) ho (fun _ _ _ q=>by rw[hdi]at q;cases q.2) h1 h2 h3 (Heap.SameBut.kp hs')
  rw[hp.length]at hit'
  exact k key h' (Bq s s.toks) R' (BH (Heap.SameBut.kp hs')) (A.one (hit'.elim fun o t9=>t9.elim fun ho t9=>t9.elim fun _ hd=>⟨o,ho,fun _ _ _ q=>by rw[hd]at q;cases q.2⟩)) hit' (GG hk)
 go:=fun i v m H s R A j r P k=>by
  obtain⟨oi,ho,hc,hd⟩:=_root_.id j
  exact Dd ht ho hc hd (by decide) (k s.heap (Bq s s.toks) R (fun _ _ _ e=>e) A j r)
 done:=fun m H s R A ok j P k=>by
  obtain⟨h0,kvs,ha,hd,hp⟩:=Am (ok m s R)
  obtain⟨h1,h2,h3,_⟩:=A it (by simp)
  obtain⟨oi,ho,_,hdi⟩:=_root_.id j
  refine wpAny_pyNext_dict_end c.hh (by rw[hp.length];exact j) ha (by rw[<- hp.length];simp) fun h' hs'=>?_
  exact k h' (Bq s s.toks) (R.off (Bq s s.toks) ho (fun _ _ _ q=>by rw[hdi]at q;cases q.2) h1 h2 h3 hs') (BH hs')
 keep:=fun i h h' j hk=>j.at fun o e=>hk it (by simp) o e
 self:=fun s P j p=>wpAny_pyIter_keyiter j p
theorem SR{Q:V->Lo->Hp->Prop}{d:Addr}{ep:Nat}{es:List (IS×V)}(hx:AK c H d (.dict ep es))(h:∀ a,Q (.ref a) m ((a,.view "dict_keys" d)::H)):Ck c (.bi "dict.keys") [.ref d] m H Q:=fun s vf vvs R rf rv=>by
 cases (rf:vf=_)
 obtain⟨va,rfl,ra⟩:=rv.sole
 cases (ra:va=_)
 obtain⟨h0,kvs,ha,hd,hp⟩:=Am (hx m s R)
 exact .new R (o:=.view "dict_keys" d) (b:=fun a=>.ref a) h fun P k=>YF YR hd.typeIs PySem.F.entry_dict_keys (PySem.F.args_dict_keys_1 _) (kdl_meets_keys (Ag c.prog c.w) d h0) ⟨⟨kvs,hd⟩,k _ _ _ s.toks AH (AR _) ⟨_,WR _ rfl,rfl,rfl⟩ rfl⟩
theorem Px{Q:V->Lo->Hp->Prop}{d:Addr}{ep:Nat}{es:List (IS×V)}(hx:AK c H d (.dict ep es))(h:∀ a,Q (.ref a) m ((a,.view "dict_items" d)::H)):Ck c (.bi "dict.items") [.ref d] m H Q:=fun s vf vvs R rf rv=>by
 cases (rf:vf=_)
 obtain⟨va,rfl,ra⟩:=rv.sole
 cases (ra:va=_)
 obtain⟨h0,kvs,ha,hd,hp⟩:=Am (hx m s R)
 exact .new R (o:=.view "dict_items" d) (b:=fun a=>.ref a) h fun P k=>YF YS hd.typeIs PySem.F.entry_dict_items (PySem.F.args_dict_items_1 _) (meets_dict_items (Ag c.prog c.w) d h0) ⟨⟨kvs,hd⟩,k _ _ _ s.toks AH (AR _) ⟨_,WR _ rfl,rfl,rfl⟩ rfl⟩
theorem Pz{t e:Expr}(ht:Ae t=true){Q:Nat->(Nat->V)->(Hp->Prop)->Lo->Hp->Prop}(h:Af c e m H fun u m1 H1=>∃ a d ep es,u=.ref a/\AK c H1 a (.view "dict_keys" d)/\AK c H1 d (.dict ep es)/\Q es.length (fun i=>(es.getD i (.i 0,.none)).1.v) (fun H=>AK c H d (.dict ep es)) m1 H1):DU c t e m H Q:=fun s R P k=>by
 refine h s R _ fun u va m1 H1 h1 tk1 R1 F1 r1 q1=>?_
 obtain⟨a,d,ep,es,rfl,hv,hs,q⟩:=q1
 cases (r1:va=_)
 obtain⟨h0,kvs,ha,hd,hp⟩:=Am (hs m1 _ R1)
 refine kdl_pyIter_keys (hv m1 _ R1) ha ?_
 have hf:=R1.fresh (AR h1)
 refine k (.ref h1.objs.size) [h1.objs.size] _ _ _ _ _ m1 H1 _ tk1 (MY (d:=d) (ep:=ep) (es:=es) ht (WA ha.lt_size)) (R1.grow tk1 AH) (F1.trans R1.hasL (.grow AH))
  (fun b hb=>by simp at hb;subst hb;exact⟨hf.1,hf.2.1,hf.2.2,_,WR _ rfl,fun _ _ _ q=>by cases q.2⟩) (fun b hb=>by simp at hb;subst hb;exact CK F1 (AR h1)) ⟨_,WR _ rfl,rfl,by rw[hp.length];rfl⟩ q
noncomputable def UD(e:IS×At):IS×V:=(e.1,.at e.2)
theorem PT{h:Heap}{a:Addr}{k:IS}{u:At}{key v:VX}(ho:h.get? a=some { cls:=.type "tuple",data:=.seq #[key,v] })(hk:HK k key=true)(hv:u.rep v):(V.tup .none [k.a,u]).rep h (.ref a):=by
 refine⟨a,#[key,v],rfl,⟨_,0,ho,rfl,rfl⟩,key,[v],rfl,?_,v,[],rfl,hv,rfl⟩
 have:k.v.rep h key:=GG hk
 rw[IS.v_a]at this
 exact this
theorem Go:YT table "dict_itemiterator.__iter__" = some Wm.«dict_keyiterator.__iter__»:=YU (id':="dict_keyiterator.__iter__") (by kernel_rfl) rfl (by decide +kernel) (by kernel_rfl)
theorem Kh{ts:List Expr}{k1:Nat}{tp:Pos}{d it:Addr}{ep:Nat}{es:List (IS×At)}(hne:d≠it):Iter c (.Tuple ts k1 tp) (.ref it) [it] es.length (fun i=>.tup .none [(es.getD i (.i 0,.none)).1.a,(es.getD i (.i 0,.none)).2]) (fun H=>AK c H d (.dict ep (es.map UD)))
  (fun i h=>∃ ok ov,IsItemIter h it d i es.length ep ok ov) (fun i v h=>∃ ok ov a,v=.ref a/\IsItemIterOut h it d (i+1) es.length ep ok ov a) where
 item:=fun i m H s hi R A ok j P k=>by
  obtain⟨h0,kvs,ha,hd,hp⟩:=Am (ok m s R)
  have hlen:kvs.length=es.length:=by rw[hp.length];simp
  obtain⟨h1,h2,h3,_⟩:=A it (by simp)
  have hx:(es.map UD)[i]?=some (UD (es.getD i (.i 0,.none))):=by simp[WN,hi]
  obtain⟨v,hv,hrv⟩:=hp.get hx
  obtain⟨o1,o2,j⟩:=j
  refine wpAny_pyNext_items_item (ok:=o1) (ov:=o2) (by rw[hlen];exact j) ha hv fun key h' hk hit' ht' hsz hs'=>?_
  rw[hlen]at hit'
  have R':=R.off (h':=h') (Bq s s.toks) j (fun _ _ _ q=>by cases q.2) h1 h2 h3 hs'
  exact k _ h' (Bq s s.toks) R' (BH hs') (A.one ⟨_,hit',fun _ _ _ q=>by cases q.2⟩) ⟨_,_,_,rfl,hit'⟩ (PT ht' hk hrv)
 go:=fun i v m H s R A j r P k=>by
  obtain⟨o1,o2,a,rfl,j⟩:=j
  obtain⟨h1,h2,h3,_⟩:=A it (by simp)
  refine wpAny_letOwnedTupleGo_items j fun h' hit' hs'=>?_
  have R':=R.off (h':=h') (Bq s s.toks) j (fun _ _ _ q=>by cases q.2) h1 h2 h3 (Heap.SameBut.kp hs')
  exact k h' (Bq s s.toks) R' (BH (Heap.SameBut.kp hs')) (A.one ⟨_,hit',fun _ _ _ q=>by cases q.2⟩) ⟨_,_,hit'⟩ (CT A (BH (Heap.SameBut.kp hs')) r)
 done:=fun m H s R A ok j P k=>by
  obtain⟨h0,kvs,ha,hd,hp⟩:=Am (ok m s R)
  have hlen:kvs.length=es.length:=by rw[hp.length];simp
  obtain⟨h1,h2,h3,_⟩:=A it (by simp)
  obtain⟨o1,o2,j⟩:=j
  refine wpAny_pyNext_items_end c.hh (ok:=o1) (ov:=o2) (by rw[hlen];exact j) ha (by rw[<- hlen];simp) fun h' hs'=>?_
  exact k h' (Bq s s.toks) (R.off (Bq s s.toks) j (fun _ _ _ q=>by cases q.2) h1 h2 h3 hs') (BH hs')
 keep:=fun i h h' j hk=>j.elim fun a t9=>t9.elim fun b j=>⟨a,b,hk it (by simp) _ j⟩
 self:=fun s P j p=>by
  obtain⟨o1,o2,j⟩:=j
  have hT:s.TypeIs (.ref it) "dict_itemiterator":=⟨_,j,rfl⟩
  refine YV hT YW (YX YW hT Go ?_ (PySem.F.args_dict_itemiterator_iter_1 _))
  show Vc _ _ (ret (.ref it)) _ _ s
  exact WM ⟨_,rfl,"dict_itemiterator",_,hT,PySem.F.slot_dict_itemiterator_next.lookup,p⟩
theorem OI{ts:List Expr}{k1:Nat}{tp:Pos}{e:Expr}{Q:Nat->(Nat->V)->(Hp->Prop)->Lo->Hp->Prop}(h:Af c e m H fun u m1 H1=>∃ a d ep es,u=.ref a/\AK c H1 a (.view "dict_items" d)/\AK c H1 d (.dict ep (List.map UD es))/\Q es.length (fun i=>.tup .none [(es.getD i (.i 0,.none)).1.a,(es.getD i (.i 0,.none)).2]) (fun H=>AK c H d (.dict ep (es.map UD))) m1 H1):DU c (.Tuple ts k1 tp) e m H Q:=fun s R P k=>by
 refine h s R _ fun u va m1 H1 h1 tk1 R1 F1 r1 q1=>?_
 obtain⟨a,d,ep,es,rfl,hv,hs,q⟩:=q1
 cases (r1:va=_)
 obtain⟨h0,kvs,ha,hd,hp⟩:=Am (hs m1 _ R1)
 refine wpAny_pyIter_items (hv m1 _ R1) ha ?_
 have hf:=R1.fresh (AR h1)
 refine k (.ref h1.objs.size) [h1.objs.size] _ _ _ _ _ m1 H1 _ tk1 (Kh (d:=d) (ep:=ep) (es:=es) (WA ha.lt_size)) (R1.grow tk1 AH) (F1.trans R1.hasL (.grow AH))
  (fun b hb=>by simp at hb;subst hb;exact⟨hf.1,hf.2.1,hf.2.2,_,WR _ rfl,fun _ _ _ q=>by cases q.2⟩) (fun b hb=>by simp at hb;subst hb;exact CK F1 (AR h1)) ⟨.none,.none,by rw[hp.length,V8];exact WR _ rfl⟩ q
theorem MX{ts:List Expr}{k1:Nat}{tp:Pos}{a e it:Addr}{xs:List At}(hae:a≠e)(hai:a≠it)(hei:e≠it):Iter c (.Tuple ts k1 tp) (.ref e) [e,it] xs.length (fun i=>.tup .none [.int i,xs.getD i .none]) (fun H=>AK c H a (.list (xs.map .at)))
  (fun i h=>(∃ old,IsEnum h e it i old)/\h.IsListIter it a i) (fun i v h=>∃ x b,v=.ref b/\IsEnumOut h e it ((i:Int)+1) x b/\h.IsListIter it a (i+1)) where
 item:=fun i m H s hi R A ok j P k=>by
  obtain⟨items,n,hl,hr⟩:=O.list_get (ok m s R)
  obtain⟨h1,h2,h3,_⟩:=A e (by simp)
  obtain⟨g1,g2,g3,_⟩:=A it (by simp)
  have hx:(xs.map V.at)[i]?=some (.at (xs.getD i .none)):=by simp[WN,hi]
  obtain⟨v,hv,hrv⟩:=hr.get hx
  obtain⟨⟨old,j1⟩,j2⟩:=j
  obtain⟨oi,hoi,hci,hdi⟩:=_root_.id j2
  refine wpAny_pyNext_enum_item j1 j2 (IsL.isList hl) (by rw[<- WO];exact hv) hei fun h' he' hit' ht' hsz hs'=>?_
  have A2:Aj c H s.heap [e,it]:=A
  have off:∀ b o,b∉[e,it]->s.heap.get? b=some o->h'.get? b=some o:=fun b o hb q=>hs' b o (fun q=>hb (by simp[q])) (fun q=>hb (by simp[q])) q
  have R':Rel c ⟨m,H⟩ (sw s h' (Bq s (s.toks+1))):=by
   -- by two steps aside
   have lift:∀ u v,V.rep s.heap u v->V.rep h' u v:=fun u v r=>CT A2 off r
   exact R.off2 (Bq s (s.toks+1)) A2 off
  obtain⟨o',ho',hc',hd'⟩:=_root_.id hit'
  refine k _ h' (Bq s (s.toks+1)) R' off (fun b hb=>?_) ⟨_,_,rfl,he',hit'⟩ ?_
  .simp at hb
   rcases hb with rfl|rfl
   .exact⟨h1,h2,h3,_,he',fun _ _ _ q=>by cases q.2⟩
   .exact⟨g1,g2,g3,o',ho',fun _ _ _ q=>by rw[hd']at q;cases q.2⟩
  .exact⟨_,_,rfl,⟨_,0,ht',rfl,rfl⟩,_,[v],rfl,⟨_,rfl⟩,v,[],rfl,hrv,rfl⟩
 go:=fun i v m H s R A j r P k=>by
  obtain⟨x,b,rfl,j1,j2⟩:=j
  obtain⟨h1,h2,h3,_⟩:=A e (by simp)
  obtain⟨g1,g2,g3,_⟩:=A it (by simp)
  refine wpAny_letOwnedTupleGo_enum j1 fun h' he' hs'=>?_
  have off:∀ b o,b∉[e,it]->s.heap.get? b=some o->h'.get? b=some o:=fun b o hb q=>(hs'.2 b (fun q=>hb (by simp[q]))).trans q
  have hit':=j2.at (h':=h') fun o q=>(hs'.2 it (Wf hei)).trans q
  obtain⟨o',ho',hc',hd'⟩:=_root_.id hit'
  refine k h' (Bq s s.toks) (R.off2 (Bq s s.toks) A off) off (fun b hb=>?_) ⟨⟨x,by simpa using he'⟩,hit'⟩ (CT A off r)
  simp at hb
  rcases hb with rfl|rfl
  .exact⟨h1,h2,h3,_,he',fun _ _ _ q=>by cases q.2⟩
  .exact⟨g1,g2,g3,o',ho',fun _ _ _ q=>by rw[hd']at q;cases q.2⟩
 done:=fun m H s R A ok j P k=>by
  obtain⟨items,n,hl,hr⟩:=O.list_get (ok m s R)
  obtain⟨⟨old,j1⟩,j2⟩:=j
  refine wpAny_pyNext_enum_end c.hh j1 j2 (IsL.isList hl) (by rw[<- WO];simp[hr.length]) fun h' hs'=>?_
  have off:∀ b o,b∉[e,it]->s.heap.get? b=some o->h'.get? b=some o:=fun b o hb q=>hs' b o (fun q=>hb (by simp[q])) q
  exact k h' (Bq s s.toks) (R.off2 (Bq s s.toks) A off) off
 keep:=fun i h h' j hk=>⟨j.1.elim fun o j=>⟨o,hk e (by simp) _ j⟩,j.2.at fun o q=>hk it (by simp) o q⟩
 self:=fun s P j p=>j.1.elim fun o j=>wpAny_pyIter_enum j p
theorem LZ{ts:List Expr}{k1:Nat}{tp p1 p2:Pos}{arg:Expr}{Q:Nat->(Nat->V)->(Hp->Prop)->Lo->Hp->Prop}(hg:An c "enumerate" (.ty "enumerate"))(h:Af c arg m H fun u m1 H1=>∃ a xs,u=.ref a/\AK c H1 a (.list (List.map .at xs))/\Q xs.length (fun i=>.tup .none [.int i,xs.getD i .none]) (fun H=>AK c H a (.list (xs.map .at))) m1 H1)(he:autoParam (V3 [arg] c.env=[(false,eval arg c.env)]) AV):DU c (.Tuple ts k1 tp) (.Call (.Name "enumerate" p1) [arg] [] p2) m H Q:=fun s R P k=>by
 refine Call_Name1 (Vz c.hk hg.1 (hg.2 s.heap R.keep s _ rfl fun vf hvf=>?_) (by decide)) he
 cases (hvf:vf=_)
 refine Ya rfl (Yb (Yc (h s R _ fun u va m1 H1 h1 tk1 R1 F1 r1 q1=>Yd ?_)))
 obtain⟨a,xs,rfl,hs,q⟩:=q1
 cases (r1:va=_)
 obtain⟨items,n,hl,hr⟩:=O.list_get (hs m1 _ R1)
 refine call_enumerate_list (IsL.isList hl) fun h' he' hit' hsz hg'=>?_
 refine wpAny_pyIter_enum he' ?_
 have hal:a<h1.objs.size:=WB hl
 have f1:=R1.fresh (AR h1)
 have f2:=R1.fresh (Bk (h:=h1) (a:=h1.objs.size+1) (Vo _))
 obtain⟨o',ho',hc',hd'⟩:=_root_.id hit'
 refine k (.ref (h1.objs.size+1)) [h1.objs.size+1,h1.objs.size] _ _ _ _ _ m1 H1 h' tk1 (MX (a:=a) (xs:=xs) (WA (Ye hal)) (WA hal) (XZ _)) (R1.grow tk1 hg') (F1.trans R1.hasL (.grow hg'))
  (fun b hb=>?_) (fun b hb=>?_) ⟨⟨_,he'⟩,hit'⟩ q
 .simp at hb
  rcases hb with rfl|rfl
  .exact⟨f2.1,f2.2.1,f2.2.2,_,he',fun _ _ _ q=>by cases q.2⟩
  .exact⟨f1.1,f1.2.1,f1.2.2,o',ho',fun _ _ _ q=>by rw[hd']at q;cases q.2⟩
 .simp at hb
  rcases hb with rfl|rfl
  .exact CK F1 (Bk (Vo _))
  .exact CK F1 (AR h1)
end
end
section
open PySem.SeqAt
theorem Gz{xs:Array Nat}{j:Nat}(hs:∀ i k,i<k->k<xs.size->xs.getD i j<xs.getD k j):∀ (fuel lo hi:Nat),lo<=hi->hi<=xs.size->hi-lo<=fuel ->
  (∀ i,i<lo->xs.getD i j<j)->(∀ i,hi<=i->i<xs.size->j<=xs.getD i j) ->
  Yg xs j fuel lo hi<=xs.size/\(∀ i,i<Yg xs j fuel lo hi->xs.getD i j<j)/\∀ i,Yg xs j fuel lo hi<=i->i<xs.size->j<=xs.getD i j
 | 0,lo,hi,h1,h2,h3,h4,h5=>by
  have:lo=hi:=by exact AL 2 (.l Y0 Y1) (.l (.s Y1 Y0) (.n 0)) (.e Y0 Y1) [_,_] h1 h3
  subst this
  exact⟨h2,h4,h5⟩
 | fuel+1,lo,hi,h1,h2,h3,h4,h5=>by
  by_cases q:lo<hi
  .by_cases r:xs.getD ((lo+hi) / 2) j<j
   .rw[show Yg xs j (fuel+1) lo hi=Yg xs j fuel ((lo+hi) / 2+1) hi by
     show(if lo<hi then (if xs.getD ((lo+hi) / 2) j<j then Yg xs j fuel ((lo+hi) / 2+1) hi else _) else _)=_
     rw[if_pos q,if_pos r]]
    refine Gz hs fuel _ _ (by exact AL 3 (.t Y0 Y1) (.an (.l (.m 2 Y2) (.a Y0 Y1)) (.t (.a Y0 Y1) (.a (.m 2 Y2) (.n 2)))) (.l (.a Y2 N1) Y1) [_,_,_] q (half_le _)) h2 (by exact AL 4 (.l (.s Y0 Y1) (.a Y2 N1)) (.an (.l (.m 2 Y3) (.a Y1 Y0)) (.t (.a Y1 Y0) (.a (.m 2 Y3) (.n 2)))) (.l (.s Y0 (.a Y3 N1)) Y2) [_,_,_,_] h3 (half_le _)) (fun i hi'=>?_) h5
    by_cases e:i=(lo+hi) / 2
    .rw[e];exact r
    .exact Yh (hs i _ (by exact AL 2 (.t Y0 (.a Y1 N1)) (.no (.e Y0 Y1)) (.t Y0 Y1) [_,_] hi' e) (by exact Be 4 (.l Y0 Y1) (.t Y2 Y0) (.an (.l (.m 2 Y3) (.a Y2 Y0)) (.t (.a Y2 Y0) (.a (.m 2 Y3) (.n 2)))) (.t Y3 Y1) [_,_,_,_] h2 q (half_le _))) r
   .rw[show Yg xs j (fuel+1) lo hi=Yg xs j fuel lo ((lo+hi) / 2) by
     show(if lo<hi then (if xs.getD ((lo+hi) / 2) j<j then _ else Yg xs j fuel lo ((lo+hi) / 2)) else _)=_
     rw[if_pos q,if_neg r]]
    refine Gz hs fuel _ _ (by exact AL 3 (.t Y0 Y1) (.an (.l (.m 2 Y2) (.a Y0 Y1)) (.t (.a Y0 Y1) (.a (.m 2 Y2) (.n 2)))) (.l Y0 Y2) [_,_,_] q (half_le _)) (by exact Be 4 (.l Y0 Y1) (.t Y2 Y0) (.an (.l (.m 2 Y3) (.a Y2 Y0)) (.t (.a Y2 Y0) (.a (.m 2 Y3) (.n 2)))) (.l Y3 Y1) [_,_,_,_] h2 q (half_le _)) (by exact AL 4 (.l (.s Y0 Y1) (.a Y2 N1)) (.an (.l (.m 2 Y3) (.a Y1 Y0)) (.t (.a Y1 Y0) (.a (.m 2 Y3) (.n 2)))) (.l (.s Y3 Y1) Y2) [_,_,_,_] h3 (half_le _)) h4 (fun i hi' hn=>?_)
    by_cases e:i=(lo+hi) / 2
    .rw[e];exact AJ 2 (.no (.t Y0 Y1)) (.l Y1 Y0) [_,_] r
    .exact Yi (Nat.le_of_not_lt r) (W7 (hs _ i (by exact AL 2 (.l Y0 Y1) (.no (.e Y1 Y0)) (.t Y0 Y1) [_,_] hi' e) hn))
  .rw[show Yg xs j (fuel+1) lo hi=lo by
    show(if lo<hi then _ else lo)=_
    rw[if_neg q]]
   have:lo=hi:=by exact AL 2 (.l Y0 Y1) (.no (.t Y0 Y1)) (.e Y0 Y1) [_,_] h1 q
   subst this
   exact⟨h2,h4,h5⟩
theorem Qg{xs:Array Nat}(h:xs.toList.Pairwise (·<·))(j:Nat):∀ i k,i<k->k<xs.size->xs.getD i j<xs.getD k j:=fun i k hik hk=>by
 have:=Yj.mp h i k (by simp;exact AL 3 (.t Y0 Y1) (.t Y1 Y2) (.t Y0 Y2) [_,_,_] hik hk) (by simpa using hk) hik
 simp[Yk,hk,Yh hik hk]at this ⊢
 exact this
theorem Gy{xs:Array Nat}(h:xs.toList.Pairwise (·<·))(j:Nat):Yf xs j<=xs.size/\(∀ i,i<Yf xs j->xs.getD i j<j)/\∀ i,Yf xs j<=i->i<xs.size->j<=xs.getD i j:=
 Gz (Qg h j) xs.size 0 xs.size (WJ _) (Vn _) (Vn _) (fun i hi=>absurd hi (Nat.not_lt_zero _)) (fun i h1 h2=>absurd h2 (by exact AJ 2 (.l Y0 Y1) (.no (.t Y1 Y0)) [_,_] h1))
theorem IJ{xs:Array Nat}(h:xs.toList.Pairwise (·<·)){j:Nat}(hj:xs[Yf xs j]?≠some j):(SetTable.insertAt xs (Yf xs j) j).toList.Pairwise (·<·):=by
 obtain⟨h1,h2,h3⟩:=Gy h j
 rw[SetTable.toList_insertAt]
 have ht:=Ym (Yf xs j) xs.toList
 rw[<- ht,Yn]at h
 obtain⟨p1,p2,p3⟩:=h
 have lt:∀ a∈xs.toList.take (Yf xs j),a<j:=fun a ha=>by
  obtain⟨i,hi,e⟩:=Yo.mp ha
  have QD:i<Yf xs j:=by simp at hi;exact AJ 3 (.t Y0 (.mn Y1 Y2)) (.t Y0 Y1) [_,_,_] hi
  have QC:i<xs.size:=by exact AL 3 (.l Y0 Y1) (.t Y2 Y0) (.t Y2 Y1) [_,_,_] h1 QD
  have:=h2 i QD
  rw[List.getElem_take]at e
  simp[Yk,QC]at this
  simp at e
  exact AL 3 (.e Y0 Y1) (.t Y0 Y2) (.t Y1 Y2) [_,_,_] e this
 have gt:∀ a∈xs.toList.drop (Yf xs j),j<a:=fun a ha=>by
  obtain⟨i,hi,e⟩:=Yo.mp ha
  simp at hi
  rw[List.getElem_drop]at e
  have hb:Yf xs j+i<xs.size:=by exact AJ 3 (.t Y0 (.s Y1 Y2)) (.t (.a Y2 Y0) Y1) [_,_,_] hi
  have:=h3 (Yf xs j+i) (by exact Bh 2 (.l Y0 (.a Y0 Y1)) [_,_]) hb
  simp[Yk,hb]at this
  simp at e
  rcases Yp j a with q|q
  .exact q
  .exfalso
   have ej:a=j:=by exact Be 3 (.e Y0 Y1) (.l Y2 Y0) (.l Y1 Y2) (.e Y1 Y2) [_,_,_] e this q
   subst ej
   cases i with
   | zero=>exact hj (by simp at e hb;simp[hb,e])
   | succ i=>
    have hb0:Yf xs a<xs.size:=by exact AJ 3 (.t (.a Y0 (.a Y1 N1)) Y2) (.t Y0 Y2) [_,_,_] hb
    have l0:=h3 (Yf xs a) (Vn _) hb0
    have l1:xs[Yf xs a]<xs[Yf xs a+(i+1)]:=by
     have:=Yj.mp (ht▸(Yn.mpr ⟨p1,p2,p3⟩)) (Yf xs a) (Yf xs a+(i+1)) (by simpa using hb0) (by simpa using hb) (by exact Bh 2 (.t Y0 (.a Y0 (.a Y1 N1))) [_,_])
     simpa using this
    simp[Yk,hb0]at l0
    exact Be 3 (.e Y0 Y1) (.t Y2 Y0) (.l Y1 Y2) .f [_,_,_] e l1 l0
 rw[Yn]
 refine⟨p1,?_,fun a ha b hb=>?_⟩
 .rw[Yq];exact⟨gt,p2⟩
 .rcases Vq.mp hb with rfl|hb
  .exact lt a ha
  .exact Yh (lt a ha) (gt b hb)
theorem Jm(j:Nat):SetTable.has #[] j=false:=by unfold SetTable.has;simp
theorem GI{t:Vi}(hd:t.dummies=#[]){f:Nat->Int}{h:Int}:∀ (fuel:Nat) (p:SetTable.Probe) {j:Nat} {d:Option Nat},p.dummy=.none->Ys t f h fuel p=some (.empty j d)->t.slot j=.empty/\d=.none
 | 0,p,j,d,_,e=>(nomatch e)
 | fuel+1,p,j,d,hp,e=>by
  have hadv:∀ p:SetTable.Probe,p.dummy=.none->(t.advance p).dummy=.none:=fun p hp=>by unfold SetTable.advance;split<;>exact hp
  cases q:t.slot p.j with
  | empty=>
   have e2:some (Yu p.j p.dummy)=some (.empty j d):=by
    rw[<- e]
    show _=(match t.slot p.j with | .empty=>some (Yu p.j p.dummy) | .dummy=>_ | .live i=>if (f i==h)=true then _ else _)
    rw[q]
   injection e2 with e
   injection e with e1 e2
   subst e1
   exact⟨q,by rw[<- e2,hp]⟩
  | dummy=>
   exfalso
   unfold SetTable.slot at q
   dsimp only at q
   rw[hd,Jm]at q
   split at q<;>simp at q
  | live i=>
   have e2:(if (f i==h)=true then some (Yv p.j i (t.advance p)) else Ys t f h fuel (t.advance p))=some (.empty j d):=by
    rw[<- e]
    show _=(match t.slot p.j with | .empty=>_ | .dummy=>_ | .live i=>if (f i==h)=true then some (Yv p.j i (t.advance p)) else Ys t f h fuel (t.advance p))
    rw[q]
   split at e2
   .cases e2
   .exact GI hd fuel _ (hadv p hp) e2
theorem Mg{t:Vi}(hd:t.dummies=#[]){h:Int}{j:Nat}{b:Bool}(e:t.freeSlot h=some (j,b)):t.place[Yf t.place j]?≠some j:=by
 unfold SetTable.freeSlot at e
 generalize q:t.probe _ _ _=o at e
 cases o with
 | none=>cases e
 | some r=>
  cases r with
  | empty j' d=>
   obtain⟨h1,rfl⟩:=GI hd _ _ rfl q
   have e2:some (j',_)=some (j,b):=e
   injection e2 with e2
   injection e2 with e3 e4
   subst e3
   unfold SetTable.slot at h1
   dsimp only at h1
   intro hc
   rw[hc]at h1
   simp at h1
  | _=>cases e
theorem CA(t:Vi)(n:Nat):G7 (t.standIn n)/\(t.standIn n).led=t.led:=by
 refine⟨⟨?_,rfl⟩,rfl⟩
 show(Array.range n).toList.Pairwise _
 rw[Array.toList_range]
 exact Yw
theorem NL{t:Vi}(T:G7 t){j:Nat}(hj:t.place[Yf t.place j]?≠some j):G7 (t.put j).1/\(t.put j).1.led=t.led:=by
 refine⟨⟨IJ T.1 hj,?_⟩,rfl⟩
 show(if SetTable.has t.dummies j=true then _ else t.dummies)=#[]
 rw[T.2,Jm];rfl
theorem I4{t:Vi}(T:G7 t)(es:Array (Int×VX))(h:Int)(x:VX):G7 (layNew t es h x).2.1/\(layNew t es h x).2.1.led=t.led:=by
 unfold layNew
 generalize q:t.freeSlot h=o
 cases o with
 | none=>exact CA _ _
 | some p=>
  obtain⟨slot,wd⟩:=p
  have:=NL T (Mg T.2 q)
  dsimp only
  unfold SetTable.orStandIn
  split
  .exact this
  .refine⟨(CA _ _).1,?_⟩
   rw[(CA _ _).2];exact this.2
theorem L7{mask finger moves:Nat}{led plain:Bool}{hs:Array Int}{t:Vi}{o:Array Nat}(e:SetTable.laid mask finger moves led plain hs=some (t,o)):G7 t/\t.led=led:=by
 unfold SetTable.laid at e
 simp only[Option.bind_eq_bind,Option.bind_eq_some_iff,Option.pure_def,Yy,Prod.mk.injEq]at e
 obtain⟨ow,_,e1,_⟩:=e
 subst e1
 refine⟨⟨?_,rfl⟩,rfl⟩
 dsimp only
 rw[XD,List.pairwise_filterMap]
 refine Yw.imp ?_
 intro a b hab x hx y hy
 simp at hx hy
 obtain⟨u,_,rfl⟩:=hx
 obtain⟨v,_,rfl⟩:=hy
 exact hab
theorem KJ{t:Vi}(es:Array (Int×VX))(wanted:Nat):G7 (Yz t es wanted).2.1/\(Yz t es wanted).2.1.led=t.led:=by
 unfold Yz
 generalize q:t.relaid _ _=o
 cases o with
 | none=>exact CA _ _
 | some p=>
  obtain⟨t',order⟩:=p
  dsimp only
  split
  .exact L7 q
  .exact CA _ _
end
section
open PySem.SeqAt
noncomputable abbrev C8:=Array (Int×VX)×Nat×Vi
noncomputable def D6(ks:List IS)(k:IS):List IS:=if k∈ks then ks else ks++[k]
noncomputable def Bc(h:Heap)(a:Addr)(z:C8):Prop:=∃ o,h.get? a=some o/\o.ExactSet/\o.data=.set z.1 z.2.1 z.2.2
section
variable{prog:VY}{w:VZ}{A:Va}{E:VX->Vb->Prop}{s:Vb}
theorem SetInv.lay{es es1:Array (Int×VX)}{ep ep':Nat}{t t2:Vi}{ks:List IS}{k:IS}{x:VX}(I:SetInv prog w (es,ep,t) ks)(hk:k∉ks)(hkey:(Ag prog w).is k x=true)(hsc:x.scannable=true)(hroom:ks.length+1<Vj)(T:G7 t2)(hl:t2.led=t.led)(hf:t2.fits es1.size=true)(hp:ZA es1.toList (es.toList++[((Ag prog w).hash k,x)])):SetInv prog w (es1,ep',t2) (ks++[k]):=by
 have hsz:es1.size=ks.length+1:=by rw[<- V9,hp.length_eq,XS,V9];have:=I.size;simp at this ⊢;exact AJ 2 (.e Y0 Y1) (.e Y0 Y1) [_,_] this
 refine⟨(I.el.push hkey hsc).perm hp,fun k'=>?_,by simpa [hsz] using hroom,hf,by simpa using hsz,?_,T,by rw[hl];exact I.led⟩
 .have:=mem_push_iff (S:=fun k=>decide (k∈ks)) hkey (fun k'=>by rw[decide_eq_true_eq];exact I.mem k') hp k'
  simp only[<- this,W9,XQ,ZB,decide_eq_true_eq]
 .rw[XB];exact⟨I.nd,by simp,fun a ha b hb=>by simp at hb;subst hb;intro e;exact hk (e▸ha)⟩
theorem SetInv.perm{es es2:Array (Int×VX)}{ep ep':Nat}{t t2:Vi}{ks:List IS}(I:SetInv prog w (es,ep,t) ks)(T:G7 t2)(hl:t2.led=t.led)(hf:t2.fits es2.size=true)(hp:ZA es2.toList es.toList):SetInv prog w (es2,ep',t2) ks:=by
 have hsz:es2.size=es.size:=by rw[<- V9,hp.length_eq,V9]
 refine⟨I.el.perm hp,fun k'=>(I.mem k').trans ⟨fun t8=>t8.elim fun e t9=>t9.elim fun he q=>⟨e,hp.mem_iff.mpr he,q⟩,fun t8=>t8.elim fun e t9=>t9.elim fun he q=>⟨e,hp.mem_iff.mp he,q⟩⟩,by show es2.size<_;rw[hsz];exact I.lt,hf,by show es2.size=_;rw[hsz];exact I.size,I.nd,T,by rw[hl];exact I.led⟩
theorem Bc.put{h:Heap}{a:Addr}{z:C8}(r:Bc h a z)(es':Array (Int×VX))(t':Vi):Bc (h.update a (ZC es' t')) a (es',z.2.1+1,t'):=by
 obtain⟨o,ho,hex,hd⟩:=r
 have hg:(h.update a (ZC es' t')).get? a=some { o with data:=.set es' (z.2.1+1) t' }:=by
  have:=ZD (ZC es' t') ho (by rw[putSet_of es' t' hd];rfl)
  rw[putSet_of es' t' hd]at this;exact this
 exact⟨_,hg,hex,rfl⟩
theorem Bc.store{a:Addr}{z:C8}{es':Array (Int×VX)}{t':Vi}{Q:Unit->Vb->Prop}(r:Bc s.heap a z)(hb:es'.size<Vj)(h:Q () { s with heap:=s.heap.update a (ZC es' t') }):Vc (model prog w) A (storeSet a es' t') Q E s:=by
 obtain⟨o,ho,hex,hd⟩:=r
 exact wpAny_storeSet_of ho hd h (fits_of_scanBound hb)
theorem KE{g:Bool->Sem Unit}(hg:∀ (b:Bool) (s₁:Vb) (Q':Unit->Vb->Prop),Q' () s₁->Vc (model prog w) A (g b) Q' E s₁){a:Addr}{z:C8}{ks:List IS}(r:Bc s.heap a z){es1:Array (Int×VX)}{t2:Vi}(I:SetInv prog w (es1,z.2.1+1,t2) ks){wasDummy:Bool}{R:Option Bool->Vb->Prop}(h:∀ h' z',Vs a s.heap h'->Bc h' a z'->SetInv prog w z' ks->R (some true) { s with heap:=h' }) :
  Vc (model prog w) A (do
    storeSet a es1 t2
    if (!wasDummy&&t2.tooFull)=true then do
      g (Yz t2 es1 (ZE es1.size)).2.2
      storeSet a (Yz t2 es1 (ZE es1.size)).1 (Yz t2 es1 (ZE es1.size)).2.1
      pure (some true)
     else pure (some true)) R E s:=by
 refine Ve (r.store I.lt ?_)
 have r1:=r.put es1 t2
 have hsb1:=ZF s.heap a (ZC es1 t2)
 split
 .have hp:=relayAll_perm t2 es1 (ZE es1.size)
  have hf:=relayAll_fits t2 es1 (ZE es1.size)
  have ht:=KJ (t:=t2) es1 (ZE es1.size)
  generalize hRl:Yz t2 es1 (ZE es1.size)=Rl at hp hf ht ⊢
  obtain⟨es2,t3,gave⟩:=Rl
  dsimp only at hp hf ht ⊢
  have I2:SetInv prog w (es2,z.2.1+1+1,t3) ks:=I.perm ht.1 ht.2 hf hp
  refine Ve (hg _ _ _ ?_)
  refine Ve (Bc.store (s:={ s with heap:=s.heap.update a (ZC es1 t2) }) r1 I2.lt ?_)
  exact WM (h _ _ (hsb1.trans (ZF _ a _)) (r1.put es2 t3) I2)
 .exact WM (h _ _ hsb1 r1 I)
theorem HC{a:Addr}{z:C8}{ks:List IS}{k:IS}{x:VX}{Q:Bool->Vb->Prop}(hkey:(Ag prog w).is k x=true)(hsc:x.scannable=true)(r:Bc s.heap a z)(I:SetInv prog w z ks)(hroom:ks.length+1<Vj)(h:∀ h' z' b,Vs a s.heap h'->Bc h' a z'->SetInv prog w z' (D6 ks k)->Q b { s with heap:=h' }):Vc (model prog w) A (setAddHashed a x ((Ag prog w).hash k)) Q E s:=by
 obtain⟨es,ep,t⟩:=z
 obtain⟨o,ho,hex,hd⟩:=_root_.id r
 dsimp only at hd
 unfold setAddHashed setAddHashedIn
 refine Vd (Ve (ZG ho hd I.fits ?_))
 dsimp only
 rw[byScan_of hsc I.lt I.el]
 rw[if_pos rfl]
 unfold setAddByScan
 refine Ve ?_
 refine Ve (ZH ?_)
 refine Ve (wpAny_setScan_of hkey ho hd I.fits I.el ?_)
 cases hr:List.findIdx? (fun e=>(Ag prog w).is k e.2) es.toList with
 | some j=>
  dsimp only
  obtain⟨hj,hpj,_⟩:=List.findIdx?_eq_some_iff_getElem.mp hr
  have hk:k∈ks:=(I.mem k).mpr ⟨es.toList[j],ZJ hj,hpj⟩
  exact WM (WM (h s.heap (es,ep,t) _ (Heap.SameBut.refl a s.heap) r (by unfold D6;rw[if_pos hk];exact I)))
 | none=>
  dsimp only
  have hk:k∉ks:=fun hk=>by
   obtain⟨e,he,hp⟩:=(I.mem k).mp hk
   have:=List.findIdx?_eq_none_iff.mp hr e he
   rw[hp]at this;cases this
  have hput:D6 ks k=ks++[k]:=if_neg hk
  have hgw:∀ (b:Bool) {s₁:Vb} {Q':Unit->Vb->Prop},Q' () s₁->Vc (model prog w) A (match b with|true=>rule "set.scan.the-table-gave-way" | false=>pure ()) Q' E s₁:=
   fun b s₁ Q' hq=>by cases b<;>first|exact WM hq|exact ZH hq
  have hperm:=layNew_perm t es ((Ag prog w).hash k) x
  have hfits:=layNew_fits t es ((Ag prog w).hash k) x
  have ht:=I4 I.tame es ((Ag prog w).hash k) x
  generalize hL:layNew t es ((Ag prog w).hash k) x=L at hperm hfits ht ⊢
  obtain⟨es1,t1,wasDummy,gave⟩:=L
  dsimp only at hperm hfits ht ⊢
  rw[Wl]at hperm
  refine Ve (hgw _ ?_)
  have I1:∀ t2:Vi,G7 t2->t2.led=t1.led->t2.fits es1.size=true->SetInv prog w (es1,ep+1,t2) (ks++[k]):=fun t2 T e f=>I.lay hk hkey hsc hroom T (e.trans ht.2) f hperm
  have fin:∀ h' z',Vs a s.heap h'->Bc h' a z'->SetInv prog w z' (ks++[k])->∀ b,Q b { s with heap:=h' }:=fun h' z' h1 h2 h3 b=>h h' z' b h1 h2 (by rw[hput];exact h3)
  split
  .refine Ve ?_
   rw[hashByValue_scannable 8 hsc]
   refine WM ?_
   refine KE ?_ r (ks:=ks++[k]) (I1 _ ?_ ?_ ?_) ?_
   .intro b s₁ Q' hq;cases b<;>first|exact WM hq|exact ZH hq
   .split
    .exact ht.1
    .exact ht.1
   .split<;>rfl
   .split
    .exact hfits
    .exact SetTable.fits_plain_off hfits
   .intro h' z' hsb hS' hI;dsimp only;exact WM (fin h' z' hsb hS' hI _)
  .refine Ve (WM ?_)
   rw[show(if true=true then t1 else _)=t1 from if_pos rfl]
   refine KE ?_ r (ks:=ks++[k]) (I1 t1 ht.1 rfl hfits) ?_
   .intro b s₁ Q' hq;cases b<;>first|exact WM hq|exact ZH hq
   .intro h' z' hsb hS' hI;dsimp only;exact WM (fin h' z' hsb hS' hI _)
theorem SetInv.fresh(ep:Nat):SetInv prog w (#[],ep,.fresh 0 0 (!w.params.followText "set-order")) []:=
 ⟨fun e he=>by simp at he,fun k=>by simp,(by decide:0<Vj),by rfl,rfl,.nil,⟨.nil,rfl⟩,rfl⟩
end
end
section
open PySem.SeqAt
noncomputable def Cb(w:VZ):Obj:={ cls:=.type "set",dict:=none,data:=.set #[] 0 (.fresh 0 0 (!w.params.followText "set-order")) }
section
variable{prog:VY}{w:VZ}{A:Va}{E:VX->Vb->Prop}{s:Vb}
set_option maxHeartbeats 4000000 in
theorem HP{args:List VX}(hnc:ZK "set.__new__" ⟨.type "set" :: args,[]⟩=pure ()){Q₁:VX->Vb->Prop}(h:Q₁ (.ref s.heap.objs.size) { s with heap:=s.heap.push (Cb w) }) :
  Wq (model prog w) A (.call (.builtin "set.__new__") ⟨.type "set" :: args,[]⟩) (wants Q₁ E) s:=by
 refine ZL ?_
 show Vc _ A.in1 (do ZK "set.__new__" ⟨.type "set" :: args,[]⟩;again (.builtin "set.__new__" ⟨.type "set" :: args,[]⟩)) _ _ s
 refine Ve (ZM hnc (WM ⟨ZN ZO _,ZP PySem.F.entry_set_new ?_⟩))
 rw[ZQ ZO _]
 unfold Wm.«set.__new__» Builtin.Frozenset.newClass
 have hsub:=sub_set_self
 obtain⟨hp,g,d,tk,os⟩:=s
 dsimp only
 wp_walk
 refine ZR (WM ?_)
 dsimp only
 unfold newObj
 refine Ve (wpAny_alloc (WM ?_))
 exact WM h
set_option maxHeartbeats 4000000 in
theorem HQ{args:List VX}{Q:VX->Vb->Prop}(hct:checkTypeCall "set" ⟨args,[]⟩=pure ())(hnc:ZK "set.__new__" ⟨.type "set" :: args,[]⟩=pure ())(hchk:∀ {A:Va} {s:Vb} {self:VX} {Q:Unit->Vb->Prop},s.TypeIs self "set"->Q () s->Vc (model prog w) A (ZK "set.__init__" ⟨self::args,[]⟩) Q E s)(h:∀ A',A'.handled=A.handled->Vc (model prog w) A' (Wm.«set.__init__» ⟨.ref s.heap.objs.size::args,[]⟩) (fun fin s'=>fin=.done (.ret .none)/\Q (.ref s.heap.objs.size) s') E { s with heap:=s.heap.push (Cb w) }) :
  Vc (model prog w) A (call (.type "set") args) Q E s:=by
 obtain⟨c,tl,hmro⟩:=ZS.mro
 have hmade:=ZS.made
 have hsub:=ZS.sub
 refine Wr (ZL ?_)
 show Vc _ _ (callAny (.type "set") _) _ _ _
 refine WM ⟨ZT _ (by decide +kernel),ZP PySem.F.entry_type_call ?_⟩
 rw[Around.under_plain (weight_type_call_type "set" args []) rfl]
 have h1:=ZS.notType
 have h2:=ZS.canCreate
 repeat (any_goals (first|assumption|wp_step))
 refine YB (HP hnc (E:=E) (Q₁:=fun obj s₁=>obj=.ref s.heap.objs.size/\s₁={ s with heap:=s.heap.push (Cb w) }) ⟨rfl,rfl⟩) fun r s₁ hr=>?_
 cases r with
 | error e=>exact hr
 | ok fl=>
  cases fl with
  | ret obj=>
   obtain⟨rfl,rfl⟩:=hr
   have hS:(s.heap.push (Cb w)).get? s.heap.objs.size=some (Cb w):=WR _ rfl
   have hT:ZU { s with heap:=s.heap.push (Cb w) } (.ref s.heap.objs.size) "set":=⟨_,hS,rfl⟩
   have hli:=ZS.init.lookup
   have hbi:=ZS.init.bind (.ref s.heap.objs.size)
   repeat (any_goals (first|assumption|wp_step))
   refine YB (ZV (R:=wants (fun r s₂=>r=.none/\Q (.ref s.heap.objs.size) s₂) E) ZS.init.plain PySem.F.entry_set_init (hchk hT ?_)) fun r₂ s₂ hr₂=>?_
   .refine Vv (h _ ?_) (fun fin s' q=>?_) (fun _ _ q=>q)
    .rfl
    .obtain⟨rfl,q⟩:=q
     exact⟨rfl,q⟩
   .cases r₂ with
    | error e=>exact hr₂
    | ok fl₂=>
     cases fl₂ with
     | ret r=>
      obtain⟨rfl,hq⟩:=hr₂
      repeat (any_goals (first|assumption|wp_step))
     | _=>exact hr₂.elim
  | _=>exact hr.elim
end
end
section
open PySem.SeqAt
theorem Hk{k:IS}{v:VX}(h:HK k v=true):v.scannable=true:=by
 rcases BD h with ⟨n,t,rfl,rfl⟩|⟨x,t,rfl,rfl⟩<;>rfl
section
variable{prog:VY}{w:VZ}{A:Va}{s:Vb}{R:XF->Vb->Prop}
end
section
variable{c:Ctx}{m:Lo}{H:Hp}{pos:Pos}{K:Frag}{Q:V->Lo->Hp->Prop}
theorem DH{prog:VY}{w:VZ}{h:Heap}{a:Addr}{z:C8}{ks:List IS}(r:(O.set z ks).rep prog w h a):Bc h a z/\SetInv prog w z ks:=r.elim fun o t9=>t9.elim fun ho t9=>t9.elim fun hx t9=>t9.elim fun hd i=>⟨⟨o,ho,hx,hd⟩,i⟩
theorem RU{prog:VY}{w:VZ}{h:Heap}{a:Addr}{z:C8}{ks:List IS}(r:Bc h a z)(i:SetInv prog w z ks):(O.set z ks).rep prog w h a:=r.elim fun o t9=>t9.elim fun ho t9=>t9.elim fun hx hd=>⟨o,ho,hx,hd,i⟩
set_option maxHeartbeats 2000000 in
theorem OF(h:∀ a z,Q (.ref a) m ((a,.set z [])::H)):Ck c (.ty "set") [] m H Q:=fun s vf vvs R rf rv=>by
 cases (rf:vf=_)
 cases (rv:vvs=_)
 refine .new R (o:=.set (#[],0,.fresh 0 0 (!c.w.params.followText "set-order")) []) (b:=fun a=>.ref a) (fun a=>h a _) fun P k=>HQ PySem.F.typeCall_set_0 PySem.F.newCall_set_0 check_set_init fun A' _=>?_
 have hS:(s.heap.push (Cb c.w)).get? s.heap.objs.size=some { cls:=.type "set",dict:=none,data:=.set #[] 0 (.fresh 0 0 (!c.w.params.followText "set-order")) }:=WR _ rfl
 have hT:ZU { s with heap:=s.heap.push (Cb c.w) } (.ref s.heap.objs.size) "set":=⟨_,hS,rfl⟩
 have fin:=k s.heap.objs.size (.ref s.heap.objs.size) (s.heap.push (Cb c.w)) s.toks AH (AR _) ⟨_,hS,⟨rfl,rfl,rfl⟩,rfl,SetInv.fresh 0⟩ rfl
 unfold Wm.«set.__init__» noKeywords
 wp_walk
 exact⟨rfl,fin⟩
set_option maxHeartbeats 4000000 in
theorem Sm{a:Addr}{z:C8}{ks:List IS}{name:Str}{id:String}(hx:AK c H a (.set z ks))(slot:Slot "set" name id)(hty:typeOf (.builtin id)=pure (.type "method_descriptor")):GM c (.ref a) name (.bi id) [.ref a] H:=fun m s vu pl P R r k=>by
 cases (r:vu=_)
 obtain⟨⟨o,ho,hex,hd⟩,I⟩:=DH (hx m s R)
 exact We ⟨o,ho,hex.1⟩ PySem.F.plainAttrs_set slot hty (fun b e=>by cases e;exact⟨_,ho,hex.2.1⟩) (k _ _ s.toks rfl (.one rfl))
theorem Tg{a:Addr}{z:C8}{ks:List IS}{k:IS}{F:O->Hp}(sp:DF a (.set z ks) H F)(hz:ks.length<=1000)(h:∀ z',Q .none m (F (.set z' (D6 ks k)))):Ck c (.bi "set.add") [.ref a,k.v] m H Q:=fun s vf vvs R rf rv P kk=>by
 cases (rf:vf=_)
 obtain⟨va,vk,rfl,ra,rk⟩:=AS.two rv
 cases (ra:va=_)
 obtain⟨⟨o,ho,hex,hd⟩,I⟩:=DH (R.obj _ _ (sp.upd (.set z ks)).mem)
 have hk:=BI rk
 refine YX ZW ⟨o,ho,hex.1⟩ PySem.F.entry_set_add ?_ (PySem.F.args_set_add_2 _ _)
 unfold Wm.«set.add» ZX
 simp only[List.isEmpty_nil,bind_assoc]
 unfold ZY setAdd
 refine Ve (WM ?_)
 try dsimp only
 refine Ve (WM ?_)
 try dsimp only
 refine Ve ?_
 refine Vd ?_
 refine Ve ((Ag c.prog c.w).pyHash hk ?_)
 refine HC (s:={ s with toks:=s.toks+1 }) hk (Hk hk) ⟨o,ho,hex,hd⟩ I (by have:Vj=4096:=rfl;exact AL 2 (.l Y0 (.n 1000)) (.e Y1 (.n 4096)) (.t (.a Y0 N1) Y1) [_,_] hz this) fun h' z' b hs' r' I'=>?_
 have al:∃ o,h'.get? a=some o:=r'.elim fun o t9=>t9.elim fun ho _=>⟨o,ho⟩
 show Vc _ _ (ret ZZ) _ _ _
 exact WM ⟨_,rfl,kk .none _ m _ h' (Bq s (s.toks+1)) (R.upd _ (sp.upd _) (Heap.SameBut.kp hs') al fun _=>RU r' I') (.upd (sp.upd _) (Heap.SameBut.kp hs') al) rfl (h z')⟩
end
end
section
open PySem.SeqAt
theorem Au:Slot "set_iterator" "__next__" "set_iterator.__next__":=
 .of (owner:="set_iterator") (n:="__next__") (by rw[Za,Zb];kernel_rfl) (by decide +kernel) (by decide +kernel) (by decide +kernel)
  (by first|exact .inl (by decide +kernel)|exact .inr (by decide +kernel)) (by rw[Zc];kernel_rfl)
theorem CE:YT table "set_iterator.__next__" = some Wm.«set_iterator.__next__»:=Zd (by kernel_rfl)
theorem MQ:Manifest.owners.lookup (String.ofList ['r','o','t','a','r','e','t','i','_','t','e','s'].reverse)=some Manifest.sig_set_iterator:=by kernel_rfl
theorem CO(a:VX):Ze "set_iterator.__next__" ⟨[a],[]⟩:=by
 unfold Ze;rw[signature?_of (id:="set_iterator.__next__") (n:=['_','_','t','x','e','n','_','_']) (o:=['r','o','t','a','r','e','t','i','_','t','e','s']) (by kernel_rfl) MQ];kernel_rfl
theorem Gm:YT table "set.__iter__" = some Wm.«frozenset.__iter__»:=
 YU (id':="frozenset.__iter__") (by kernel_rfl) rfl (by decide +kernel) (by kernel_rfl)
section
variable{prog:VY}{w:VZ}{A:Va}{E:VX->Vb->Prop}{s:Vb}
theorem wp_choose{src:Source}{n:Nat}{M:Wd}{Q:Nat->Vb->Prop}(hn:n≠0)(h:∀ i,i<n->Q i { s with drawn:=s.drawn.bump src }):Vc M A (choose src n) Q E s:=fun Γ p _=>by
 unfold choose
 rw[Sem.wp_choose]
 exact⟨hn,h _ (Nat.mod_lt _ (Zf hn))⟩
theorem Gj{α:Type}{l:List α}{i:Nat}(h:i<l.length):ZA (l[i]::l.eraseIdx i) l:=by
 rw[List.eraseIdx_eq_take_drop_succ]
 refine bW.symm.trans ?_
 rw[<- aY h,Ym]
theorem Hw{α:Type}{M:Wd}(n:Nat):∀ (l:List α) (s:Vb) {Q:List α->Vb->Prop},l.length=n->(∀ l' d,ZA l' l->Q l' { s with drawn:=d })->Vc M A (drawOrder n l) Q E s:=by
 induction n with
 | zero=>
  intro l s Q hl h
  cases List.eq_nil_of_length_eq_zero hl
  exact WM (h [] s.drawn .rfl)
 | succ n ih=>
  intro l s Q hl h
  cases l with
  | nil=>exact nomatch hl
  | cons y l=>
   refine Ve (wp_choose (Nat.succ_ne_zero _) fun i hi=>?_)
   rw[Z6 hi]
   dsimp only
   have p:=Gj hi
   refine Ve (ih ((y::l).eraseIdx i) _ (Nat.succ.inj (p.length_eq.trans hl)) fun l' d hp=>?_)
   exact WM (h _ d ((hp.cons _).trans p))
theorem MK{α:Type}(next:Nat->Nat)(fuel:Nat):∀ (k:Nat) (left:List α) (out:Array α),fuel=left.length->ZA (pickOrder.go next fuel k left out).toList (out.toList++left):=by
 induction fuel with
 | zero=>
  intro k left out h
  cases List.eq_nil_of_length_eq_zero h.symm
  exact(W8 _).symm▸.rfl
 | succ fuel ih=>
  intro k left out h
  have hlt:next k % left.length<left.length:=Nat.mod_lt _ (h▸bM fuel)
  have p:=Gj hlt
  rw[show pickOrder.go next (fuel+1) k left out=@Option.rec α (fun _=>Array α) out (fun x=>pickOrder.go next fuel (k+1) (left.eraseIdx (next k % left.length)) (out.push x)) left[next k % left.length]? by kernel_rfl,Z6 hlt]
  refine(ih (k+1) _ _ (Nat.succ.inj (h.trans p.length_eq.symm))).trans ?_
  rw[Wl,Wv]
  exact Zi _ p
theorem GK{α:Type}(next:Nat->Nat)(xs:Array α):ZA (Zh next xs).toList xs.toList:=by
 unfold Zh
 simpa using MK next xs.size 0 xs.toList #[] (by simp)
noncomputable def CB(place:Array Nat)(i:Nat):Nat:=if i=0 then 0 else place.getD (i-1) 0+1
theorem K0{xs:Array Nat}(h:xs.toList.Pairwise (·<·)){i:Nat}(hi:i<=xs.size):Yf xs (CB xs i)=i:=by
 obtain⟨h1,h2,h3⟩:=Gy h (CB xs i)
 have hr:=Qg h (CB xs i)
 cases i with
 | zero=>
  rcases Zj (Yf xs (CB xs 0)) with q|q
  .exact q
  .have:=h2 0 q;unfold CB at this;simp at this
 | succ i=>
  have hlt:i<xs.size:=by exact AJ 2 (.l (.a Y0 N1) Y1) (.t Y0 Y1) [_,_] hi
  have es:CB xs (i+1)=xs[i]+1:=by unfold CB;simp[hlt]
  rcases Nat.lt_trichotomy (Yf xs (CB xs (i+1))) (i+1) with q|q|q
  .have:=h3 i (by exact AJ 2 (.t Y0 (.a Y1 N1)) (.l Y0 Y1) [_,_] q) hlt
   simp[hlt]at this
   rw[es]at this
   exact AJ 3 (.l (.a Y0 N1) Y0) (.e Y1 (.a Y2 N1)) [_,_,_] this
  .exact q
  .have hb:i+1<xs.size:=by exact AL 3 (.l Y0 Y1) (.t (.a Y2 N1) Y0) (.t (.a Y2 N1) Y1) [_,_,_] h1 q
   have l1:=h2 (i+1) q
   have l2:=hr i (i+1) (by exact Bh 1 (.t Y0 (.a Y0 N1)) [_]) hb
   simp[hlt,hb]at l1 l2
   rw[es]at l1
   exact AL 4 (.t Y0 (.a Y1 N1)) (.t Y1 Y0) (.e Y2 (.a Y3 N1)) [_,_,_,_] l1 l2
end
end
section
open PySem.SeqAt
noncomputable def CI(first:VX)(i:Nat)(a:Addr)(z:C8):Obj:={ cls:=.type "set_iterator",dict:=none,data:=.fields #[first,.int i 0,.ref a,.int z.1.size 0,.int z.2.1 0],slots:=#[] }
section
variable{prog:VY}{w:VZ}{A:Va}{E:VX->Vb->Prop}{s:Vb}
theorem JB{it:Addr}{Q:Option VX->Vb->Prop}(hh:A.handled=none)(hQ:∀ h',(∀ b o,s.heap.get? b=some o->h'.get? b=some o)->Q none { s with heap:=h' }) :
  Vc (model prog w) A.in1 (do let x <- newExc (.type "StopIteration") [];raiseNew x) (fun (fin:PySem.Fin) s'=>∃ v,fin=.done (.ret v)/\Vc (model prog w) A (pure (some v)) Q E s')
   (fun e s'=>Vc (model prog w) A (do if (<- Zk e (.type "StopIteration"))=true then pure none else throw e) Q E s') s:=by
 refine Ve ?_
 simp only[newExc,newTuple]
 refine Ve (XX ?_ (by size_fits))
 refine Ve (m:=Zl _ _) (ZM (a:=ZZ) (by first|rfl|(simp only[Zl];rfl)) ?_)
 refine XX ?_ (by size_fits)
 unfold raiseNew
 dsimp only
 refine Ve (wpAny_handled ?_)
 rw[show A.in1.handled=none from hh]
 refine Ve (WM (wpAny_throw ?_))
 refine Ve (Zm (T:="StopIteration") (b:=true) ⟨_,WR _ rfl,rfl⟩ Zn ?_)
 exact WM (hQ _ fun b o e=>AH _ _ (AH _ _ e))
theorem DG{it a:Addr}{first:VX}{i:Nat}{z:C8}{h:Heap}(hit:h.get? it=some (CI first i a z))(f:Array VX->Array VX) :
  (h.update it (Obj.mapFields f)).get? it=some { CI first i a z with data:=.fields (f #[first,.int i 0,.ref a,.int z.1.size 0,.int z.2.1 0]) }:=ZD _ hit rfl
theorem LN{it a:Addr}{slot i next:Nat}{x:VX}{z:C8}{ks:List IS}{Q:Option VX->Vb->Prop}(hit:s.heap.get? it=some (CI (.int slot 0) i a z))(r:Bc s.heap a z)(I:SetInv prog w z ks)(hnext:∀ (A':Va) (Q':Option (VX×Nat)->Vb->Prop) (E':VX->Vb->Prop),Q' (some (x,next)) s->Vc (model prog w) A' (setNext a slot i z.2.1) Q' E' s)(hQ:∀ h',h'.get? it=some (CI (.int next 0) (i+1) a z)->Vs it s.heap h'->Q (some x) { s with heap:=h' }):Vc (model prog w) A (pyNext (.ref it)) Q E s:=by
 have hT:s.TypeIs (.ref it) "set_iterator":=⟨_,hit,rfl⟩
 obtain⟨o,ho,hex,hd⟩:=r
 unfold pyNext
 refine Ve (Zo (YO (name:=YP "__next__") hT Au (YX Au hT CE ?_ (CO _))))
 unfold Wm.«set_iterator.__next__»
 refine Ve (WM ?_)
 refine Ve (Zp hit rfl ?_)
 dsimp only
 refine Ve (Zq ho hd I.fits ?_)
 rw[if_neg (by simp)]
 refine Ve ?_
 rw[VQ,VQ,VQ]
 refine hnext _ _ _ ?_
 dsimp only
 refine Ve (Zr hit rfl (by simp) ?_)
 refine Ve (Zr (s:={ s with heap:=_ }) (DG hit _) rfl (by simp) ?_)
 refine WM ⟨x,rfl,WM (hQ _ ?_ ((ZF ..).trans (ZF ..)))⟩
 rw[ZD _ (DG hit _) rfl]
 rfl
theorem FA{it a:Addr}{slot i:Nat}{z:C8}{ks:List IS}{Q:Option VX->Vb->Prop}(hh:A.handled=none)(hit:s.heap.get? it=some (CI (.int slot 0) i a z))(r:Bc s.heap a z)(I:SetInv prog w z ks)(hnext:∀ (A':Va) (Q':Option (VX×Nat)->Vb->Prop) (E':VX->Vb->Prop),Q' none s->Vc (model prog w) A' (setNext a slot i z.2.1) Q' E' s)(hQ:∀ h',(∀ b o,b≠it->s.heap.get? b=some o->h'.get? b=some o)->Q none { s with heap:=h' }):Vc (model prog w) A (pyNext (.ref it)) Q E s:=by
 have hT:s.TypeIs (.ref it) "set_iterator":=⟨_,hit,rfl⟩
 obtain⟨o,ho,hex,hd⟩:=r
 unfold pyNext
 refine Ve (Zo (YO (name:=YP "__next__") hT Au (YX Au hT CE ?_ (CO _))))
 unfold Wm.«set_iterator.__next__»
 refine Ve (WM ?_)
 refine Ve (Zp hit rfl ?_)
 dsimp only
 refine Ve (Zq ho hd I.fits ?_)
 rw[if_neg (by simp)]
 refine Ve ?_
 rw[VQ,VQ,VQ]
 refine hnext _ _ _ ?_
 dsimp only
 refine Ve (Zr hit rfl (by simp) ?_)
 refine JB (it:=it) (s:={ s with heap:=_ }) hh fun h' hk=>hQ h' fun b o hb e=>hk b o (((ZF ..).2 b hb).trans e)
noncomputable def C6(idx:List Nat):Obj:={ cls:=.type "tuple",data:=.seq (idx.map fun (j:Nat)=>rawInt j).toArray }
theorem PZ{it a T:Addr}{i j:Nat}{idx:List Nat}{e:Int×VX}{z:C8}{ks:List IS}{Q:Option VX->Vb->Prop}(hit:s.heap.get? it=some (CI (.ref T) i a z))(hT':s.heap.get? T=some (C6 idx))(r:Bc s.heap a z)(I:SetInv prog w z ks)(hj:idx[i]?=some j)(he:z.1[j]?=some e)(hQ:∀ h',h'.get? it=some (CI (.ref T) (i+1) a z)->Vs it s.heap h'->Q (some e.2) { s with heap:=h' }):Vc (model prog w) A (pyNext (.ref it)) Q E s:=by
 have hT:s.TypeIs (.ref it) "set_iterator":=⟨_,hit,rfl⟩
 obtain⟨o,ho,hex,hd⟩:=r
 unfold pyNext
 refine Ve (Zo (YO (name:=YP "__next__") hT Au (YX Au hT CE ?_ (CO _))))
 unfold Wm.«set_iterator.__next__»
 refine Ve (WM ?_)
 refine Ve (Zp hit rfl ?_)
 dsimp only
 refine Ve (Zq ho hd I.fits ?_)
 rw[if_neg (by simp)]
 refine Ve (Zs hT' rfl ?_)
 dsimp only
 have hp:((idx.map fun (j:Nat)=>rawInt j).toArray)[(i:Int).toNat]?=some (.int j 0):=by
  rw[VQ,Zt,Zu,hj];rfl
 rw[hp]
 dsimp only
 refine Ve ?_
 rw[VQ,VQ]
 unfold setNextDrawn
 refine Ve (ZG ho hd I.fits ?_)
 dsimp only
 rw[if_neg (by simp),he]
 refine WM ?_
 refine Ve (Zr hit rfl (by simp) ?_)
 refine WM ⟨e.2,rfl,WM (hQ _ ?_ (ZF ..))⟩
 rw[DG hit]
 rfl
theorem JA{it a T:Addr}{i:Nat}{idx:List Nat}{z:C8}{ks:List IS}{Q:Option VX->Vb->Prop}(hh:A.handled=none)(hit:s.heap.get? it=some (CI (.ref T) i a z))(hT':s.heap.get? T=some (C6 idx))(r:Bc s.heap a z)(I:SetInv prog w z ks)(hj:idx[i]?=none)(hQ:∀ h',(∀ b o,b≠it->s.heap.get? b=some o->h'.get? b=some o)->Q none { s with heap:=h' }):Vc (model prog w) A (pyNext (.ref it)) Q E s:=by
 have hT:s.TypeIs (.ref it) "set_iterator":=⟨_,hit,rfl⟩
 obtain⟨o,ho,hex,hd⟩:=r
 unfold pyNext
 refine Ve (Zo (YO (name:=YP "__next__") hT Au (YX Au hT CE ?_ (CO _))))
 unfold Wm.«set_iterator.__next__»
 refine Ve (WM ?_)
 refine Ve (Zp hit rfl ?_)
 dsimp only
 refine Ve (Zq ho hd I.fits ?_)
 rw[if_neg (by simp)]
 refine Ve (Zs hT' rfl ?_)
 dsimp only
 have hp:((idx.map fun (j:Nat)=>rawInt j).toArray)[(i:Int).toNat]?=none:=by
  rw[VQ,Zt,Zu,hj];rfl
 rw[hp]
 dsimp only
 refine Ve (Zr hit rfl (by simp) ?_)
 refine Ve (Zr (s:={ s with heap:=_ }) (DG hit _) rfl (by simp) ?_)
 refine JB (it:=it) (s:={ s with heap:=_ }) hh fun h' hk=>hQ h' fun b o hb e=>hk b o (((ZF ..).2 b hb).trans (((ZF ..).2 b hb).trans e))
theorem Hg{a:Addr}{slot i:Nat}{z:C8}{ks:List IS}{Q:Option (VX×Nat)->Vb->Prop}(r:Bc s.heap a z)(I:SetInv prog w z ks)(hw:w.params.followText "set-order" = true)(h:Q (((Zh (w.params.setOrder a z.2.1) z.1)[i]?).map fun e=>(e.2,slot)) s):Vc (model prog w) A (setNext a slot i z.2.1) Q E s:=by
 obtain⟨o,ho,hex,hd⟩:=r
 unfold setNext setWalk setsByText
 refine Ve (ZG ho hd I.fits ?_)
 dsimp only
 refine Ve (Ve (ZR (WM ?_)))
 show Vc _ _ (if w.params.followText "set-order" = true then _ else _) _ _ _
 rw[if_pos hw]
 rw[if_neg (by simp)]
 refine Ve ?_
 refine Ve (ZG ho hd I.fits ?_)
 dsimp only
 refine Ve (Ve (ZR (WM ?_)))
 show Vc _ _ (if w.params.followText "set-order" = true then _ else _) _ _ _
 rw[if_pos hw]
 refine Ve (ZR (WM ?_))
 exact WM h
theorem GP{a:Addr}{i g:Nat}{z:C8}{ks:List IS}{Q:Option (VX×Nat)->Vb->Prop}(r:Bc s.heap a z)(I:SetInv prog w z ks)(hw:w.params.followText "set-order" = false)(hdr:(!z.2.2.plain&&decide (z.1.size > 1))=false)(hi:i<=z.1.size)(h:Q ((z.1[i]?).map fun e=>(e.2,CB z.2.2.place (i+1))) s):Vc (model prog w) A (setNext a (CB z.2.2.place i) g z.2.1) Q E s:=by
 obtain⟨o,ho,hex,hd⟩:=r
 have hf:=I.fits
 simp only[SetTable.fits,X5,beq_iff_eq]at hf
 unfold setNext setsByText
 refine Ve (ZG ho hd I.fits ?_)
 dsimp only
 refine Ve (Ve (ZR (WM ?_)))
 show Vc _ _ (if w.params.followText "set-order" = true then _ else _) _ _ _
 rw[if_neg (by rw[hw];simp)]
 show Vc _ _ (if (!z.2.2.plain&&decide (z.1.size > 1))=true then _ else _) _ _ _
 rw[if_neg (by rw[hdr];simp)]
 refine Ve (m:=(do if (!z.2.2.led&&!z.1.isEmpty)=true then Zv "set:maker-not-led" else pure ())) ?_
 rw[if_neg (by rw[I.led,hw];simp)]
 refine WM ?_
 rw[K0 I.tame.1 (by rw[hf.1];exact hi)]
 refine WM ?_
 by_cases hlt:i<z.1.size
 .have e1:z.1[i]?=some z.1[i]:=by simp[hlt]
  have hp:i<z.2.2.place.size:=by rw[hf.1];exact hlt
  have e2:z.2.2.place[i]?=some z.2.2.place[i]:=by simp[hp]
  rw[e1]at h
  rw[e1,e2]
  have e3:CB z.2.2.place (i+1)=z.2.2.place[i]+1:=by unfold CB;simp[hp]
  rw[e3]at h
  exact h
 .have e1:z.1[i]?=none:=by simp;exact AJ 2 (.no (.t Y0 Y1)) (.l Y1 Y0) [_,_] hlt
  rw[e1]at h ⊢
  exact h
end
end
section
open PySem.SeqAt
noncomputable def EH(w:VZ)(z:C8)(a it:Addr)(W:List (Int×VX))(Cl:Addr->Prop)(i:Nat)(h:Heap):Prop:=
 ∃ first,h.get? it=some (CI first i a z) /\
  ((w.params.followText "set-order" = true/\first=.int (0:Nat) 0/\W=(Zh (w.params.setOrder a z.2.1) z.1).toList) ∨
   (w.params.followText "set-order" = false/\(!z.2.2.plain&&decide (z.1.size > 1))=false/\first=.int (CB z.2.2.place i) 0/\W=z.1.toList) ∨
   ∃ T idx,first=.ref T/\h.get? T=some (C6 idx)/\Cl T/\T≠it/\(∀ j∈idx,j<z.1.size)/\W=idx.map fun j=>z.1.getD j (0,.none))
theorem Ny{α:Type}(es:Array α)(d:α):(Xn es.size).map (fun j=>es.getD j d)=es.toList:=by
 apply Zw
 .simp
 .intro i h1 h2
  simp at h1
  simp[h1]
section
variable{prog:VY}{w:VZ}{A:Va}{E:VX->Vb->Prop}{s:Vb}
theorem EH.item{z:C8}{a it:Addr}{W:List (Int×VX)}{Cl:Addr->Prop}{i:Nat}{ks:List IS}{e:Int×VX}{Q:Option VX->Vb->Prop}(j:EH w z a it W Cl i s.heap)(r:Bc s.heap a z)(I:SetInv prog w z ks)(hW:W[i]?=some e)(hl:W.length=z.1.size)(hQ:∀ h',EH w z a it W Cl (i+1) h'->Vs it s.heap h'->Q (some e.2) { s with heap:=h' }):Vc (model prog w) A (pyNext (.ref it)) Q E s:=by
 obtain⟨first,hit,q⟩:=j
 have hi:i<W.length:=by
  rcases Yp i W.length with q|q
  .exact q
  .rw[Zx q]at hW;cases hW
 rcases q with ⟨hw,rfl,rfl⟩|⟨hw,hdr,rfl,rfl⟩|⟨T,idx,rfl,hT,cT,nT,hlt,rfl⟩
 .refine LN (x:=e.2) (next:=0) hit r I (fun A' Q' E' q=>Hg r I hw ?_) fun h' hit' hs=>hQ h' ⟨_,hit',.inl ⟨hw,rfl,rfl⟩⟩ hs
  rw[<- WO,hW];exact q
 .refine LN (x:=e.2) (next:=CB z.2.2.place (i+1)) hit r I (fun A' Q' E' q=>GP r I hw hdr (by rw[<- hl];exact W7 hi) ?_) fun h' hit' hs=>hQ h' ⟨_,hit',.inr (.inl ⟨hw,hdr,rfl,rfl⟩)⟩ hs
  rw[<- WO,hW];exact q
 .rw[Zu]at hW
  cases hj:idx[i]? with
  | none=>rw[hj]at hW;cases hW
  | some j=>
   rw[hj]at hW
   simp at hW
   have hlj:=hlt j (Zy hj)
   have he:z.1[j]?=some e:=by simp[hlj]at hW ⊢;exact hW
   refine PZ hit hT r I hj he fun h' hit' hs=>hQ h' ⟨_,hit',.inr (.inr ⟨T,idx,rfl,(hs.2 T nT).trans hT,cT,nT,hlt,rfl⟩)⟩ hs
theorem EH.done{z:C8}{a it:Addr}{W:List (Int×VX)}{Cl:Addr->Prop}{ks:List IS}{Q:Option VX->Vb->Prop}(hh:A.handled=none)(j:EH w z a it W Cl W.length s.heap)(r:Bc s.heap a z)(I:SetInv prog w z ks)(hl:W.length=z.1.size)(hQ:∀ h',(∀ b o,b≠it->s.heap.get? b=some o->h'.get? b=some o)->Q none { s with heap:=h' }):Vc (model prog w) A (pyNext (.ref it)) Q E s:=by
 obtain⟨first,hit,q⟩:=j
 rcases q with ⟨hw,rfl,rfl⟩|⟨hw,hdr,rfl,rfl⟩|⟨T,idx,rfl,hT,cT,nT,hlt,rfl⟩
 .refine FA hh hit r I (fun A' Q' E' q=>Hg r I hw ?_) hQ
  rw[<- WO,Zx (Vn _)];exact q
 .refine FA hh hit r I (fun A' Q' E' q=>GP r I hw hdr (by simp) ?_) hQ
  rw[<- WO,Zx (Vn _)];exact q
 .exact JA hh hit hT r I (by simp) hQ
theorem EH.keep{z:C8}{a it:Addr}{W:List (Int×VX)}{Cl Cl':Addr->Prop}{i:Nat}{h h':Heap}(j:EH w z a it W Cl i h)(k1:∀ o,h.get? it=some o->h'.get? it=some o)(k2:∀ b o,Cl b->h.get? b=some o->h'.get? b=some o/\Cl' b):EH w z a it W Cl' i h':=by
 obtain⟨first,hit,q⟩:=j
 refine⟨first,k1 _ hit,?_⟩
 rcases q with q|q|⟨T,idx,rfl,hT,cT,q⟩
 .exact .inl q
 .exact .inr (.inl q)
 .exact .inr (.inr ⟨T,idx,rfl,(k2 T _ cT hT).1,(k2 T _ cT hT).2,q⟩)
theorem KO{z:C8}{a:Addr}{ks:List IS}{Cl:Addr->Prop}{Q:VX->Vb->Prop}(r:Bc s.heap a z)(I:SetInv prog w z ks)(hCl:∀ b,s.heap.get? b=none->Cl b)(h:∀ h' d W it,ZA W z.1.toList->EH w z a it W Cl 0 h'->(∀ b o,s.heap.get? b=some o->h'.get? b=some o)->s.heap.get? it=none->Q (.ref it) { s with heap:=h',drawn:=d }):Vc (model prog w) A (pyIter (.ref a)) Q E s:=by
 obtain⟨o,ho,hex,hd⟩:=r
 have hT:s.TypeIs (.ref a) "set":=⟨o,ho,hex.1⟩
 have fin:∀ (s':Vb) (it:Addr) (ob:Obj),s'.heap.get? it=some ob->ob.cls=.type "set_iterator"->Q (.ref it) s'->∃ v,PySem.Fin.done (Flow.ret (Zz it))=.done (.ret v)/\∃ T id,s'.TypeIs v T/\Z0 (.type T) "__next__" = pure (some id)/\Q v s':=
  fun s' it ob e1 e2 q=>⟨_,rfl,"set_iterator",_,⟨ob,e1,e2⟩,Au.lookup,q⟩
 refine YV hT Z1 (YX Z1 hT Gm ?_ (PySem.F.args_set_iter_1 _))
 unfold Wm.«frozenset.__iter__» Builtin.Frozenset.slot0 Builtin.Frozenset.sizeOf setDrawn setsByText
 refine Ve (Ve (WM (WM ?_)))
 refine Ve (Ve (Zq ho hd I.fits (WM ?_)))
 refine Ve (Ve (ZG ho hd I.fits ?_))
 dsimp only
 refine Ve (Ve (ZR (WM (WM ?_))))
 show Vc _ _ (if (!w.params.followText "set-order" && (!z.2.2.plain&&decide (z.1.size > 1)))=true then _ else _) _ _ _
 by_cases hq:(!w.params.followText "set-order" && (!z.2.2.plain&&decide (z.1.size > 1)))=true
 .rw[if_pos hq]
  refine Ve (Hw _ _ _ (by simp) fun idx d hp=>?_)
  have hlt:∀ j∈idx,j<z.1.size:=fun j hj=>by simpa using hp.mem_iff.mp hj
  have hsz:idx.length=z.1.size:=by simpa using hp.length_eq
  refine Ve (wpAny_newTuple ?_ (by have:=I.lt;have e:Vj=4096:=rfl;rw[V8,hsz,sizeLine_eq];exact AL 2 (.t Y0 Y1) (.e Y1 (.n 4096)) (.l Y0 (.n 16777216)) [_,_] this e))
  have ho':(s.heap.push (C6 idx)).get? a=some o:=AH _ _ ho
  refine Ve (wpAny_setEpoch_of (s:={ s with heap:=s.heap.push (C6 idx),drawn:=d }) ho' hd I.fits ?_)
  refine Ve (XX ?_ (by size_fits))
  have hTt:(s.heap.push (C6 idx)).get? s.heap.objs.size=some (C6 idx):=WR _ rfl
  have hit:((s.heap.push (C6 idx)).push (CI (.ref s.heap.objs.size) 0 a z)).get? (s.heap.push (C6 idx)).objs.size=some (CI (.ref s.heap.objs.size) 0 a z):=WR _ rfl
  have hsz1:(s.heap.push (C6 idx)).objs.size=s.heap.objs.size+1:=by simp
  refine WM (fin _ _ _ hit rfl (h _ d (idx.map fun j=>z.1.getD j (0,.none)) _ ?_ ⟨_,hit,.inr (.inr ⟨_,idx,rfl,AH _ _ hTt,hCl _ (AR _),by rw[hsz1];exact WA (Z3 _),hlt,rfl⟩)⟩ (fun b o e=>AH _ _ (AH _ _ e)) (Bk (by rw[hsz1];exact Vo _))))
  rw[<- Ny z.1 (0,.none)]
  exact hp.map _
 .rw[if_neg hq]
  refine Ve (WM ?_)
  refine Ve (wpAny_setEpoch_of ho hd I.fits ?_)
  refine Ve (XX ?_ (by size_fits))
  have hit:(s.heap.push (CI (.int (0:Nat) 0) 0 a z)).get? s.heap.objs.size=some (CI (.int (0:Nat) 0) 0 a z):=WR _ rfl
  by_cases hw:w.params.followText "set-order" = true
  .exact WM (fin _ _ _ hit rfl (h _ s.drawn _ _ (GK _ _) ⟨_,hit,.inl ⟨hw,rfl,rfl⟩⟩ AH (AR _)))
  .have hw':w.params.followText "set-order" = false:=by simpa using hw
   have hdr:(!z.2.2.plain&&decide (z.1.size > 1))=false:=by
    rw[hw']at hq
    simpa using hq
   exact WM (fin _ _ _ hit rfl (h _ s.drawn _ _ .rfl ⟨_,hit,.inr (.inl ⟨hw',hdr,rfl,rfl⟩)⟩ AH (AR _)))
end
end
section
open PySem.SeqAt
noncomputable def keyOf(e:Int×VX):IS:=@Value.casesOn (fun _=>IS) e.2 (.i 0) (.i 0) (.i 0) (fun _=>.i 0) (fun n _=>.i n) (fun _ _=>.i 0) (fun x _=>.s x) (fun _ _=>.i 0) (fun _=>.i 0) (fun _=>.i 0) fun _=>.i 0
theorem Je{k:IS}{e:Int×VX}(h:HK k e.2=true):keyOf e=k:=by
 obtain⟨a,v⟩:=e
 rcases BD h with ⟨n,t,rfl,h2⟩|⟨x,t,rfl,h2⟩<;>(dsimp only at h2;subst h2;rfl)
theorem GO{α:Type}[DecidableEq α]:∀ {ks l:List α},ks.Nodup->(∀ k∈ks,k∈l)->l.length<=ks.length->ZA l ks
 | [],l,_,_,hl=>by
  have:l=[]:=by simpa using hl
  subst this;exact .rfl
 | k::ks,l,hn,hs,hl=>by
  obtain⟨h1,h2⟩:=Vr.mp hn
  have hp:ZA l (k::l.erase k):=List.perm_cons_erase (hs k (by simp))
  refine hp.trans ((GO h2 (fun x hx=>?_) ?_).cons k)
  .have:x≠k:=fun e=>h1 (e▸hx)
   exact(Vq.mp (hp.mem_iff.mp (hs x (by simp[hx])))).resolve_left this
  .have:=hp.length_eq
   simp at this hl
   exact AL 3 (.l Y0 (.a Y1 N1)) (.e Y0 (.a Y2 N1)) (.l Y2 Y1) [_,_,_] hl this
theorem SetInv.keys{prog:VY}{w:VZ}{z:C8}{ks:List IS}(I:SetInv prog w z ks):ZA (z.1.toList.map keyOf) ks:=by
 refine GO I.nd (fun k hk=>?_) (by simpa using Z5 I.size)
 obtain⟨e,he,hi⟩:=(I.mem k).mp hk
 exact Vm.mpr ⟨e,he,Je hi⟩
section
variable{c:Ctx}{m:Lo}{H:Hp}{pos:Pos}{K:Frag}
noncomputable def Ej(c:Ctx)(s:Vb)(H:Hp)(z:C8)(a it:Addr)(W:List (Int×VX))(I:Nat->Lo->Hp->Prop)(k:Nat)(s':Vb):Prop:=∀ G:Vb->Prop,
 (∀ i m' H' h' tk',Rel c ⟨m',H'⟩ (sw s h' tk')->Fp c.env.locals H H' s.heap h'->Aj c H' h' [it]->EH c.w z a it W (fun T=>T∉dom H'/\T≠c.env.locals/\s.heap.get? T=.none) i h'->I i m' H'->i<=W.length->k=W.length+1-i->G (sw s h' tk'))->G s'
theorem Ej.use{s:Vb}{z:C8}{a it:Addr}{W:List (Int×VX)}{I:Nat->Lo->Hp->Prop}{k:Nat}{s':Vb}{G:Vb->Prop}(h:Ej c s H z a it W I k s')(f:∀ i m' H' h' tk',Rel c ⟨m',H'⟩ (sw s h' tk')->Fp c.env.locals H H' s.heap h'->Aj c H' h' [it]->EH c.w z a it W (fun T=>T∉dom H'/\T≠c.env.locals/\s.heap.get? T=.none) i h'->I i m' H'->i<=W.length->k=W.length+1-i->G (sw s h' tk')):G s':=h G f
theorem Ej.mk{s:Vb}{z:C8}{a it:Addr}{W:List (Int×VX)}{I:Nat->Lo->Hp->Prop}{k i:Nat}{m':Lo}{H':Hp}{h':Heap}{tk':Tk}(a1:Rel c ⟨m',H'⟩ (sw s h' tk'))(a2:Fp c.env.locals H H' s.heap h')(a3:Aj c H' h' [it])(a4:EH c.w z a it W (fun T=>T∉dom H'/\T≠c.env.locals/\s.heap.get? T=.none) i h')(a5:I i m' H')(a6:i<=W.length)(a7:k=W.length+1-i):Ej c s H z a it W I k (sw s h' tk'):=
 fun _ f=>f i m' H' h' tk' a1 a2 a3 a4 a5 a6 a7
theorem KQ{y:Str}{py:Pos}{iter:Expr}{b:List Stmt}{Q:Fl->Lo->Hp->Prop}(h:Af c iter m H fun u m1 H1=>∃ a z ks,u=.ref a/\AK c H1 a (.set z ks)/\∀ σ:List IS,ZA σ ks->∃ I:Nat->Lo->Hp->Prop,I 0 m1 H1 /\
   (∀ i k m2 H2,σ[i]?=some k->I i m2 H2->AK c H2 a (.set z ks)/\Fs c (.Name y py) k.v m2 H2 fun m3 H3=>AW c b m3 H3 fun f m4 H4=>
    match f with | .next | .cont=>I (i+1) m4 H4 | .brk=>Q .next m4 H4 | .ret v=>Q (.ret v) m4 H4)/\∀ m2 H2,I σ.length m2 H2->AK c H2 a (.set z ks)/\Q .next m2 H2)(hs:autoParam (∀ x,WH iter c.env x=pure x) C4):DX c (.For (.Name y py) iter b [] pos) m H Q:=fun s R P k=>by
 refine wpAny_For (h s R _ fun u va m1 H1 h1 tk1 R1 F1 r1 q1=>?_) hs
 refine Jx fun G hG=>?_
 obtain⟨a,z,ks,rfl,hx,q⟩:=q1
 cases (r1:va=_)
 obtain⟨r,Iv⟩:=DH (hx m1 _ R1)
 refine hG (KO (Cl:=fun T=>T∉dom H1/\T≠c.env.locals/\s.heap.get? T=.none) r Iv (fun b hb=>⟨(R1.fresh hb).1,(R1.fresh hb).2.1,CK F1 hb⟩) fun h2 d W it hp j hg hf=>?_)
 refine Jx fun G hG=>?_
 have hl:W.length=z.1.size:=hp.length_eq.trans V9
 have hσ:ZA (W.map keyOf) ks:=(hp.map keyOf).trans Iv.keys
 have hWk:∀ i (e:Int×VX),W[i]?=some e->HK (keyOf e) e.2=true:=fun i e he=>by
  obtain⟨⟨k,hk,_⟩,_⟩:=Iv.el e (hp.mem_iff.mp (Zy he))
  have:=Je (k:=k) hk
  rw[this];exact hk
 obtain⟨I,i0,step,fin⟩:=q (W.map keyOf) hσ
 have fr:=R1.fresh hf
 have fr0:∀ b∈[it],s.heap.get? b=.none:=fun b hb=>by rw[XQ.mp hb];exact CK F1 hf
 have hitn:∀ (i:Nat) (h:Heap) (Cl:Addr->Prop),EH c.w z a it W Cl i h->∃ o,h.get? it=some o/\E5 o:=fun i h Cl j=>by
  obtain⟨first,hi,_⟩:=j
  exact⟨_,hi,fun _ _ _ q=>by cases q.2⟩
 refine hG (codeAny_forLoop_any (Ej c s H z a it W I) ?_ (W.length+1)
  (Ej.mk (i:=0) (h':=h2) (tk':=⟨tk1.toks,d,tk1.gens⟩) (R1.grow ⟨tk1.toks,d,tk1.gens⟩ hg) (F1.trans R1.hasL (.grow hg)) (fun b hb=>by rw[XQ.mp hb];exact⟨fr.1,fr.2.1,fr.2.2,hitn _ _ _ j⟩) j i0 (WJ _) rfl))
 intro k' s' hJ
 refine Ej.use (G:=fun s'=>Vc _ _ (pyNext (.ref it)) _ _ s') hJ fun i m2 H2 h2 tk2 R2 F2 A2 j2 hI hle hkk=>?_
 by_cases hlt:i<W.length
 .have hW:=Z6 hlt
  obtain⟨ok,body⟩:=step i (keyOf W[i]) m2 H2 (by rw[Zu,hW];rfl) hI
  obtain⟨r2,Iv2⟩:=DH (ok m2 _ R2)
  obtain⟨oi,hoi,nti⟩:=hitn _ _ _ j2
  have ai:=A2 it (.head _)
  refine(Vv (EH.item (A:=c.A) (E:=fun _ _=>False) j2 r2 Iv2 hW hl fun h3 j3 hs3=>?_) (fun _ _ q=>q) fun _ _ q=>q.elim)
  have R3:=R2.off (h':=h3) tk2 hoi nti ai.1 ai.2.1 ai.2.2.1 (Heap.SameBut.kp hs3)
  have F3:=F2.off fr0 (BH (Heap.SameBut.kp hs3))
  have A3:=A2.one (hitn _ _ _ j3)
  show Vc _ _ (WG (.Name y py) (.ref it) W[i].2) _ _ _
  refine WM ?_
  refine Vv (body _ _ R3 (GG (hWk i _ hW)) _ fun _ _ m5 H5 h5 tk5 R5 F5 _ q5=>?_) (fun _ _ q=>q) fun _ _ q=>q.elim
  refine Vv (q5 _ R5 _ fun f vf m6 H6 h6 tk6 R6 F6 r6 q6=>?_) (fun _ _ q=>q) fun _ _ q=>q.elim
  refine Jx fun G hG=>?_
  have F:=(F3.trans R3.hasL F5).trans R5.hasL F6
  have A5:=A3.step F5
  have A6:=A5.step F6
  have kp:∀ o,h3.get? it=some o->h6.get? it=some o:=fun o e=>by
   have e5:=F5.keep it o (A3 it (.head _)).1 (A3 it (.head _)).2.1 e
   exact F6.keep it o (A5 it (.head _)).1 (A5 it (.head _)).2.1 e5
  have cl:∀ {H1 H2:Hp} {h1 h2:Heap} (F:Fp c.env.locals H1 H2 h1 h2),∀ b o,(b∉dom H1/\b≠c.env.locals/\s.heap.get? b=.none)->h1.get? b=some o->h2.get? b=some o/\(b∉dom H2/\b≠c.env.locals/\s.heap.get? b=.none):=fun F b o q e=>
   ⟨F.keep b o q.1 q.2.1 e,fun hm=>(F.dom b hm).elim q.1 fun n=>(by rw[n]at e;cases e),q.2.1,q.2.2⟩
  have j6:=(j3.keep (fun o e=>F5.keep it o (A3 it (.head _)).1 (A3 it (.head _)).2.1 e) (cl F5)).keep (fun o e=>F6.keep it o (A5 it (.head _)).1 (A5 it (.head _)).2.1 e) (cl F6)
  cases f with
  | next=>cases (r6:vf=.next);exact hG ⟨W.length+1-(i+1),by rw[hkk];exact AJ 2 (.t Y0 Y1) (.t (.s (.a Y1 N1) (.a Y0 N1)) (.s (.a Y1 N1) Y0)) [_,_] hlt,Ej.mk (i:=i+1) (h':=h6) (tk':=tk6) R6 F A6 j6 q6 hlt rfl⟩
  | cont=>cases (r6:vf=.cont);exact hG ⟨W.length+1-(i+1),by rw[hkk];exact AJ 2 (.t Y0 Y1) (.t (.s (.a Y1 N1) (.a Y0 N1)) (.s (.a Y1 N1) Y0)) [_,_] hlt,Ej.mk (i:=i+1) (h':=h6) (tk':=tk6) R6 F A6 j6 q6 hlt rfl⟩
  | brk=>cases (r6:vf=.brk);exact hG (k .next _ m6 H6 h6 tk6 R6 F rfl q6)
  | ret u=>obtain⟨v,rfl,hv⟩:=r6;exact hG (k (.ret u) _ m6 H6 h6 tk6 R6 F ⟨v,rfl,hv⟩ q6)
 .have hin:i=W.length:=by exact AL 2 (.l Y0 Y1) (.no (.t Y0 Y1)) (.e Y0 Y1) [_,_] hle hlt
  rw[hin,<- V8 keyOf]at hI
  rw[hin]at j2
  obtain⟨ok,q⟩:=fin m2 H2 hI
  obtain⟨r2,Iv2⟩:=DH (ok m2 _ R2)
  obtain⟨oi,hoi,nti⟩:=hitn _ _ _ j2
  have ai:=A2 it (.head _)
  refine(Vv (EH.done (A:=c.A) (E:=fun _ _=>False) c.hh j2 r2 Iv2 hl fun h3 hk3=>?_) (fun _ _ q=>q) fun _ _ q=>q.elim)
  exact WC (k .next _ m2 H2 h3 tk2 (R2.off (h':=h3) tk2 hoi nti ai.1 ai.2.1 ai.2.2.1 hk3) (F2.off fr0 (BH hk3)) rfl q)
end
end
section
open PySem.SeqAt
section
variable{prog:VY}{w:VZ}{A:Va}{E:VX->Vb->Prop}{s:Vb}
theorem Dy{α β:Type}{M:Wd}{p:α->Bool}{f:α->β->Sem (ForInStep β)}{b d:β}{Q:β->Vb->Prop}:∀ {l:List α},(∀ x∈l,∀ Q':ForInStep β->Vb->Prop,Q' (if p x then .yield b else .done d) s->Vc M A (f x b) Q' E s)->Q (if l.all p then b else d) s->Vc M A (forIn l b f) Q E s
 | [],h,q=>by rw[List.forIn_nil];exact WM q
 | x::l,h,q=>by
  rw[XK]
  refine Ve (h x (by simp) _ ?_)
  by_cases hp:p x=true
  .rw[if_pos hp]
   dsimp only
   refine Dy (fun y hy=>h y (by simp[hy])) ?_
   simpa [hp] using q
  .rw[if_neg hp]
   refine WM ?_
   simpa [hp] using q
theorem Bc.setOf{h:Heap}{a:Addr}{z:C8}{ks:List IS}(r:Bc h a z)(I:SetInv prog w z ks):h.SetOf (Ag prog w) a (fun k=>decide (k∈ks)) ks.length:=by
 obtain⟨o,ho,hx,hd⟩:=r
 exact⟨o,_,_,_,ho,hx,hd,I.el,fun k=>by rw[decide_eq_true_eq];exact I.mem k,I.lt,I.fits,I.size⟩
end
section
variable{c:Ctx}{m:Lo}{H:Hp}{pos:Pos}{Q:V->Lo->Hp->Prop}
end
end
section
open PySem.SeqAt
section
variable{c:Ctx}{m:Lo}{H:Hp}{pos:Pos}{K:Frag}
theorem GD{t e:Expr}{Q:Fl->Lo->Hp->Prop}(h:Af c e m H fun v m1 H1=>Fs c t v m1 H1 (Q .next))(ha:autoParam (V7 [t] c.env=[(false,assign t c.env)]) AV)(hs:autoParam (WE [t] e pos.line c.env=pure false) AV)(hw:autoParam (WF [t] e c.env=pure .none) AV):DX c (.Assign [t] e pos) m H Q:=fun s R P k=>by
 rw[exec_Assign]
 refine Ve (XJ ?_)
 rw[hs]
 refine Ve (WM ?_)
 rw[if_neg (by decide)]
 refine Ve (h s R _ fun a va m1 H1 h1 tk1 R1 F1 r1 q1=>?_)
 rw[hw,ha]
 refine Ve (WM ?_)
 show Vc _ _ (do assign t c.env va;pure Flow.next) _ _ _
 exact Ve (q1 _ va R1 r1 _ fun _ _ m3 H3 h3 tk3 R3 F3 _ q3=>WM (k .next _ m3 H3 h3 tk3 R3 (F1.trans R1.hasL F3) rfl q3))
theorem DI{t u e:Expr}{Q:Fl->Lo->Hp->Prop}(h:Af c e m H fun v m1 H1=>Fs c t v m1 H1 fun m2 H2=>Fs c u v m2 H2 (Q .next))(ha:autoParam (V7 [t,u] c.env=[(false,assign t c.env),(false,assign u c.env)]) AV)(hs:autoParam (WE [t,u] e pos.line c.env=pure false) AV)(hw:autoParam (WF [t,u] e c.env=pure .none) AV):DX c (.Assign [t,u] e pos) m H Q:=fun s R P k=>by
 rw[exec_Assign]
 refine Ve (XJ ?_)
 rw[hs]
 refine Ve (WM ?_)
 rw[if_neg (by decide)]
 refine Ve (h s R _ fun a va m1 H1 h1 tk1 R1 F1 r1 q1=>?_)
 rw[hw,ha]
 refine Ve (WM ?_)
 show Vc _ _ ((V2 [va] (assign t c.env va) >>= fun _=>assign u c.env va) >>= fun _=>pure Flow.next) _ _ _
 refine Ve (Ve (Vd (q1 _ va R1 r1 _ fun _ _ m3 H3 h3 tk3 R3 F3 _ q3=>?_)))
 exact q3 _ va R3 (R1.lift F3 r1) _ fun _ _ m4 H4 h4 tk4 R4 F4 _ q4=>WM (k .next _ m4 H4 h4 tk4 R4 ((F1.trans R1.hasL F3).trans R3.hasL F4) rfl q4)
theorem RW{o i:Expr}{p:Pos}{Q:Fl->Lo->Hp->Prop}(h:Af c o m H fun a m1 H1=>Af c i m1 H1 fun b m2 H2=>QZ c a b UR delItem m2 H2 fun _=>Q .next):DX c (.Delete [.Subscript o i p] pos) m H Q:=fun s R P k=>
 wpAny_Delete (wpAny_deleteEach_cons (wpAny_delete_Subscript (h s R _ fun a va m1 H1 h1 tk1 R1 F1 r1 q1=>q1 _ R1 _ fun b vb m2 H2 h2 tk2 R2 F2 r2 q2=>q2 _ va vb R2 (R1.lift F2 r1) r2 _
  fun _ _ m3 H3 h3 tk3 R3 F3 _ q3=>wpAny_deleteEach_nil (k .next _ m3 H3 h3 tk3 R3 ((F1.trans R1.hasL F2).trans R2.hasL F3) rfl q3))))
noncomputable def G8(u v:At)(r:Bool):Prop:=∀ (c:Ctx) (va vb:VX) (s:Vb) (P:Bool->Vb->Prop),u.rep va->v.rep vb->P r s->c.wp (isSame va vb) P s
theorem G8.nn:G8 .none .none true:=fun c va vb s P ra rb h=>by
 cases (ra:va=_);cases (rb:vb=_);exact Z7 rfl h
theorem G8.int{i:Int}:G8 (.int i) .none false:=fun c va vb s P ra rb h=>by
 obtain⟨t,rfl⟩:=ra;cases (rb:vb=_);exact Z7 rfl h
theorem G8.ref{a:Addr}:G8 (.ref a) .none false:=fun c va vb s P ra rb h=>by
 cases (ra:va=_);cases (rb:vb=_);exact Z7 rfl h
variable{Q:V->Lo->Hp->Prop}
theorem T8{u v:At}{r:Bool}(hr:G8 u v r)(h:Q (.bool r) m H):KG c .Is (.at u) (.at v) m H Q:=fun s va vb R ra rb=>
 .val R h fun P k=>by
  show c.wp (do return .bool (<- isSame va vb)) P s
  exact Ve (hr _ _ _ _ _ ra rb (WM (k _ s.toks rfl)))
theorem QU{u v:At}{r:Bool}(hr:G8 u v r)(h:Q (.bool (!r)) m H):KG c .IsNot (.at u) (.at v) m H Q:=fun s va vb R ra rb=>
 .val R h fun P k=>by
  show c.wp (do return .bool (!(<- isSame va vb))) P s
  exact Ve (hr _ _ _ _ _ ra rb (WM (k _ s.toks rfl)))
end
end
section
open PySem.SeqAt
noncomputable def pick{α:Type}(xs:List α)(lo hi st:Option Int):List α:=(sliceRange (Z8 lo hi st xs.length).1 (Z8 lo hi st xs.length).2.1 (Z8 lo hi st xs.length).2.2).filterMap (xs[·]?)
theorem GJ(items:Array VX)(lo hi st:Option Int):Z9 items lo hi st=(pick items.toList lo hi st).toArray:=by
 unfold Z9 pick
 simp
theorem AS.picks{h:Heap}{xs:List V}{vs:List VX}(r:AS h xs vs)(idx:List Nat):AS h (idx.filterMap (xs[·]?)) (idx.filterMap (vs[·]?)):=by
 induction idx with
 | nil=>rfl
 | cons i idx ih=>
  cases q:xs[i]? with
  | none=>
   rw[List.filterMap_cons_none q,List.filterMap_cons_none (Zx (r.length▸List.getElem?_eq_none_iff.mp q))]
   exact ih
  | some u=>
   obtain⟨v,hv,hr⟩:=r.get q
   rw[List.filterMap_cons_some q,List.filterMap_cons_some hv]
   exact .cons hr ih
theorem AS.pick{h:Heap}{xs:List V}{vs:List VX}(r:AS h xs vs)(lo hi st:Option Int):AS h (pick xs lo hi st) (pick vs lo hi st):=by
 unfold Mine.Internal.pick
 rw[r.length]
 exact r.picks _
section
variable{c:Ctx}{m:Lo}{H:Hp}{pos:Pos}{Q:V->Lo->Hp->Prop}
noncomputable def E3(c:Ctx)(e:Option Expr)(m:Lo)(H:Hp)(Q:Option Int->Lo->Hp->Prop):Prop:=match e with
 | none=>Q none m H
 | some e=>Af c e m H fun u m1 H1=>∃ i,u=.int i/\Q (some i) m1 H1
theorem E3.run{e:Option Expr}{Q:Option Int->Lo->Hp->Prop}(h:E3 c e m H Q){s:Vb}(R:Rel c ⟨m,H⟩ s)(P:VX->Vb->Prop)(k:∀ v lo m' H' h tk,Rel c ⟨m',H'⟩ (sw s h tk)->Fp c.env.locals H H' s.heap h->IsPart v lo->Q lo m' H'->P v (sw s h tk)):c.wp (evalPart e c.env) P s:=by
 cases e with
 | none=>rw[evalPart_none];exact WM (k .none none m H s.heap (Bq s s.toks) R (.refl ..) .none h)
 | some e=>
  rw[evalPart_some]
  refine h s R P fun b v m' H' h tk R' F r q=>?_
  obtain⟨i,rfl,q⟩:=q
  obtain⟨t,rfl⟩:=r
  exact k _ (some i) m' H' h tk R' F (.int i t) q
theorem Lk{v:Expr}{lower upper:Option Expr}{p:Pos}(h:Af c v m H fun a m1 H1=>E3 c lower m1 H1 fun lo m2 H2=>E3 c upper m2 H2 fun hi m3 H3=>∃ l xs,a=.ref l/\AK c H3 l (.list xs)/\xs.length<=1000000/\∀ x,Q (.ref x) m3 ((x,.list (pick xs lo hi none))::H3))(ht:autoParam (∀ o r,Xy v o r=pure ()) G0):Af c (.Subscript v (.Slice lower upper none p) pos) m H Q:=fun s R P k=>by
 refine wpAny_Subscript_list_slice (h s R _ fun a va m1 H1 h1 tk1 R1 F1 r1 q1=>q1.run R1 _ fun vl lo m2 H2 h2 tk2 R2 F2 pl q2=>q2.run R2 _ fun vu hi m3 H3 h3 tk3 R3 F3 pu q3=>?_) ht
 obtain⟨l,xs,rfl,hx,hz,q⟩:=q3
 cases (r1:va=_)
 obtain⟨items,n,hl,hr⟩:=O.list_get (hx m3 _ R3)
 have hlen:=hr.length
 refine⟨l,items,lo,hi,rfl,IsL.isList hl,?_,pl,pu,?_⟩
 .rw[<- V9,hlen];have:WS=16777216:=rfl;exact AL 2 (.l Y0 (.n 1000000)) (.e Y1 (.n 16777216)) (.l Y0 Y1) [_,_] hz this
 have g:∀ b o,h3.get? b=some o->((h3.push { cls:=.type "slice",data:=.fields #[vl,vu,.none] }).push { cls:=.type "list",data:=.seq (Z9 items lo hi none) }).get? b=some o:=fun b o e=>AH _ _ (AH _ _ e)
 have e1:(h3.push { cls:=.type "slice",data:=.fields #[vl,vu,.none] }).objs.size=h3.objs.size+1:=by simp
 have hn:h3.get? (h3.objs.size+1)=none:=Bk (Vo _)
 have hN:((h3.push { cls:=.type "slice",data:=.fields #[vl,vu,.none] }).push { cls:=.type "list",data:=.seq (Z9 items lo hi none) }).get? (h3.objs.size+1)=some { cls:=.type "list",data:=.seq (Z9 items lo hi none) }:=by
  rw[<- e1];exact WR _ rfl
 have F:=(F1.trans R1.hasL F2).trans R2.hasL F3
 refine k (.ref (h3.objs.size+1)) _ m3 _ _ tk3 (R3.new tk3 g hn (o:=.list (pick xs lo hi none)) (O.list_mk (n:=0) hN ?_)) (F.trans R3.hasL (.new g hn)) rfl (q _)
 have e2:(Z9 items lo hi none).toList=pick items.toList lo hi none:=by rw[GJ]
 rw[e2]
 exact(R3.liftL (.grow (H:=H3) g) hr).pick lo hi none
end
theorem Et{α:Type}(xs:List α)(a n:Nat):((Xn n).map (a+·)).filterMap (xs[·]?)=(xs.drop a).take n:=by
 induction n with
 | zero=>rfl
 | succ n ih=>
  rw[Xo,XA,Xp,ih,cf,aB]
  cases q:xs[a+n]? with
  | none=>rw[show [n].map (a+·)=[a+n] from rfl,List.filterMap_cons_none q];rfl
  | some u=>rw[show [n].map (a+·)=[a+n] from rfl,List.filterMap_cons_some q];rfl
theorem ML{α:Type}(xs:List α)(a:Nat):pick xs (some a) none none=xs.drop a:=by
 have e:Z8 (some (a:Int)) none none xs.length=(((min a xs.length:Nat):Int),(xs.length:Int),1):=by
  simp only[Z8,aC]
  have h1:¬ ((a:Int)<0):=aF.mpr (VO a)
  simp only[h1,if_false,show(1:Int) > 0 by decide,if_true]
  congr 1
  exact Fh
 unfold pick
 rw[e]
 simp only[aG,Et]
 rw[aH (by simp)]
 rcases VS a xs.length with q|q
 .rw[VT q]
 .rw[VU q,aJ,aK q]
theorem MJ{α:Type}(xs:List α)(b:Nat):pick xs none (some b) none=xs.take b:=by
 have e:Z8 none (some (b:Int)) none xs.length=(((0:Nat):Int),((min b xs.length:Nat):Int),1):=by
  simp only[Z8,aC]
  have h2:¬ ((b:Int)<0):=aF.mpr (VO b)
  simp only[h2,if_false,show(1:Int) > 0 by decide,if_true]
  congr 1
  congr 1;exact Fh
 unfold pick
 rw[e]
 simp only[aG,Et]
 simp only[aM,aN]
 rcases VS b xs.length with q|q
 .rw[VT q]
 .rw[VU q,aO,aH q]
end
section
open PySem.SeqAt
section
variable{c:Ctx}{m:Lo}{H:Hp}{pos:Pos}
noncomputable def UE(c:Ctx)(a b v:V)(m:Lo)(H:Hp)(Q:Lo->Hp->Prop):Prop:=∀ s va vb vv,Rel c ⟨m,H⟩ s->a.rep s.heap va->b.rep s.heap vb->v.rep s.heap vv->FJ c H s UR (setItem va vb vv) fun _=>Q
theorem Lw{o i:Expr}{v:V}{Q:Lo->Hp->Prop}(h:Af c o m H fun a m1 H1=>Af c i m1 H1 fun b m2 H2=>UE c a b v m2 H2 Q):Fs c (.Subscript o i pos) v m H Q:=fun s vv R rv P k=>by
 show c.wp (assign (.Subscript o i pos) c.env vv) P s
 rw[assign_Subscript]
 refine Ve (Vd (h s R _ fun a va m1 H1 h1 tk1 R1 F1 r1 q1=>?_))
 have rv1:=R.lift F1 rv
 refine Ve (Vd (q1 _ R1 _ fun b vb m2 H2 h2 tk2 R2 F2 r2 q2=>?_))
 refine Ve (XJ (Ve (Vd (q2 _ va vb vv R2 (R1.lift F2 r1) r2 (R1.lift F2 rv1) _ fun x y m3 H3 h3 tk3 R3 F3 r3 q3=>?_))))
 exact wpAny_release (k x _ m3 H3 h3 tk3 R3 ((F1.trans R1.hasL F2).trans R2.hasL F3) trivial q3)
end
end
section
open PySem.SeqAt
section
variable{c:Ctx}{m:Lo}{H:Hp}{pos:Pos}{Q:V->Lo->Hp->Prop}{K:Frag}
noncomputable abbrev Kd(fd:Wx)(L a:Addr):Env:=newEnv fd.scope L fd.globals fd.closure (fd.qualname ++ ".<locals>.") (some a) fd.code none fd.builtins
noncomputable def Ctx.lam(c:Ctx)(fd:Wx)(a L:Addr)(k:Nat)(hf:c.fuel=k+1)(hk:fd.scope.kind=.function):Ctx:=
 ⟨c.prog,c.w,c.A.deeper (Kd fd L a),Kd fd L a,c.G,k,c.hh,(by have:=c.hd;rw[hf]at this;show c.A.depth+1+k<Vk;exact AJ 3 (.t (.a Y0 (.a Y1 N1)) Y2) (.t (.a (.a Y0 N1) Y1) Y2) [_,_,_] this),
  (by have:=c.hu;rw[hf]at this;show c.A.units+3+40 * k+400<cLine;exact AJ 3 (.t (.a (.a Y0 (.m 40 (.a Y1 N1))) (.n 400)) Y2) (.t (.a (.a (.a Y0 (.n 3)) (.m 40 Y1)) (.n 400)) Y2) [_,_,_] this),hk⟩
theorem Mq{h:Heap}{bs:List (Str×V)}{binds:List (Str×VX)}(b:Em h bs binds)(x:Str)(u:V):bs.lookup x=some u->∃ v,binds.lookup x=some v/\u.rep h v:=
 DV.ind (P:=fun bs binds=>bs.lookup x=some u->∃ v,binds.lookup x=some v/\u.rep h v) (fun e=>nomatch e) (fun y w v bs r hv _ ih e=>by
  by_cases q:x=y
  .rw[q,Cg]at e;rw[q,Cg];exact⟨v,rfl,Option.some.inj e▸hv⟩
  .rw[Cf q rfl]at e;rw[Cf q rfl];exact ih e) b
theorem Ox{h:Heap}{bs:List (Str×V)}{binds:List (Str×VX)}(b:Em h bs binds):Em h bs.reverse binds.reverse:=
 ⟨by rw[aP,aP,b.1],by rw[aP,aP];exact b.2.reverse⟩
theorem QT{fa:Addr}{ob:Obj}{fd:Wx}{body:Expr}{vs:List V}{bs:List (Str×V)}{k:Nat}(hfu:c.fuel=k+1)(hf:AK c H fa (.obj ob))(hd:ob.data=.func fd)(hcd:∀ m s,Rel c ⟨m,H⟩ s->s.heap.CodeRec fd.code fd.qualname)(hlim:c.Knows Wz)(hbody:fd.body=.expr body)(hk:fd.scope.kind=.function)(hco:fd.scope.isCoroutine=false)(hgen:fd.scope.isGenerator=false)(hcell:∀ x∈fd.scope.names,x.2≠.cell)(hbind:∀ m H s vvs,Rel c ⟨m,H⟩ s->AS s.heap vs vvs->∃ binds,W0 s fd ⟨vvs,[]⟩ binds/\Em s.heap bs binds)(hkind:∀ x∈bs,fd.scope.names.lookup x.1=some .local)(h:∀ L,Af (c.lam fd fa L k hfu hk) body bs.reverse H fun u _ H'=>Q u m H'):Ao c (.ref fa) vs m H Q:=fun s vf vvs R rf rv P kont=>by
 cases (rf:vf=_)
 obtain⟨ho,_⟩:=hf m s R
 obtain⟨binds,hb,br⟩:=hbind m H s vvs R rv
 have hkd:∀ x∈binds,fd.scope.names.lookup x.1=some .local:=fun x hx=>by
  have:x.1∈bs.map (·.1):=br.1▸Vm.mpr ⟨x,hx,rfl⟩
  obtain⟨y,hy,e⟩:=Vm.mp this
  have:=hkind y hy
  rw[e]at this
  exact this
 refine kla_callFunE (W4 (W5 _ _) c.hd) ho hd hco hgen hbody (hcd m s R) ?_
 refine hb _ _ _ _ ?_
 refine XY hcell hkd (fun h₁ hns hsb=>?_) hk
 have hg:∀ b o,s.heap.get? b=some o->h₁.get? b=some o:=fun b o e=>(hsb.2 b (WA (WB e))).trans (AH b o e)
 refine⟨(hlim s.heap R.keep).keeps hg,kla_codeExpr ?_⟩
 generalize hL:s.heap.objs.size=L at *
 have fresh:s.heap.get? L=.none:=hL▸AR _
 have fr:=R.fresh fresh
 have br₁:Em h₁ bs binds:=⟨br.1,R.liftL (Fp.grow hg) br.2⟩
 have R₁:Rel (c.lam fd fa L k hfu hk) ⟨bs.reverse,H⟩ (sw s h₁ (Bq s (s.toks+binds.length))):=by
  refine⟨⟨_,hns,fun y u e=>Mq (Ox br₁) y u e⟩,fun a o hm=>O.rep_keep (R.obj a o hm) R (Fp.grow hg) fun ob e=>hg _ _ e,R.nd,fun a ha=>⟨fun e=>?_,(R.apart a ha).2⟩,fun b o e=>hg b o (R.keep b o e),fr.2.2,R.bare,Vp R.tp (W5 _ _)⟩
  have e':a=L:=e
  exact fr.1 (e'▸ha)
 have hLL:c.env.locals≠L:=fr.2.1.symm
 refine Vv (h L _ R₁ _ fun u v m' H' h₂ tk₂ R₂ F₂ r₂ q₂=>?_) (fun _ _ q=>q) fun _ _ q=>q.elim
 have F₂':Fp L H H' h₁ h₂:=F₂
 have out:∀ b o,b∉dom H->s.heap.get? b=some o->h₂.get? b=some o:=fun b o hb e=>
  F₂'.keep b o hb (fun q=>by subst q;rw[fresh]at e;cases e) (hg b o e)
 have F:Fp c.env.locals H H' s.heap h₂:=by
  refine⟨fun b o hb _ e=>out b o hb e,fun b hb=>?_,fun b o e=>F₂'.alive b o (hg b o e)⟩
  rcases F₂'.dom b hb with q|q
  .exact .inl q
  .cases e:s.heap.get? b with
   | none=>exact .inr rfl
   | some o=>rw[hg b o e]at q;cases q
 have RR:Rel c ⟨m,H'⟩ (sw s h₂ tk₂):=by
  refine R.change tk₂ F ?_ R₂.obj R₂.nd R₂.bare R₂.tp
  obtain⟨m',hn,q⟩:=R.loc
  obtain⟨oL,es,ep,hoL,rL⟩:=hn
  exact⟨m',⟨oL,es,ep,out _ _ (fun q=>(R.apart _ q).1 rfl) hoL,rL⟩,fun x u e=>(q x u e).elim fun v t9=>t9.elim fun h1 h2=>⟨v,h1,V.rep_fp h2 R F⟩⟩
 exact kont u v m H' h₂ tk₂ RR F r₂ q₂
end
end
section
open PySem.SeqAt
section
variable{c:Ctx}{m:Lo}{H:Hp}{pos:Pos}{Q:V->Lo->Hp->Prop}{K:Frag}
structure LamBase(c:Ctx)(mg:Str->Option VX)(cc P:Addr):Prop where
 glo:c.Knows fun h=>h.Ns Xg mg
 bm:c.Knows fun h=>∃ bm ob,mg "__builtins__" = some (.ref bm)/\bm≠Xh/\h.get? bm=some ob/\ob.cls=.type "module"/\ob.dict=some Xh/\ob.data=.plain
 code:c.Knows fun h=>CodeHd h cc P
 hc:c.env.code=.ref cc
 hg:c.env.globals=Xg
theorem Rel.adopt{st:St}{s:Vb}{a:Addr}{o:O}(R:Rel c st s)(h1:a∉dom st.H)(h2:a≠c.env.locals)(h3:c.G a=.none)(ho:o.rep c.prog c.w s.heap a):Rel c ⟨st.m,(a,o)::st.H⟩ s:=
 ⟨R.loc,fun b ob hb=>by
  rcases Vq.mp hb with e|e
  .cases e;exact ho
  .exact R.obj b ob e,Vr.mpr ⟨h1,R.nd⟩,fun b hb=>by
  rcases Vq.mp hb with e|e
  .cases (e:b=a);exact⟨h2,h3⟩
  .exact R.apart b e,R.keep,R.gl,R.bare,R.tp⟩
theorem Og{params:Arguments}{body:Expr}{scope:XG}{clos:List (Str×Addr)}{mg:Str->Option VX}{cc P:Addr}{ps:Array VX}{F:O->Hp}(B:LamBase c mg cc P)(hdef:defaultsOf params c.env=([],[]))(hcl:Xb scope c.env=pure clos)(sp:DF P (.obj (tabObj ps)) H F)(ht:aQ ps.toList)(hnf:codeAmong pos ps.toList=none)(h:∀ f c' oc ctv vs t ps',oc.data=.fields vs->vs[1]?=some (.str (c.env.qual ++ "<lambda>") t)->Q (.ref f) m ((f,.obj (kla_obj "<lambda>" (c.env.qual ++ "<lambda>") params body scope clos ((mg "__name__").getD .none) c' ctv))::(c',.obj oc)::F (.obj (tabObj ps')))) :
  Af c (.Lambda params body scope pos) m H Q:=fun s R Pk k=>by
 have hP:=(R.obj _ _ (sp.upd (.obj (tabObj ps))).mem).1
 obtain⟨bm,ob,b1,b2,b3,b4,b5,b6⟩:=B.bm s.heap R.keep
 have hgs:=B.glo s.heap R.keep
 have hgP:Xg≠P:=fun q=>by
  obtain⟨o,es,ep,e,hd,_⟩:=hgs
  rw[q,hP]at e;cases e;cases hd
 have hbP:bm≠P:=fun q=>by rw[q,hP]at b3;cases b3;cases b4
 have hbG:bm≠Xg:=fun q=>by
  obtain⟨o,es,ep,e,hd,_⟩:=hgs
  rw[q,e]at b3;cases b3;rw[hd]at b6;cases b6
 refine Ctx.wpT (kla_eval hdef (kla_makeFunction (mg:=mg) hcl B.hg hgs B.hc (B.code s.heap R.keep) hP ht hnf hgP ⟨bm,ob,b1,b2,hbG,hbP,b3,b4,b5,b6⟩ fun c' ctv h' tk hx hge hlt hrec htb=>?_))
 intro (hto:s.toks<=tk)
 obtain⟨c₂,oc,vs,t,e2,hoc,hd,hv⟩:=hrec
 cases e2
 have al:∃ o,h'.get? P=some o:=⟨_,htb⟩
 have hkp:∀ b o,b≠P->s.heap.get? b=some o->h'.get? b=some o:=fun b o hb e=>hx b o hb e
 have R1:=R.upd (h':=h') (Bq s tk) (sp.upd (.obj (tabObj (ps++#[rawInt pos.line,rawInt pos.col,.ref c'])))) hkp al fun _=>⟨htb,by unfold Mine.Internal.Obj.fixed;trivial⟩
 have hc0:s.heap.get? c'=.none:=Bk hge
 have frc:=R.fresh hc0
 have hdom:=(sp.upd (.obj (tabObj (ps++#[rawInt pos.line,rawInt pos.col,.ref c'])))).dom
 have R2:=R1.adopt (a:=c') (o:=.obj oc) (fun q=>frc.1 (hdom▸q)) frc.2.1 frc.2.2 ⟨hoc,by unfold Mine.Internal.Obj.fixed;rw[hd];trivial⟩
 have R3:=R2.new (h':=h'.push (kla_obj "<lambda>" (c.env.qual ++ "<lambda>") params body scope clos ((mg "__name__").getD .none) c' ctv)) (Bq s tk) (a:=h'.objs.size) (o:=.obj (kla_obj "<lambda>" (c.env.qual ++ "<lambda>") params body scope clos ((mg "__name__").getD .none) c' ctv)) AH (AR h') ⟨WR _ rfl,by unfold Mine.Internal.Obj.fixed;trivial⟩
 have hPd:P∈dom H:=Vm.mpr ⟨_,(sp.upd (.obj (tabObj ps))).mem,rfl⟩
 have hf0:s.heap.get? h'.objs.size=.none:=Bk (W7 (W4 hge hlt))
 refine k (.ref h'.objs.size) _ m _ _ (Bq s tk) R3 ⟨fun b o hb _ e=>AH _ _ (hkp b o (fun q=>hb (q▸hPd)) e),fun b hb=>?_,fun b o e=>?_⟩ rfl (h _ c' oc ctv vs t _ hd hv)
 .rcases Vq.mp hb with q|hb
  .cases (q:b=h'.objs.size);exact .inr hf0
  .rcases Vq.mp hb with q|hb
   .cases (q:b=c');exact .inr hc0
   .exact .inl (hdom▸hb)
 .by_cases q:b=P
  .subst q;exact⟨_,AH _ _ htb⟩
  .exact⟨o,AH _ _ (hkp b o q e)⟩
end
end
section
open PySem.SeqAt
theorem Hf:Z0 (.type "function") "__bool__" = pure none:=by rw[Za,Zb];kernel_rfl
theorem JR:Z0 (.type "function") "__len__" = pure none:=by rw[Za,Zb];kernel_rfl
section
variable{c:Ctx}{m:Lo}{H:Hp}{pos:Pos}
theorem Pv{f:Addr}{ob:Obj}{fd:Wx}(hx:AK c H f (.obj ob))(hd:ob.data=.func fd):Ba c (.ref f) H:=fun m s vf R r=>by
 cases (r:vf=_)
 obtain⟨ho,_⟩:=hx m s R
 obtain⟨a,b,d,e⟩:=ob
 dsimp only at hd
 subst hd
 exact keeps_F _ ⟨_,_,_,_,ho⟩
theorem RP{f:Addr}{ob:Obj}{Q:Bool->Lo->Hp->Prop}(hx:AK c H f (.obj ob))(hc:ob.cls=.type "function")(h:Q true m H):RL c (.ref f) m H Q:=fun s va R r=>by
 cases (r:va=_)
 obtain⟨ho,_⟩:=hx m s R
 have hT:s.TypeIs (.ref f) "function":=⟨ob,ho,hc⟩
 refine .val R h fun P k=>?_
 unfold truthy
 first
  | refine Ve (aT (name:=YP "__bool__") hT Hf ?_)
  | refine Ve (WM (Ve (aT (name:=YP "__bool__") hT Hf ?_)))
 first
  | refine Ve (aU (name:=YP "__len__") hT JR ?_)
  | refine Ve (WM (Ve (aU (name:=YP "__len__") hT JR ?_)))
 exact WM (k true s.toks rfl)
end
end
section
open PySem.SeqAt
section
variable{c:Ctx}{m:Lo}{H:Hp}{pos:Pos}{Q:V->Lo->Hp->Prop}
end
end
noncomputable abbrev Grp:=List (IS×List Int)
noncomputable def Bz(g:Grp)(k:IS)(i:Int):Grp:=if k∈g.map (·.1) then g.map fun p=>if p.1=k then (p.1,p.2++[i]) else p else g++[(k,[i])]
noncomputable def Bf(bs:List IS):Nat->Grp
 | 0=>[]
 | n+1=>match bs[n]? with
  | some k=>Bz (Bf bs n) k n
  | none=>Bf bs n
noncomputable def Lg(bs:List IS):Grp:=Bf bs bs.length
theorem ED{bs:List IS}{n:Nat}{k:IS}(h:bs[n]?=some k):Bf bs (n+1)=Bz (Bf bs n) k n:=by
 show(match bs[n]? with|some k=>Bz (Bf bs n) k n|none=>Bf bs n)=_
 rw[h]
theorem Kk{bs:List IS}{n:Nat}(h:bs[n]?=none):Bf bs (n+1)=Bf bs n:=by
 show(match bs[n]? with|some k=>Bz (Bf bs n) k n|none=>Bf bs n)=_
 rw[h]
noncomputable def By(bs:List IS)(n:Nat)(k:IS):List Int:=((Xn n).filter fun i=>decide (bs[i]?=some k)).map fun (i:Nat)=>(i:Int)
theorem FH(g:Grp)(k:IS)(i:Int):(Bz g k i).map (·.1)=if k∈g.map (·.1) then g.map (·.1) else g.map (·.1)++[k]:=by
 unfold Bz
 split
 .rw[XC]
  apply Xm
  intro p _
  simp only[Function.comp]
  split<;>rfl
 .simp
theorem HD(bs:List IS)(n:Nat)(k:IS):By bs (n+1) k=By bs n k++(if bs[n]?=some k then [(n:Int)] else []):=by
 unfold By
 rw[Xo,aV,XA]
 congr 1
 by_cases h:bs[n]?=some k
 .simp[h]
 .simp[h]
structure IsGrp(bs:List IS)(n:Nat)(g:Grp):Prop where
 nd:(g.map (·.1)).Nodup
 mem:∀ k,k∈g.map (·.1)↔∃ i,i<n/\bs[i]?=some k
 at_:∀ p∈g,p.2=By bs n p.1
theorem Gc(bs:List IS):∀ n,n<=bs.length->IsGrp bs n (Bf bs n)
 | 0,_=>⟨X4,fun k=>⟨fun h=>(nomatch (h:k∈([]:List IS))),fun t8=>t8.elim fun i t9=>t9.elim fun h _=>absurd h (Nat.not_lt_zero i)⟩,fun p hp=>(nomatch (hp:p∈([]:Grp)))⟩
 | n+1,hn=>by
  have ih:=Gc bs n (by exact AJ 2 (.l (.a Y0 N1) Y1) (.l Y0 Y1) [_,_] hn)
  have hlt:n<bs.length:=by exact AJ 2 (.l (.a Y0 N1) Y1) (.t Y0 Y1) [_,_] hn
  have e:bs[n]?=some bs[n]:=by simp[hlt]
  have hg:Bf bs (n+1)=Bz (Bf bs n) bs[n] n:=ED e
  rw[hg]
  generalize hk:bs[n]=k at *
  generalize Bf bs n=g at *
  refine⟨?_,fun j=>?_,fun p hp=>?_⟩
  .rw[FH]
   split
   .exact ih.nd
   .rename_i hm
    rw[XB]
    exact⟨ih.nd,by simp,fun a ha b hb=>by simp at hb;subst hb;intro q;exact hm (q▸ha)⟩
  .rw[FH]
   have key:(∃ i,i<n+1/\bs[i]?=some j)↔(∃ i,i<n/\bs[i]?=some j)∨j=k:=by
    constructor
    .rintro⟨i,hi,h⟩
     by_cases q:i=n
     .subst q;rw[e]at h;cases h;exact .inr rfl
     .exact .inl ⟨i,by exact AL 2 (.t Y0 (.a Y1 N1)) (.no (.e Y0 Y1)) (.t Y0 Y1) [_,_] hi q,h⟩
    .rintro(⟨i,hi,h⟩|rfl)
     .exact⟨i,by exact AJ 2 (.t Y0 Y1) (.t Y0 (.a Y1 N1)) [_,_] hi,h⟩
     .exact⟨n,by exact Bh 1 (.t Y0 (.a Y0 N1)) [_],e⟩
   rw[key,<- ih.mem j]
   split
   .rename_i hm
    exact⟨.inl,fun q=>q.elim id fun q=>q▸hm⟩
   .simp
  .rw[HD]
   unfold Bz at hp
   split at hp
   .obtain⟨q,hq,rfl⟩:=Vm.mp hp
    split
    .rename_i h1
     dsimp only
     rw[ih.at_ q hq,h1,e]
     simp
    .rename_i h1
     rw[ih.at_ q hq,e]
     have:¬ (some k=some q.1):=fun h=>h1 (by injection h with h;exact h.symm)
     simp[this]
   .rename_i hm
    rcases W9.mp hp with hq|hq
    .rw[ih.at_ p hq,e]
     have:¬ (some k=some p.1):=fun h=>hm (by injection h with h;rw[h];exact Vm.mpr ⟨p,hq,rfl⟩)
     simp[this]
    .simp at hq
     subst hq
     dsimp only
     rw[e]
     have:By bs n k=[]:=by
      unfold By
      rw[List.map_eq_nil_iff,aW]
      intro i hi
      simp only[decide_eq_true_eq]
      intro h
      exact hm ((ih.mem k).mpr ⟨i,by simpa using hi,h⟩)
     simp[this]
theorem Q3(bs:List IS):IsGrp bs bs.length (Lg bs):=Gc bs _ (Vn _)
theorem Cd.mid{a:Addr}{o o':O}{r:Hp}:∀ (l:Hp),Cd a o o' (l++(a,o)::r) (l++(a,o')::r)
 | []=>.head r
 | p::l=>.tail (Cd.mid l)
theorem AI.perm{m:Lo}{H H':Hp}(p:ZA H' H):AI m H m H':=⟨fun _ _ e=>e,fun q hq=>p.mem_iff.mp hq,fun nd=>(p.map (·.1)).nodup_iff.mpr nd⟩
noncomputable abbrev GL:=List (IS×Addr×List Int)
noncomputable def gD(G:GL):List (IS×V):=G.map fun e=>(e.1,.ref e.2.1)
noncomputable def gL(G:GL):Hp:=G.map fun e=>(e.2.1,.list (e.2.2.map .int))
noncomputable def gP(G:GL):Grp:=G.map fun e=>(e.1,e.2.2)
theorem Ds(G:GL):(gP G).map (·.1)=G.map (·.1):=by unfold gP;rw[XC];rfl
theorem IP(G:GL):(gD G).map (·.1)=G.map (·.1):=by unfold gD;rw[XC];rfl
theorem Ed{G:GL}{k:IS}(h:k∉G.map (·.1)):(gD G).find? (fun e=>decide (e.1=k))=.none:=by
 rw[Xw]
 intro e he q
 have:e.1∈(gD G).map (·.1):=Vm.mpr ⟨e,he,rfl⟩
 rw[IP]at this
 simp at q
 exact h (q▸this)
theorem Dg{G:GL}{k:IS}(h:k∉G.map (·.1)):dictAt (gD G) k=.none:=by
 unfold dictAt;rw[Ed h];rfl
theorem D1{G1 G2:GL}{k:IS}{a:Addr}{ps:List Int}(h:k∉G1.map (·.1)):dictAt (gD (G1++(k,a,ps)::G2)) k=some (.ref a):=by
 have e:gD (G1++(k,a,ps)::G2)=gD G1++(k,.ref a)::gD G2:=by unfold gD;simp
 unfold dictAt
 rw[e,List.find?_append,Ed h]
 simp
theorem HV{G:GL}{k:IS}(h:k∈G.map (·.1)):∃ G1 a ps G2,G=G1++(k,a,ps)::G2/\k∉G1.map (·.1):=by
 induction G with
 | nil=>simp at h
 | cons e G ih=>
  obtain⟨k',a,ps⟩:=e
  by_cases q:k'=k
  .subst q;exact⟨[],a,ps,G,rfl,by simp⟩
  .have:k∈G.map (·.1):=by
    rcases Vq.mp h with e|e
    .exact absurd e.symm q
    .exact e
   obtain⟨G1,b,qs,G2,rfl,hn⟩:=ih this
   refine⟨(k',a,ps)::G1,b,qs,G2,rfl,?_⟩
   intro hm
   rcases Vq.mp hm with e|e
   .exact q e.symm
   .exact hn e
theorem K7{G1 G2:GL}{k:IS}{a:Addr}{ps:List Int}{i:Int}(h1:k∉G1.map (·.1))(h2:k∉G2.map (·.1)):Bz (gP (G1++(k,a,ps)::G2)) k i=gP (G1++(k,a,ps++[i])::G2):=by
 have hm:k∈(gP (G1++(k,a,ps)::G2)).map (·.1):=by rw[Ds];simp
 unfold Bz
 rw[if_pos hm]
 have no:∀ G:GL,k∉G.map (·.1)->(gP G).map (fun p=>if p.1=k then (p.1,p.2++[i]) else p)=gP G:=fun G hG=>by
  unfold gP
  rw[XC]
  apply Xm
  intro e he
  have:e.1≠k:=fun q=>hG (q▸Vm.mpr ⟨e,he,rfl⟩)
  simp[this]
 have e1:∀ (x:IS×Addr×List Int),gP (G1++x::G2)=gP G1++(x.1,x.2.2)::gP G2:=fun x=>by unfold gP;simp
 rw[e1,e1,XA,Vu,no G1 h1,no G2 h2]
 simp
theorem K6{G:GL}{k:IS}{a:Addr}{i:Int}(h:k∉G.map (·.1)):Bz (gP G) k i=gP (G++[(k,a,[i])]):=by
 unfold Bz
 rw[if_neg (by rw[Ds];exact h)]
 unfold gP
 simp
theorem K8(g:Grp)(k:IS)(i:Int):(Bz g k i).length<=g.length+1:=by unfold Bz;split<;>simp
theorem Ez(bs:List IS):∀ n,(Bf bs n).length<=n
 | 0=>Vn 0
 | n+1=>by
  have:=Ez bs n
  cases e:bs[n]? with
  | some k=>rw[ED e];exact Yi (K8 (Bf bs n) k n) (XT this)
  | none=>
   rw[Kk e]
   exact AJ 2 (.l Y0 Y1) (.l Y0 (.a Y1 N1)) [_,_] this
theorem EV(bs:List IS)(n:Nat)(k:IS):(By bs n k).length<=n:=by
 unfold By
 rw[V8]
 exact Yi (aX _ _) (by simp)
theorem OW(G:GL):(gP G).length=G.length:=by unfold gP;simp
theorem Gg(G:GL):(gD G).length=G.length:=by unfold gD;simp
theorem Kn(G1 G2:GL)(e:IS×Addr×List Int)(R:Hp):gL (G1++e::G2)++R=gL G1++(e.2.1,.list (e.2.2.map .int))::(gL G2++R):=by unfold gL;simp
theorem Kj{bs:List IS}{n:Nat}{k:IS}(h:bs[n]?=some k):Bf bs (n+1)=Bz (Bf bs n) k n:=ED h
theorem AN{x y:Str}{u:V}{l:List (Str×V)}(h:(x==y)=false):((y,u)::l).lookup x=l.lookup x:=by rw[Vt,h]
theorem Kr{es:List (IS×V)}{k:IS}(h:k∈es.map (·.1)):∃ u,dictAt es k=some u:=by
 obtain⟨e,he,rfl⟩:=Vm.mp h
 unfold dictAt
 cases q:es.find? fun e'=>decide (e'.1=e.1) with
 | none=>rw[Xw]at q;exact absurd (q e he) (by simp)
 | some x=>exact⟨x.2,rfl⟩
theorem I6{σ:List IS}(nd:σ.Nodup){i:Nat}{k:IS}(h:σ[i]?=some k):k∉σ.take i:=fun hm=>by
 have hi:i<σ.length:=by
  rcases Yp i σ.length with q|q
  .exact q
  .rw[Zx q]at h;cases h
 rw[<- Ym i σ]at nd
 refine(XB.mp nd).2.2 k hm k ?_ rfl
 rw[aY hi]
 simp[hi]at h
 simp[h]
theorem OX{G:GL}{g:IS×Addr×List Int}(h:g∈G):(g.2.1,O.list (g.2.2.map .int))∈gL G:=Vm.mpr ⟨g,h,rfl⟩
noncomputable def Cu(x:Str)(a:Addr)(m:List (Str×Addr)):Prop:=m.lookup x=some a
theorem Cu.head{x:Str}{a:Addr}(m:List (Str×Addr)):Cu x a ((x,a)::m):=Cg m
theorem Cu.tail{x y:Str}{a b:Addr}{m:List (Str×Addr)}(h:x≠y)(q:Cu x a m):Cu x a ((y,b)::m):=Cf h q
theorem Cu.eq{x:Str}{a:Addr}{m:List (Str×Addr)}(h:Cu x a m):m.lookup x=some a:=h
noncomputable def EJ(cs:List (Str×Addr))(l:List (Str×Wt))(acc cl:List (Str×Addr)):Prop:=∀ P:List (Str×Wt)->List (Str×Addr)->Prop,
 P [] cl->(∀ x k r acc,k≠.free->P r acc->P ((x,k)::r) acc)->(∀ x a r acc,Cu x a cs->P r ((x,a)::acc)->P ((x,.free)::r) acc)->P l acc
section
variable{cs:List (Str×Addr)}{x:Str}{k:Wt}{r:List (Str×Wt)}{acc cl:List (Str×Addr)}
theorem EJ.nil(acc:List (Str×Addr)):EJ cs [] acc acc:=fun _ h _ _=>h
theorem EJ.skip(hk:k≠.free)(h:EJ cs r acc cl):EJ cs ((x,k)::r) acc cl:=fun P h1 h2 h3=>h2 _ _ _ _ hk (h P h1 h2 h3)
theorem EJ.take{a:Addr}(hl:Cu x a cs)(h:EJ cs r ((x,a)::acc) cl):EJ cs ((x,.free)::r) acc cl:=fun P h1 h2 h3=>h3 _ _ _ _ hl (h P h1 h2 h3)
end
section
variable{c:Ctx}{m:Lo}{H:Hp}{pos:Pos}
theorem Ia{scope:XG}{cs cl:List (Str×Addr)}(hc:c.env.cells=cs)(h:EJ cs scope.names [] cl):Xb scope c.env=pure cl:=by
 have e:=h (fun l acc=>(forIn l acc fun (x:Str×Wt) (r:List (Str×Addr))=>if (x.2==aZ)=true then (do let a <- cellOf c.env x.1;pure (XH ((x.1,a)::r)):Sem (ForInStep (List (Str×Addr)))) else pure (XH r))=(pure cl:Sem (List (Str×Addr)))) rfl
  (fun x k r acc hk ih=>by
   rw[XK]
   have:(k==aZ)=false:=by simpa using hk
   dsimp only
   rw[this]
   exact ih)
  (fun x a r acc hl ih=>by
   rw[XK]
   have e:cellOf c.env x=pure a:=by unfold cellOf;rw[hc,hl.eq]
   dsimp only
   rw[e]
   exact ih)
 unfold Xb
 rw[<- bind_pure (pure cl),<- e]
theorem Su{ns:List (Str×Wt)}{cs:List (Str×Addr)}{x:Str}{a:Addr}{u:V}{Q:V->Lo->Hp->Prop}(hn:c.env.scope.names=ns)(hc:c.env.cells=cs)(hk:ns.lookup x=some .free)(hl:Cu x a cs)(hv:AK c H a (.cell (some u)))(h:Q u m H)(hx:autoParam ((x==("__classdict__":Str))=false) BX)(hd:autoParam ((x==("__debug__":Str))=false) BX):Af c (.Name x pos) m H Q:=by
 refine Ol ?_ hv h hd
 unfold E0
 rw[BO hn hk,hc]
 simp only[hx]
 exact hl.eq
end
section
variable{c:Ctx}{m:Lo}{H:Hp}{pos:Pos}{Q:V->Lo->Hp->Prop}
end
noncomputable abbrev AY(id:String)(a:Addr):Obj:={ cls:=.type "builtin_function_or_method",data:=.fields #[.builtin id,.ref a] }
theorem Nt:Z0 (.type "method_descriptor") "__set__" = pure none:=by rw[Za,Zb];kernel_rfl
theorem Nu:Z0 (.type "method_descriptor") "__delete__" = pure none:=by rw[Za,Zb];kernel_rfl
theorem Dq:Slot "method_descriptor" "__get__" "method_descriptor.__get__":=
 .of (owner:="method_descriptor") (n:="__get__") (by rw[Za,Zb];kernel_rfl) (by decide +kernel) (by decide +kernel) (by decide +kernel)
  (by first|exact .inl (by decide +kernel)|exact .inr (by decide +kernel)) (by rw[Zc];kernel_rfl)
theorem JZ:YT table "method_descriptor.__get__" = some Wm.«method_descriptor.__get__»:=Zd (by kernel_rfl)
theorem LX(a b c:VX):Ze "method_descriptor.__get__" ⟨[a,b,c],[]⟩:=by unfold Ze;kernel_rfl
structure Bnd(T:String)(name:Str)(id:String):Prop where
 slot:Slot T name id
 ty:typeOf (.builtin id)=pure (.type "method_descriptor")
 told:Manifest.toldItsClass.contains id=false
 owner:(kfb_private% "nameAndClass") (.builtin id)=pure (name,.type T)
 sub:aa (.type T) (.type T)=pure true
section
variable{prog:VY}{w:VZ}{A:Va}{E:VX->Vb->Prop}{s:Vb}
theorem HZ{T id:String}{name:Str}{a:Addr}{P:Fin->Vb->Prop}(b:Bnd T name id)(hT:s.TypeIs (.ref a) T)(h:P (.done (.ret (.ref s.heap.objs.size))) { s with heap:=s.heap.push (AY id a) }) :
  Vc (model prog w) A (Wm.«method_descriptor.__get__» ⟨[.builtin id,.ref a,.type T],[]⟩) P E s:=by
 unfold Wm.«method_descriptor.__get__»
 refine Ve (ZM (a:=(.builtin id,some (.ref a),some (.type T))) (by first|rfl|kernel_rfl) ?_)
 simp only[b.told]
 refine KFB.if_not rfl ?_
 show Vc _ _ ((kfb_private% "checkInstance") (.builtin id) (.ref a) >>= fun _=>newFields "builtin_function_or_method" [.builtin id,.ref a] >>= fun v=>ret v) _ _ _
 refine Ve ?_
 show Vc _ _ ((kfb_private% "nameAndClass") (.builtin id) >>= _) _ _ _
 refine Ve (ZM b.owner ?_)
 refine Ve (Zm hT b.sub ?_)
 refine KFB.if_not rfl (WM ?_)
 exact Ve (XX (WM h))
theorem Eu{id:String}{name:Str}{a:Addr}{es:Array DictEntry}{k:Nat}{sl:Array (Option VX)}{u:Tok}(b:Bnd "dict" name id)(hname:(["__module__","__name__","__qualname__","__doc__","__annotations__"]:List Str).contains name=false) :
  Meets (Wm.«object.__getattribute__» ⟨[.ref a,.str name u],[]⟩) (fun A R s=>s.heap.get? a=some { cls:=.type "dict",dict:=none,data:=.dict es k,slots:=sl }/\R (.ok (.ret (.ref s.heap.objs.size))) { s with heap:=s.heap.push (AY id a) }):=
 Meets.of_wp fun prog w A R s hs=>by
  obtain⟨hp,g,d,tk,os⟩:=s
  obtain⟨hx,hs⟩:=hs
  have hT:(⟨hp,g,d,tk,os⟩:Vb).TypeIs (.ref a) "dict":=⟨_,hx,rfl⟩
  have f1:=b.slot.lookup
  have f2:=b.ty
  have f3:=Dq.lookup
  have f4:=Nt
  have f5:=Nu
  unfold Wm.«object.__getattribute__»
  repeat (any_goals (first|assumption|wp_step))
  rw[hname,if_neg ab]
  repeat (any_goals (first|assumption|wp_step))
  exact ZV Dq.plain JZ (Dq.check _ _ _ _ _ _ _ _ b.ty (LX _ _ _) (HZ b hT (WM ⟨_,rfl,hs⟩)))
theorem FM{id:String}{name:Str}{a:Addr}{es:Array (Int×VX)}{k:Nat}{t:Vi}{sl:Array (Option VX)}{u:Tok}(b:Bnd "set" name id)(hname:(["__module__","__name__","__qualname__","__doc__","__annotations__"]:List Str).contains name=false) :
  Meets (Wm.«object.__getattribute__» ⟨[.ref a,.str name u],[]⟩) (fun A R s=>s.heap.get? a=some { cls:=.type "set",dict:=none,data:=.set es k t,slots:=sl }/\R (.ok (.ret (.ref s.heap.objs.size))) { s with heap:=s.heap.push (AY id a) }):=
 Meets.of_wp fun prog w A R s hs=>by
  obtain⟨hp,g,d,tk,os⟩:=s
  obtain⟨hx,hs⟩:=hs
  have hT:(⟨hp,g,d,tk,os⟩:Vb).TypeIs (.ref a) "set":=⟨_,hx,rfl⟩
  have f1:=b.slot.lookup
  have f2:=b.ty
  have f3:=Dq.lookup
  have f4:=Nt
  have f5:=Nu
  unfold Wm.«object.__getattribute__»
  repeat (any_goals (first|assumption|wp_step))
  rw[hname,if_neg ab]
  repeat (any_goals (first|assumption|wp_step))
  exact ZV Dq.plain JZ (Dq.check _ _ _ _ _ _ _ _ b.ty (LX _ _ _) (HZ b hT (WM ⟨_,rfl,hs⟩)))
theorem Ie:Bnd "dict" "get" "dict.get":=⟨F.slot_dict_get,F.type_dict_get,by decide +kernel,by first|rfl|kernel_rfl,by rw[Zc];kernel_rfl⟩
theorem Ic:Bnd "dict" "__contains__" "dict.__contains__":=⟨F.slot_dict_contains,F.type_dict_contains,by decide +kernel,by first|rfl|kernel_rfl,by rw[Zc];kernel_rfl⟩
theorem J8:Bnd "set" "__contains__" "set.__contains__":=⟨F.slot_set_contains,F.type_set_contains,by decide +kernel,by first|rfl|kernel_rfl,by rw[Zc];kernel_rfl⟩
end
theorem HN:YT table "dict.__getattribute__" = some Wm.«object.__getattribute__»:=
 YU (id':="object.__getattribute__") (by kernel_rfl) (by decide +kernel) (by decide +kernel) (by kernel_rfl)
theorem IV:YT table "set.__getattribute__" = some Wm.«object.__getattribute__»:=
 YU (id':="object.__getattribute__") (by kernel_rfl) (by decide +kernel) (by decide +kernel) (by kernel_rfl)
section
variable{prog:VY}{w:VZ}{A:Va}{E:VX->Vb->Prop}{s:Vb}
theorem EE{a:Addr}{o:Obj}{es:Array DictEntry}{k:Nat}{name:Str}{id:String}{Q:VX->Vb->Prop}(b:Bnd "dict" name id)(hx:s.heap.get? a=some o)(hc:o.cls=.type "dict")(hdat:o.data=.dict es k)(hd:o.dict=none)(hname:(["__module__","__name__","__qualname__","__doc__","__annotations__"]:List Str).contains name=false)(h:∀ tk,Q (.ref s.heap.objs.size) { s with heap:=s.heap.push (AY id a),toks:=tk }) :
  Vc (model prog w) A (Xx (.ref a) name true) Q E s:=by
 obtain⟨c,dct,dat,sl⟩:=o
 simp only at hc hdat hd
 subst hc hdat hd
 obtain⟨hp,g,d,tk,os⟩:=s
 have hT:∀ tk',(⟨hp,g,d,tk',os⟩:Vb).TypeIs (.ref a) "dict":=fun _=>⟨_,hx,rfl⟩
 have f3:=ae.lookup
 have f4:=ae.bind (.ref a)
 unfold Xx getAttrBy
 repeat (any_goals (first|assumption|exact hT _|((with_reducible show Vc _ _ (call (af "dict.__getattribute__") _ _) _ _ _);refine Wh ae (hT _) HN (F.args_dict_getattribute_2 _ _) (Eu b hname) ⟨hx,?_⟩)|wp_step))
 exact WM (h _)
theorem Eb{a:Addr}{o:Obj}{es:Array (Int×VX)}{k:Nat}{t:Vi}{name:Str}{id:String}{Q:VX->Vb->Prop}(b:Bnd "set" name id)(hx:s.heap.get? a=some o)(hc:o.cls=.type "set")(hdat:o.data=.set es k t)(hd:o.dict=none)(hname:(["__module__","__name__","__qualname__","__doc__","__annotations__"]:List Str).contains name=false)(h:∀ tk,Q (.ref s.heap.objs.size) { s with heap:=s.heap.push (AY id a),toks:=tk }) :
  Vc (model prog w) A (Xx (.ref a) name true) Q E s:=by
 obtain⟨c,dct,dat,sl⟩:=o
 simp only at hc hdat hd
 subst hc hdat hd
 obtain⟨hp,g,d,tk,os⟩:=s
 have hT:∀ tk',(⟨hp,g,d,tk',os⟩:Vb).TypeIs (.ref a) "set":=fun _=>⟨_,hx,rfl⟩
 have f3:=ag.lookup
 have f4:=ag.bind (.ref a)
 unfold Xx getAttrBy
 repeat (any_goals (first|assumption|exact hT _|((with_reducible show Vc _ _ (call (af "set.__getattribute__") _ _) _ _ _);refine Wh ag (hT _) IV (F.args_set_getattribute_2 _ _) (FM b hname) ⟨hx,?_⟩)|wp_step))
 exact WM (h _)
end
structure BndC(T id:String):Prop where
 sig:∃ sg,aj id=some sg/\{ sg with full:=s!"{Bind.lastOf T}.{Bind.lastOf id}" }=sg
 kind:ak id=some .method
 va:Manifest.varargsMethods.contains id=false
 md:aa (.type T) (.type "module")=pure false
 plain:plainId id=true
section
variable{M:Wd}{prog:VY}{w:VZ}{A:Va}{E:VX->Vb->Prop}{s:Vb}
theorem J1{T id:String}{a:Addr}{o:Obj}{rest:List VX}{Q:Unit->Vb->Prop}(b:BndC T id)(ho:s.heap.get? a=some o)(hc:o.cls=.type T)(hd:∀ k,o.data≠.cls k)(ha:Ze id ⟨.ref a::rest,[]⟩)(q:Q () s):Vc M A (checkBoundCall id ⟨.ref a::rest,[]⟩) Q E s:=by
 obtain⟨sg,h1,h2⟩:=b.sig
 have hT:s.TypeIs (.ref a) T:=⟨o,ho,hc⟩
 have hca:Bind.checkArgs id sg ⟨.ref a::rest,[]⟩=pure ():=by
  have:=ha
  unfold Ze at this
  rw[h1]at this
  exact this
 unfold checkBoundCall
 rw[h1,b.kind]
 dsimp only
 rw[if_neg (by decide)]
 refine Ve (Zm hT b.md ?_)
 rw[if_neg (by rw[b.va];decide)]
 have e:Vc M A (isType (.ref a)) (fun r s'=>r=false/\s'=s) E s:=by
  unfold isType
  refine Ve (X1 ho ?_)
  obtain⟨oc,od,oda,osl⟩:=o
  cases oda<;>first|exact WM ⟨rfl,rfl⟩|exact absurd rfl (hd _)
 refine Ve (Vv e (fun r s' h=>?_) fun _ _ h=>h)
 obtain⟨rfl,rfl⟩:=h
 rw[if_neg (by decide)]
 refine Ve (wpAny_typeOf hT ?_)
 dsimp only
 rw[h2,hca]
 exact WM q
theorem Cp{T id:String}{f a:Addr}{o:Obj}{rest:List VX}{B:Wm}{R:XF->Vb->Prop}(b:BndC T id)(hf:s.heap.get? f=some (AY id a))(ho:s.heap.get? a=some o)(hc:o.cls=.type T)(hd:∀ k,o.data≠.cls k)(ha:Ze id ⟨.ref a::rest,[]⟩)(he:YT table id=some B)(h:Vc (model prog w) A.in1 (B ⟨.ref a::rest,[]⟩) (fun fin s'=>match fin with | .done f=>R (.ok f) s' | .again c'=>c'.quiet=true/\Wq (model prog w) A c' R s') (fun e s'=>R (.error e) s') s) :
  Wq (model prog w) A (.call (.ref f) ⟨rest,[]⟩) R s:=by
 refine ZL ?_
 show Vc _ A.in1 (callAny (.ref f) ⟨rest,[]⟩) _ _ s
 unfold callAny
 refine Ve (wpAny_load hf ?_)
 dsimp only
 rw[if_pos (by decide)]
 refine Ve (J1 b ho hc hd ha ?_)
 have fin:(Code.builtin id ⟨.ref a::rest,[]⟩).quiet=true/\Wq (model prog w) A (.builtin id ⟨.ref a::rest,[]⟩) R s:=
  ⟨ZN b.plain _,ZP he (by rw[ZQ b.plain];exact h)⟩
 first
  | exact WM fin
  | exact Ve (WM (WM fin))
  | exact Ve (WM fin)
theorem KN{T id:String}(h:(match aj id with|some sg=>s!"{Bind.lastOf T}.{Bind.lastOf id}" == sg.full|none=>false)=true):∃ sg,aj id=some sg/\{ sg with full:=s!"{Bind.lastOf T}.{Bind.lastOf id}" }=sg:=by
 cases q:aj id with
 | none=>rw[q]at h;cases h
 | some sg=>rw[q]at h;have e:=beq_iff_eq.mp h;exact⟨sg,rfl,by rw[e]⟩
theorem HT:BndC "dict" "dict.get":=⟨KN (by kernel_rfl),by kernel_rfl,by decide +kernel,by rw[Zc];kernel_rfl,by decide +kernel⟩
theorem HS:BndC "dict" "dict.__contains__":=⟨KN (by kernel_rfl),by kernel_rfl,by decide +kernel,by rw[Zc];kernel_rfl,by decide +kernel⟩
theorem Ig:BndC "set" "set.__contains__":=⟨KN (by kernel_rfl),by kernel_rfl,by decide +kernel,by rw[Zc];kernel_rfl,by decide +kernel⟩
end
section
variable{prog:VY}{w:VZ}{A:Va}{E:VX->Vb->Prop}{s:Vb}
theorem FK{K:Type}[DecidableEq K]{knd:KeyKind prog w K}{a:Addr}{k:K}{key:VX}{S:K->Bool}{n:Nat}{P:Fin->Vb->Prop}(hkey:knd.is k key=true)(hsc:key.scannable=true)(hS:s.heap.SetOf knd a S n)(h:P (.done (.ret (.bool (S k)))) { s with toks:=s.toks+1 }):Vc (model prog w) A (Wm.«frozenset.__contains__» ⟨[.ref a,key],[]⟩) P E s:=by
 unfold Wm.«frozenset.__contains__» ZX
 simp only[List.isEmpty_nil,bind_assoc]
 unfold ZY Builtin.Frozenset.withSetAsKey setContains
 refine Ve (WM ?_)
 try dsimp only
 refine Ve (WM ?_)
 try dsimp only
 refine Ve (am ?_)
 refine Vd ?_
 refine Ve (knd.pyHash hkey ?_)
 refine Ve (wpAny_setFind_of (s:={ s with toks:=s.toks+1 }) hkey hsc hS fun r hr=>?_)
 refine WM ?_
 show Vc _ _ (ret (Value.bool r.isSome)) _ _ _
 rw[hr]
 exact WM h
end
section
variable{prog:VY}{w:VZ}{A:Va}{E:VX->Vb->Prop}{s:Vb}
theorem Cr{T id:String}{f a:Addr}{o:Obj}{rest:List VX}{B:Wm}{S:PySem.Spec}{Q:VX->Vb->Prop}(b:BndC T id)(hf:s.heap.get? f=some (AY id a))(ho:s.heap.get? a=some o)(hc:o.cls=.type T)(hd:∀ k,o.data≠.cls k)(ha:Ze id ⟨.ref a::rest,[]⟩)(he:YT table id=some B)(g:MeetsIn prog w (B ⟨.ref a::rest,[]⟩) S)(h:S A (wants Q E) s):Vc (model prog w) A (call (.ref f) rest) Q E s:=
 Wr (Cp b hf ho hc hd ha he (g A (wants Q E) s h))
theorem E1{T id:String}{f a:Addr}{o:Obj}{rest:List VX}{B:Wm}{Q:VX->Vb->Prop}(b:BndC T id)(hf:s.heap.get? f=some (AY id a))(ho:s.heap.get? a=some o)(hc:o.cls=.type T)(hd:∀ k,o.data≠.cls k)(ha:Ze id ⟨.ref a::rest,[]⟩)(he:YT table id=some B)(h:Vc (model prog w) A.in1 (B ⟨.ref a::rest,[]⟩) (fun fin s'=>∃ v,fin=.done (.ret v)/\Q v s') E s):Vc (model prog w) A (call (.ref f) rest) Q E s:=
 Wr (Cp b hf ho hc hd ha he (Vv h (fun fin s' q=>by obtain⟨v,rfl,q⟩:=q;exact q) fun _ _ q=>q))
end
section
variable{c:Ctx}{m:Lo}{H:Hp}{pos:Pos}{Q:V->Lo->Hp->Prop}
theorem G5{d:Addr}{ep:Nat}{es:List (IS×V)}{name:Str}{id:String}(b:Bnd "dict" name id)(hx:AK c H d (.dict ep es))(hname:autoParam ((["__module__","__name__","__qualname__","__doc__","__annotations__"]:List Str).contains name=false) BX)(h:∀ f,Q (.ref f) m ((f,.obj (AY id d))::H)):PJ c (.ref d) name m H Q:=fun s va R r=>by
 cases (r:va=_)
 obtain⟨_,kvs,ha,hd,_⟩:=Am (hx m s R)
 obtain⟨o,des,ho,hex,hdat,_⟩:=ha
 refine .new R h fun P k=>EE b ho hex.1 hdat hex.2.1 hname fun tk=>?_
 exact k s.heap.objs.size _ (s.heap.push (AY id d)) tk AH (AR _) ⟨WR _ rfl,trivial⟩ rfl
theorem Mv{d:Addr}{z:C8}{ks:List IS}{name:Str}{id:String}(b:Bnd "set" name id)(hx:AK c H d (.set z ks))(hname:autoParam ((["__module__","__name__","__qualname__","__doc__","__annotations__"]:List Str).contains name=false) BX)(h:∀ f,Q (.ref f) m ((f,.obj (AY id d))::H)):PJ c (.ref d) name m H Q:=fun s va R r=>by
 cases (r:va=_)
 obtain⟨⟨o,ho,hex,hdat⟩,I⟩:=DH (hx m s R)
 refine .new R h fun P k=>Eb b ho hex.1 hdat hex.2.1 hname fun tk=>?_
 exact k s.heap.objs.size _ (s.heap.push (AY id d)) tk AH (AR _) ⟨WR _ rfl,trivial⟩ rfl
theorem Ga{f d:Addr}{id:String}(hf:AK c H f (.obj (AY id d))):Ba c (.ref f) H:=fun m s vf R r=>by
 cases (r:vf=_)
 obtain⟨ho,_⟩:=hf m s R
 exact⟨.machine,.inr (.inl rfl),(ao (part:=none) ho).andThen .now⟩
theorem J7{f d:Addr}{ep:Nat}{es:List (IS×V)}{k:IS}{u:V}(hf:AK c H f (.obj (AY "dict.get" d)))(hx:AK c H d (.dict ep es))(h:Q ((dictAt es k).getD u) m H):Ck c (.ref f) [k.v,u] m H Q:=fun s vf vvs R rf rv=>by
 cases (rf:vf=_)
 obtain⟨vk,vu,rfl,rk,ru⟩:=AS.two rv
 obtain⟨h0,kvs,ha,hd,hp⟩:=Am (hx m s R)
 obtain⟨hfo,_⟩:=hf m s R
 obtain⟨o,des,ho,hex,hdat,_⟩:=ha
 refine .val R h fun P kk=>Cr HT hfo ho hex.1 (fun k e=>by rw[hdat]at e;cases e) (YM _ _ _) YL (YN (Ag c.prog c.w) d (BI rk) h0 vu) ⟨_,hd.mapOf,kk _ _ ?_⟩
 cases q:dictAt es k with
 | none=>rw[hp.at.1.mp q];exact ru
 | some w=>obtain⟨v,hv,hr⟩:=hp.at.2 w q;rw[hv];exact hr
theorem J6{f d:Addr}{z:C8}{ks:List IS}{k:IS}(hf:AK c H f (.obj (AY "set.__contains__" d)))(hx:AK c H d (.set z ks))(h:Q (.bool (decide (k∈ks))) m H):Ck c (.ref f) [k.v] m H Q:=fun s vf vvs R rf rv=>by
 cases (rf:vf=_)
 obtain⟨vk,rfl,rk⟩:=AS.sole rv
 obtain⟨hr,I⟩:=DH (hx m s R)
 have hS:=Bc.setOf hr I
 obtain⟨o,ho,hex,hdat⟩:=hr
 obtain⟨hfo,_⟩:=hf m s R
 have hk:=BI rk
 refine .val R h fun P kk=>E1 Ig hfo ho hex.1 (fun k e=>by rw[hdat]at e;cases e) (PySem.F.args_set_contains_2 _ _) entry_set_contains ?_
 exact FK hk (Hk hk) hS ⟨_,rfl,kk _ (s.toks+1) rfl⟩
end
section
variable{c:Ctx}{m:Lo}{H:Hp}{pos:Pos}
theorem HX{d:Addr}{ep:Nat}{es:List (IS×V)}{k:IS}{u:V}{F:O->Hp}{Q:Lo->Hp->Prop}(sp:DF d (.dict ep es) H F)(h:∀ ep',Q m (F (.dict ep' (BQ es k u))))(hz:es.length<=1000000):UE c (.ref d) k.v u m H Q:=fun s va vb vv R ra rb rv=>by
 cases (ra:va=_)
 obtain⟨h0,kvs,ha,hd,hp⟩:=Am (R.obj _ _ (sp.upd (.dict 0 [])).mem)
 intro P kk
 refine wpAny_setItem_pairs (knd:=Ag c.prog c.w) (BI rb) hd (fun h' hd' hs'=>?_) (by rw[hp.length];have:WS=16777216:=rfl;exact AL 2 (.l Y0 (.n 1000000)) (.e Y1 (.n 16777216)) (.l Y0 Y1) [_,_] hz this)
 obtain⟨ep',ha'⟩:=hd'.dictAt
 have al:∃ o,h'.get? d=some o:=ha'.elim fun o t9=>t9.elim fun _ t9=>t9.elim fun ho _=>⟨o,ho⟩
 have Fp':Fp c.env.locals H (F (.dict ep' (BQ es k u))) s.heap h':=.upd (sp.upd _) (Heap.SameBut.kp hs') al
 have hp':=(hp.lift fun _ _ r=>R.lift Fp' r).put (k:=k) (R.lift Fp' rv)
 exact kk () () m _ h' (Bq s (s.toks+1)) (R.upd (Bq s (s.toks+1)) (sp.upd (.dict ep' (BQ es k u))) (Heap.SameBut.kp hs') al fun _=>⟨h0,_,ha',hp'⟩) Fp' trivial (h ep')
end
section
set_option maxHeartbeats 4000000
theorem Pm:ak "object.__init__" = some .slot:=by decide +kernel
theorem Nn:aq "object.__init__" = some ("object","__init__"):=by decide +kernel
noncomputable def S8(K:Frag)(C:Addr)(cd:ClassData)(sl:Array (Option VX)):Bool:=(match ((sl.toList[4]?).join:Option VX) with|some (.builtin _)=>false|some _=>true|none=>false)&&!cd.mro.isEmpty&&cd.mro.contains (.ref C)&&cd.mro.contains (.type "object") &&
   specialIn K (.ref C) "__call__" == some (some (.builtin "type.__call__"))&&instIn K (.ref C) (.type "type")==some true &&
   findIn K (.ref C) "__init__" == some (some (.builtin "object.__init__"))
noncomputable def GQ(K:Frag)(C:Addr):Bool:=match K.lookup C with
 | some ⟨_,_,.cls cd,sl⟩=>S8 K C cd sl
 | _=>false
theorem JT{K:Frag}{C:Addr}(e:GQ K C=true):∃ oc od cd sl,K.lookup C=some ⟨oc,od,.cls cd,sl⟩/\S8 K C cd sl=true:=by
 delta GQ at e
 cases q:K.lookup C with
 | none=>rw[q]at e;cases e
 | some o=>
  rw[q]at e
  obtain⟨oc,od,dat,sl⟩:=o
  cases dat with
  | cls cd=>exact⟨oc,od,cd,sl,rfl,e⟩
  | _=>cases e
structure NewC(M:Wd)(h:Heap)(C:Addr):Prop where
 obj:∃ oc od cd sl,h.get? C=some ⟨oc,od,.cls cd,sl⟩/\cd.mro.isEmpty=false
 made:Wc M h (au (.ref C)) none
 self:Wc M h (aa (.ref C) (.ref C)) true
 top:Wc M h (aa (.ref C) (.type "object")) true
 call:Wc M h (av (.ref C) "__call__") (some (.builtin "type.__call__"))
 typ:Wc M h (Zk (.ref C) (.type "type")) true
 init:Wc M h (Z0 (.ref C) "__init__") (some (.builtin "object.__init__"))
theorem ID{K:Frag}{M:Wd}{h:Heap}(X:K.In h){C:Addr}(e:GQ K C=true):NewC M h C:=by
 obtain⟨oc,od,cd,sl,ho,e⟩:=JT e
 .unfold S8 at e
  rw[X5,X5,X5,X5,X5,X5,X6,beq_iff_eq,beq_iff_eq,beq_iff_eq]at e
  obtain⟨⟨⟨⟨⟨⟨e3,e4⟩,e5⟩,e6⟩,e7⟩,e8⟩,e9⟩:=e
  have hc:clsIn K C=some cd:=by unfold clsIn;rw[ho]
  have hm:Wc M h (mroOf (.ref C)) cd.mro:=(X3 X hc).andThen .now
  obtain⟨c,l,hl⟩:∃ c l,cd.mro=c::l:=by cases q:cd.mro with|nil=>rw[q]at e4;cases e4|cons c l=>exact⟨c,l,rfl⟩
  refine⟨⟨oc,od,cd,sl,X _ _ ho,e4⟩,?_,looks_mroIn X ?_,looks_mroIn X ?_,looks_specialIn X e7,looks_instIn X e8,YA X e9⟩
  .intro A Q E s k q
   unfold au
   refine Ve (hm A _ E s k ?_)
   rw[hl,XK]
   refine Ve (Ve (Ve (Ve (X1 (k _ _ (X _ _ ho)) (WM ?_)))))
   dsimp only
   rw[<- WO]
   cases z:(sl.toList[4]?).join with
   | none=>rw[z]at e3;cases e3
   | some v=>
    rw[z]at e3
    cases v with
    | builtin i=>cases e3
    | _=>exact WM (WM (WM q))
  .unfold mroIn;rw[hc,Xz,if_neg (by rw[e4];decide),e5]
  .unfold mroIn;rw[hc,Xz,if_neg (by rw[e4];decide),e6]
section
variable{prog:VY}{w:VZ}{A:Va}{K:Frag}{C:Addr}{R:XF->Vb->Prop}{s:Vb}
noncomputable def Lz(K:Frag)(C:Addr)(R:XF->Vb->Prop)(r:XF)(s':Vb):Prop:=match r with
 | .ok (.ret v)=>∃ x o,v=.ref x/\s'.heap.get? x=some o/\o.cls=.ref C/\K.In s'.heap/\R (.ok (.ret (.ref x))) s'
 | .ok _=>False
 | .error e=>R (.error e) s'
theorem Ot{mc:VX}{f p:Addr}{rest rp:List VX}(X:K.In s.heap)(hn:GQ K C=true)(hr:readsIn K C mc=true)(hf:aw K (.ref C) mc "__new__" = some (.get (.builtin "staticmethod.__get__") (.ref p) .none (.ref C)))(hp:recIn K p "staticmethod" = some (.ref f::rp))(hne:rest.isEmpty=false)(hargs:∀ self,Ze "object.__init__" ⟨self::rest,[]⟩)(h:Wq (model prog w) (A.under (.builtin "type.__call__" ⟨.ref C::rest,[]⟩)) (.call (.ref f) ⟨.ref C::rest,[]⟩) (Lz K C R) { s with toks:=s.toks+1 }) :
  Wq (model prog w) A (.call (.ref C) ⟨rest,[]⟩) R s:=by
 obtain⟨⟨oc,od,cd,sl,hC,e4⟩,made,self,top,call,typ,init⟩:=ID (M:=model prog w) X hn
 refine ZL ?_
 show Vc _ _ (callAny (.ref C) _) _ _ _
 refine nd_load hC ?_
 show Vc _ _ (callAny.viaDunder (.ref C) _) _ _ _
 unfold callAny.viaDunder
 refine Ve (call.here ?_)
 dsimp only
 rw[tc_bind]
 refine Ve (WM (Ve (WM ?_)))
 refine WM (a:=Fin.again (.call (.builtin "type.__call__") ⟨.ref C::rest,[]⟩)) (ax rfl ?_)
 refine codeAny_call_builtin_at (ZT _ (by decide +kernel)) entry_typeCall (check_slot tc_kind tc_split typ (tc_args _ _ _) ?_)
 unfold Wm.«type.__call__»
 have hm:Wc (model prog w) s.heap (mroOf (.ref C)) cd.mro:=((ao (part:=none) hC).andThen .now).andThen .now
 obtain⟨hp',g,d,t,os⟩:=s
 repeat (first|rw[e4]|rw[if_neg ab]|((fail_if_success (with_reducible show Vc _ _ (Xx (.ref C) _ _) _ _ _));lk))
 refine cls_bind (s:=⟨hp',g,d,t,os⟩) X hr hf (Wr (sm_get (s:=⟨hp',g,d,t+1,os⟩) X hp (handed_on rfl ?_)))
 refine Ve (Vd (Wr (YB h fun r s' z=>?_)))
 rcases r with e|(v|_|_|_)<;>first|exact z|exact z.elim|skip
 obtain⟨x,o,rfl,hx,hcl,hk,hR⟩:=z
 obtain⟨hq',g',d',t',os'⟩:=s'
 have ty:Wc (model prog w) hq' (typeOf (.ref x)) (.ref C):=hcl▸(ao hx).andThen .now
 obtain⟨_,m1,s1,t1,_,_,i1⟩:=ID (M:=model prog w) hk hn
 unfold Zk ay av
 refine Ve (Ve (ty.at (s1.at ?_)))
 rw[if_neg (by decide)]
 refine Ve (Vd (Ve (Ve (ty.at (i1.at ?_)))))
 refine Vd ?_
 rw[oi_bind]
 refine Ve (WM (Ve ?_))
 have hi:Wc (model prog w) hq' (Zk (.ref x) (.type "object")) true:=ty.andThen t1
 refine Wr (ZV PySem.F.slot_object_init.plain PySem.F.entry_object_init (check_slot Pm Nn hi (hargs _) ?_))
 unfold Wm.«object.__init__»
 show Vc _ _ (if (!rest.isEmpty || !([]:List (Str×VX)).isEmpty)=true then _ else _) _ _ _
 rw[if_pos (by rw[hne];rfl)]
 refine Ve (ty.at (Ve (i1.at (Ve (m1.at ?_)))))
 rw[if_neg (by decide)]
 show Vc _ _ (if (!(false || ((none:Option String) != some "object.__new__")))=true then _ else _) _ _ _
 rw[if_neg (by decide)]
 refine WM ?_
 show Vc _ _ (pure (some ZZ)) _ _ _
 refine WM ?_
 show Vc _ _ (if (ZZ != ZZ)=true then _ else _) _ _ _
 rw[if_neg (by decide)]
 exact WM hR
end
section
variable{c:Ctx}{m:Lo}{H:Hp}{pos:Pos}{Q:V->Lo->Hp->Prop}{K:Frag}
theorem QS{C f p:Addr}{mc:VX}{rp:List VX}{vs:List V}{k:Nat}(B:Base c K)(hfu:c.fuel=k+1)(hn:GQ K C=true)(hr:readsIn K C mc=true)(hf:aw K (.ref C) mc "__new__" = some (.get (.builtin "staticmethod.__get__") (.ref p) .none (.ref C)))(hp:recIn K p "staticmethod" = some (.ref f::rp))(hne:vs≠[])(hargs:∀ self rest,rest.length=vs.length->Ze "object.__init__" ⟨self::rest,[]⟩)(h:∀ c2,Made c c2->c2.fuel=k->Base c2 K->Ao c2 (.ref f) (.ref C::vs) m H fun v m' H'=>∃ xs,v=.tup (some C) xs/\Q v m' H'):Ao c (.ref C) vs m H Q:=fun s vf vvs R rf rv P kont=>by
 cases (rf:vf=_)
 have X:=B.kin _ R.keep
 have dep:(c.A.under (.builtin "type.__call__" ⟨.ref C::vvs,[]⟩)).depth=c.A.depth+1:=rfl
 have uni:(c.A.under (.builtin "type.__call__" ⟨.ref C::vvs,[]⟩)).units=c.A.units+1:=rfl
 let c2:Ctx:=⟨c.prog,c.w,c.A.under (.builtin "type.__call__" ⟨.ref C::vvs,[]⟩),c.env,c.G,k,c.hh,(by have:=c.hd;rw[hfu]at this;rw[dep];exact AJ 3 (.t (.a Y0 (.a Y1 N1)) Y2) (.t (.a (.a Y0 N1) Y1) Y2) [_,_,_] this),(by have:=c.hu;rw[hfu]at this;rw[uni];exact AJ 3 (.t (.a (.a Y0 (.m 40 (.a Y1 N1))) (.n 400)) Y2) (.t (.a (.a (.a Y0 N1) (.m 40 Y1)) (.n 400)) Y2) [_,_,_] this),c.hk⟩
 have M:Made c c2:=⟨rfl,rfl,hfu,rfl,rfl⟩
 have hv:vvs.isEmpty=false:=by
  have:=rv.length
  cases vvs with
  | nil=>cases vs with|nil=>exact absurd rfl hne|cons a l=>simp at this
  | cons a l=>rfl
 refine Ot X hn hr hf hp hv (fun self=>hargs self vvs rv.length) ?_
 have R0:Rel c ⟨m,H⟩ (sw s s.heap (Bq s (s.toks+1))):=R.toks _
 refine YB (h c2 M rfl (M.base B) (sw s s.heap (Bq s (s.toks+1))) (.ref f) (.ref C::vvs) (M.rel.mp R0) rfl (.cons rfl rv) (fun v s'=>Lz K C (fun r s'=>match r with | .ok (.ret v)=>P v s' | .ok _=>False | .error _=>False) (.ok (.ret v)) s') fun b v m' H' h' tk' R' F' r' q'=>?_) fun r s' q=>?_
 .obtain⟨xs,rfl,q⟩:=q'
  obtain⟨x,items,rfl,⟨o,n,ho,hc,hd⟩,hx⟩:=id r'
  exact⟨x,o,rfl,ho,hc,B.kin _ (M.rel.mpr R').keep,kont _ _ m' H' h' tk' (M.rel.mpr R') F' r' q⟩
 .cases r with
  | ok f=>cases f<;>first|exact q|exact q.elim
  | error e=>exact q.elim
end
end
section
set_option maxHeartbeats 4000000
theorem I0:typeOf (.type "tuple")=pure (.type "type"):=by kernel_rfl
theorem Hc:opaqueClassAbove (.type "tuple")=pure none:=by first|rfl|kernel_rfl
section
variable{c:Ctx}{m:Lo}{H:Hp}{pos:Pos}{Q:V->Lo->Hp->Prop}{K:Frag}
theorem Lh{T:String}{name:Str}{id:String}(B:Base c K)(ht:typeOf (.type T)=pure (.type "type"))(ho:opaqueClassAbove (.type T)=pure none)(hga:findIn K (.type "type") "__getattribute__" = some (some (.builtin "type.__getattribute__")))(hi:subIn K (.type "type") (.type "type")=some true)(e:aw K (.type T) (.type "type") name=some (.val (.builtin id)))(hh:handedIn (.builtin id)=true) :
  GM c (.ty T) name (.bi id) [] H:=fun m s vu pl P R r k=>by
 cases (r:vu=_)
 have X:=B.kin _ R.keep
 unfold getMethod av
 refine Ve (Ve (ZM ht ((YA X hga).here ?_)))
 dsimp only
 rw[if_pos canon_tga]
 refine Ve (cls_open (hook:=none) X (.of_pure ho) (.of_pure ht) hga ?_ hi e (WM (handed_on hh ?_)))
 .unfold hookBefore
  rw[if_neg (by decide)]
  exact .now
 .exact WM (k _ _ (s.toks+1) rfl rfl)
end
end
section
set_option maxHeartbeats 4000000
structure TupC(M:Wd)(h:Heap)(C:Addr):Prop where
 obj:∃ oc od cd sl,h.get? C=some ⟨oc,od,.cls cd,sl⟩/\cd.hasDel=false
 sub:Wc M h (aa (.ref C) (.type "tuple")) true
 base:Wc M h (Bind.staticBase (.ref C)) (.type "tuple")
 init:Wc M h (Z0 (.ref C) "__init__") (some (.builtin "object.__init__"))
theorem PU:ak "tuple.__new__" = some .builtinFn:=by kernel_rfl
theorem NE:aq "tuple.__new__" = some ("tuple","__new__"):=by kernel_rfl
theorem NF:plainId "tuple.__new__" = true:=by decide +kernel
theorem IA:au (.type "tuple")=pure (some "tuple.__new__"):=PySem.F.called_tuple.made
section
variable{prog:VY}{w:VZ}{A:Va}{E:VX->Vb->Prop}{s:Vb}
theorem NG{C it:Addr}{Q:Unit->Vb->Prop}(T:TupC (model prog w) s.heap C)(q:Q () s):Vc (model prog w) A (ZK "tuple.__new__" ⟨[.ref C,.ref it],[]⟩) Q E s:=by
 obtain⟨⟨oc,od,cd,sl,hC,hd⟩,sub,base,init⟩:=T
 obtain⟨hp,g,d,t,os⟩:=s
 have ity:Wc (model prog w) hp (isType (.ref C)) true:=(ao hC).andThen .now
 have tm:Wc (model prog w) hp (au (.type "tuple")) (some "tuple.__new__"):=.of_pure IA
 unfold ZK
 rw[PU]
 dsimp only
 rw[NE]
 dsimp only
 repeat (first|rw[if_neg ab]|rw[bne_self_eq_false]|rw[Bool.not_true]|lk)
 exact q
theorem RT{C it:Addr}{o:Obj}{items:Array VX}{n:Nat}{P:Fin->Vb->Prop}(T:TupC (model prog w) s.heap C)(ho:s.heap.get? it=some o)(hc:o.cls=.type "tuple")(hd:o.data=.seq items n)(hz:items.size<=1000)(q:∀ h':Heap,(∀ b o',s.heap.get? b=some o'->h'.get? b=some o')->P (.done (.ret (.ref (h'.objs.size+1)))) { s with heap:=(h'.push X9).push { cls:=.ref C,dict:=some h'.objs.size,data:=.seq items } }) :
  Vc (model prog w) A (Wm.«tuple.__new__» ⟨[.ref C,.ref it],[]⟩) P E s:=by
 obtain⟨⟨oc,od,cd,sl,hC,hdel⟩,sub,base,init⟩:=T
 obtain⟨hp,g,d,t,os⟩:=s
 have ity:Wc (model prog w) hp (isType (.ref C)) true:=(ao hC).andThen .now
 have tm:Wc (model prog w) hp (au (.type "tuple")) (some "tuple.__new__"):=.of_pure IA
 have hsl:items.size<=WS:=by have:WS=16777216:=rfl;exact AL 2 (.l Y0 (.n 1000)) (.e Y1 (.n 16777216)) (.l Y0 Y1) [_,_] hz this
 unfold Wm.«tuple.__new__» Bind.madeHere
 repeat (first|rw[if_neg ab]|rw[bne_self_eq_false]|rw[Bool.not_true]|rw[YE]|((fail_if_success (with_reducible show Vc _ _ (collect _) _ _ _));lk))
 refine wpAny_collect_seq (s:=⟨hp,g,d,t,os⟩) it (.inr rfl) ho hc hd (fun h' hk=>?_) hsl
 have hC':((h'.push X9).push { cls:=.ref C,dict:=some h'.objs.size,data:=.seq items }).get? C=some ⟨oc,od,.cls cd,sl⟩:=WQ _ (WQ _ (hk _ _ hC))
 refine Ve (WM (Ve (wpAny_alloc (Ve ?_))))
 show Vc _ _ (newObj (.ref C) (.seq items.toList.toArray) (some h'.objs.size)) _ _ _
 rw[show items.toList.toArray=items from by simp]
 unfold newObj
 dsimp only
 rw[if_neg (by exact AJ 2 (.l Y0 Y1) (.no (.t Y1 Y0)) [_,_] hsl)]
 unfold newObjAsIs classHasDel
 refine Ve (wpAny_alloc ?_)
 refine Ve (Ve (wpAny_load hC' (WM ?_)))
 rw[hdel]
 refine WM (WM ?_)
 have e:(h'.push X9).objs.size=h'.objs.size+1:=by simp
 have z:=q h' hk
 rw[<- e]at z
 exact z
end
section
variable{c:Ctx}{m:Lo}{H:Hp}{pos:Pos}{Q:V->Lo->Hp->Prop}{K:Frag}
theorem FD{C:Addr}{xs:List At}(hT:∀ h,K.In h->TupC (model c.prog c.w) h C)(B:Base c K)(hz:xs.length<=1000)(h:Q (.tup (some C) xs) m H):Ck c (.bi "tuple.__new__") [.ref C,.tup .none xs] m H Q:=fun s vf vvs R rf rv P k=>by
 cases (rf:vf=_)
 obtain⟨va,vt,rfl,ra,rt⟩:=AS.two rv
 cases (ra:va=_)
 obtain⟨it,items,rfl,⟨o,n,ho,hc,hd⟩,hx⟩:=rt
 have T:=hT s.heap (B.kin _ R.keep)
 have hi:items.size<=1000:=by have:=hx.length;simp at this;exact AL 2 (.l Y0 (.n 1000)) (.e Y1 Y0) (.l Y1 (.n 1000)) [_,_] hz this
 refine Wr (ZV NF PySem.F.entry_tuple_new (NG T (RT T ho hc hd hi fun h' hk=>?_)))
 have g1:∀ b o,s.heap.get? b=some o->((h'.push X9).push { cls:=.ref C,dict:=some h'.objs.size,data:=.seq items }).get? b=some o:=fun b o e=>WQ _ (WQ _ (hk _ _ e))
 refine k (.tup (some C) xs) _ m H _ (Bq s s.toks) (R.grow (Bq s s.toks) g1) (.grow g1) ⟨_,items,rfl,⟨{ cls:=.ref C,dict:=some h'.objs.size,data:=.seq items },0,?_,rfl,rfl⟩,hx⟩ h
 have e:(h'.push X9).objs.size=h'.objs.size+1:=by simp
 have z:((h'.push X9).push { cls:=.ref C,dict:=some h'.objs.size,data:=.seq items }).get? (h'.push X9).objs.size=some { cls:=.ref C,dict:=some h'.objs.size,data:=.seq items }:=WR _ rfl
 rw[e]at z
 exact z
end
end
section
set_option maxHeartbeats 4000000
theorem Kz:Builtin.Slots.bestBase [.type "tuple"]=pure (.type "tuple"):=by first|rfl|kernel_rfl
noncomputable def S7(cd:ClassData):Bool:=(match cd.bases with|[.type b]=>b == "tuple" | _=>false)&&(match cd.mro with|_::_::_=>true|_=>false)&&!cd.hasDel&&cd.mro.contains (.type "tuple")
noncomputable def NB(K:Frag)(C:Addr):Bool:=match K.lookup C with
 | some ⟨_,_,.cls cd,_⟩=>S7 cd
 | _=>false
theorem LJ{K:Frag}{M:Wd}{h:Heap}(X:K.In h){C:Addr}(e:GQ K C=true)(e2:NB K C=true):TupC M h C:=by
 obtain⟨⟨oc',od',cd',sl',hC',hm'⟩,made,self,top,call,typ,init⟩:=ID (M:=M) X e
 obtain⟨oc,od,cd,sl,ho,_⟩:=JT e
 .delta NB at e2
  rw[ho]at e2
  refine(fun (e2:S7 cd=true)=>?_) e2
  unfold S7 at e2
  rw[X5,X5,X5,X6]at e2
  obtain⟨⟨⟨b1,b2⟩,b3⟩,b4⟩:=e2
  have hc:clsIn K C=some cd:=by unfold clsIn;rw[ho]
  have hm:Wc M h (mroOf (.ref C)) cd.mro:=(X3 X hc).andThen .now
  have hb:cd.bases=[.type "tuple"]:=by
   cases q:cd.bases with
   | nil=>rw[q]at b1;cases b1
   | cons v l=>
    rw[q]at b1
    cases l with
    | nil=>
     cases v with
     | type b=>rw[eq_of_beq (show(b == "tuple")=true from b1)]
     | _=>cases b1
    | cons w l=>cases v<;>cases b1
  obtain⟨x,y,l,hl⟩:∃ x y l,cd.mro=x::y::l:=by
   cases q:cd.mro with
   | nil=>rw[q]at b2;cases b2
   | cons x l=>
    cases l with
    | nil=>rw[q]at b2;cases b2
    | cons y l=>exact⟨x,y,l,rfl⟩
  have hem:cd.mro.isEmpty=false:=by rw[hl];rfl
  refine⟨⟨oc,od,cd,sl,X _ _ ho,b3⟩,looks_mroIn X (by unfold mroIn;rw[hc,Xz,if_neg (by rw[hem];decide),b4]),?_,init⟩
  intro A Q E s k q
  unfold Bind.staticBase
  refine Ve (hm A _ E s k ?_)
  rw[hl,XK]
  refine Ve (Ve (Ve (made A _ E s k ?_)))
  rw[if_neg (by decide)]
  refine Ve ((X3 X hc) A _ E s k ?_)
  rw[hb,Kz]
  refine Ve (WM (WM ?_))
  show Vc M A (forIn (y::l) (none,az "tuple") _) _ E s
  rw[XK]
  refine Ve (Ve ?_)
  rw[show au ((none:Option VX),az "tuple").snd=pure (some "tuple.__new__") from IA]
  refine WM ?_
  rw[if_pos (show(some "tuple.__new__").isSome=true from rfl)]
  exact WM (WM (WM q))
end
section
variable{c:Ctx}{m:Lo}{H:Hp}{pos:Pos}
noncomputable def Hd(ns:List (Str×Wt)):Env:=Kd { (default:Wx) with scope:=⟨.function,ns,false,false,[]⟩ } 0 0
theorem NM{env env':Env}{ts:List Expr}{v:Expr}(h1:env.blockKind=env'.blockKind)(h2:env.kindOf=env'.kindOf):WF ts v env=WF ts v env':=by
 unfold WF
 rw[h1,h2]
theorem LL{ns:List (Str×Wt)}(hn:c.env.scope.names=ns){ts:List Expr}{v:Expr}{r:Option (List Str)}(h:WF ts v (Hd ns)=pure r):WF ts v c.env=pure r:=by
 rw[<- h]
 refine NM ?_ ?_
 .unfold Env.blockKind;rw[c.hk];rfl
 .funext x;unfold Env.kindOf;rw[hn];rfl
noncomputable abbrev Ui(c:Ctx):List Str->List V->Lo->Hp->(Lo->Hp->Prop)->Prop:=Mw c fun x=>storeName c.env x
theorem LO{ns:List (Str×Wt)}{ts vs:List Expr}{k1 k2:Nat}{p p2:Pos}{names:List Str}{Q:Fl->Lo->Hp->Prop}(hn:c.env.scope.names=ns)(hb:WF [.Tuple ts k1 p] (.Tuple vs k2 p2) (Hd ns)=pure (some names))(h:Af c (.Tuple vs k2 p2) m H fun v m1 H1=>∃ xs:List At,v=.tup .none xs/\names.length=xs.length/\Ui c names.reverse (xs.map .at).reverse m1 H1 (Q .next))(hs:autoParam (WE [.Tuple ts k1 p] (.Tuple vs k2 p2) pos.line c.env=pure false) AV):DX c (.Assign [.Tuple ts k1 p] (.Tuple vs k2 p2) pos) m H Q:=fun s R P k=>by
 refine Assign_Tuple_swapped (h s R _ fun a va m1 H1 h1 tk1 R1 F1 r1 q1=>?_) hs (LL hn hb)
 obtain⟨xs,rfl,hl,q⟩:=q1
 obtain⟨t,items,rfl,ht,hr⟩:=r1
 have hlen:names.length=items.size:=by rw[hl,<- hr.length,V9]
 rw[hlen]
 refine unpackItems_tuple c.hh ht.plain fun h' hext=>?_
 have hg:∀ b o,h1.get? b=some o->h'.get? b=some o:=fun b o e=>hext b o (WA (WB e)) e
 exact Mw.run (fun _ _ _ _=>wpAny_bindName) q _ _ (R1.grow tk1 hg) (AS.reverse hr.reps) _ fun b v m2 H2 h2 tk2 R2 F2 r2 q2=>k .next _ m2 H2 h2 tk2 R2 ((F1.trans R1.hasL (Fp.grow hg)).trans (R1.grow tk1 hg).hasL F2) rfl q2
theorem NW{ns:List (Str×Wt)}{ts vs:List Expr}{k1 k2:Nat}{p p2:Pos}{x y z:Str}{Q:Fl->Lo->Hp->Prop}(hn:c.env.scope.names=ns)(hb:WF [.Tuple ts k1 p] (.Tuple vs k2 p2) (Hd ns)=pure (some [x,y,z]))(h:Af c (.Tuple vs k2 p2) m H fun v m1 H1=>∃ a b d:At,v=.tup .none [a,b,d]/\O9 c z (.at d) m1 H1 fun m2 H2=>O9 c y (.at b) m2 H2 fun m3 H3=>O9 c x (.at a) m3 H3 (Q .next))(hs:autoParam (WE [.Tuple ts k1 p] (.Tuple vs k2 p2) pos.line c.env=pure false) AV):DX c (.Assign [.Tuple ts k1 p] (.Tuple vs k2 p2) pos) m H Q:=
 LO hn hb (h.mono fun v m1 H1 q=>by obtain⟨a,b,d,rfl,q⟩:=q;exact⟨[a,b,d],rfl,rfl,q⟩) hs
theorem JG{ns:List (Str×Wt)}{ts vs:List Expr}{k1 k2:Nat}{p p2:Pos}{x y:Str}{Q:Fl->Lo->Hp->Prop}(hn:c.env.scope.names=ns)(hb:WF [.Tuple ts k1 p] (.Tuple vs k2 p2) (Hd ns)=pure (some [x,y]))(h:Af c (.Tuple vs k2 p2) m H fun v m1 H1=>∃ a b:At,v=.tup .none [a,b]/\O9 c y (.at b) m1 H1 fun m2 H2=>O9 c x (.at a) m2 H2 (Q .next))(hs:autoParam (WE [.Tuple ts k1 p] (.Tuple vs k2 p2) pos.line c.env=pure false) AV):DX c (.Assign [.Tuple ts k1 p] (.Tuple vs k2 p2) pos) m H Q:=
 LO hn hb (h.mono fun v m1 H1 q=>by obtain⟨a,b,rfl,q⟩:=q;exact⟨[a,b],rfl,rfl,q⟩) hs
end
section
variable{c:Ctx}{K:Frag}{ns:List (Str×Wt)}{x:Str}
noncomputable def M7(K:Frag)(ns:List (Str×Wt))(x:Str):Bool:=(ns.lookup x==some .globalImplicit)&&(nsIn K Xg x).any Option.isNone&&!(x==("__name__":Str))
theorem O0{α:Type}{o:Option (Option α)}(h:o.any Option.isNone=true):o=some .none:=by
 cases o with
 | none=>cases h
 | some p=>cases p with
  | none=>rfl
  | some v=>cases h
theorem Base.blt(B:Base c K)(hn:c.env.scope.names=ns){u:At}{v:VX}(h:M7 K ns x=true)(hb:bootBuiltins x=some v)(hr:u.rep v):An c x u:=by
 unfold M7 at h
 rw[X5,X5]at h
 exact B.bi (BO hn (beq_iff_eq.mp h.1.1)) (O0 h.1.2) hb (fun e=>by rw[e]at h;exact absurd h.2 (by decide)) hr
theorem Base.len(B:Base c K)(hn:c.env.scope.names=ns)(h:M7 K ns "len" = true):An c "len" (.bi "len"):=B.blt hn h (by kernel_rfl) rfl
theorem Base.min(B:Base c K)(hn:c.env.scope.names=ns)(h:M7 K ns "min" = true):An c "min" (.bi "min"):=B.blt hn h (by kernel_rfl) rfl
theorem Base.sorted(B:Base c K)(hn:c.env.scope.names=ns)(h:M7 K ns "sorted" = true):An c "sorted" (.bi "sorted"):=B.blt hn h (by kernel_rfl) rfl
theorem Base.range(B:Base c K)(hn:c.env.scope.names=ns)(h:M7 K ns "range" = true):An c "range" (.ty "range"):=B.blt hn h (by kernel_rfl) rfl
theorem Base.list(B:Base c K)(hn:c.env.scope.names=ns)(h:M7 K ns "list" = true):An c "list" (.ty "list"):=B.blt hn h (by kernel_rfl) rfl
theorem Base.tuple(B:Base c K)(hn:c.env.scope.names=ns)(h:M7 K ns "tuple" = true):An c "tuple" (.ty "tuple"):=B.blt hn h (by kernel_rfl) rfl
theorem Base.set(B:Base c K)(hn:c.env.scope.names=ns)(h:M7 K ns "set" = true):An c "set" (.ty "set"):=B.blt hn h (by kernel_rfl) rfl
theorem Base.map(B:Base c K)(hn:c.env.scope.names=ns)(h:M7 K ns "map" = true):An c "map" (.ty "map"):=B.blt hn h (by kernel_rfl) rfl
theorem Base.enumerate(B:Base c K)(hn:c.env.scope.names=ns)(h:M7 K ns "enumerate" = true):An c "enumerate" (.ty "enumerate"):=B.blt hn h (by kernel_rfl) rfl
end
theorem AI.trans{m m1 m2:Lo}{H H1 H2:Hp}(a:AI m H m1 H1)(b:AI m1 H1 m2 H2):AI m H m2 H2:=⟨fun x u e=>a.1 x u (b.1 x u e),fun p hp=>a.2.1 p (b.2.1 p hp),fun nd=>b.2.2 (a.2.2 nd)⟩
theorem AI.swap{m:Lo}{p q:Addr×O}{H:Hp}:AI m (p::q::H) m (q::p::H):=AI.perm (.swap p q H)
theorem AI.heap{m:Lo}{H H':Hp}(h:Xj H' H):AI m H m H':=⟨fun _ _ e=>e,fun _ q=>h.subset q,fun nd=>(h.map _).nodup nd⟩
theorem Aa{m m':Lo}{H:Hp}(h:Ab m m'):AI m H m' H:=Cy h (bA _)
theorem FT.less{c:Ctx}{m:Lo}{H:Hp}{e:Expr}{Q:Bool->Lo->Hp->Prop}{m':Lo}{H':Hp}(l:AI m H m' H')(h:FT c e m' H' Q):FT c e m H Q:=
 fun s R P k=>h s (R.weaken l.1 l.2.1 (l.2.2 R.nd)) P fun b v m' H2 h tk R' F r q=>k b v m' H2 h tk R' (F.less l.2.1) r q
noncomputable def Pu(c:Ctx)(e:Expr)(m:Lo)(H:Hp)(v:V):Prop:=∀ Q:V->Lo->Hp->Prop,Q v m H->Af c e m H Q
noncomputable def C5(c:Ctx)(e:Expr)(m:Lo)(H:Hp)(b:Bool):Prop:=∀ Q:Bool->Lo->Hp->Prop,Q b m H->FT c e m H Q
noncomputable def Lc(c:Ctx)(x:Str):Prop:=c.env.kindOf x=some .local/\(x==("__debug__":Str))=false
section
variable{c:Ctx}{m:Lo}{H:Hp}{pos p1 p2:Pos}{k1:Nat}
noncomputable def Up(ns:List (Str×Wt))(x:Str):Bool:=ns.lookup x==some .local&&!(x==("__debug__":Str))
theorem AG{ns:List (Str×Wt)}(hn:c.env.scope.names=ns){x:Str}(h:Up ns x=true):Lc c x:=by
 unfold Up at h
 rw[X5]at h
 exact⟨BO hn (beq_iff_eq.mp h.1),by simpa using h.2⟩
theorem Pu.nm{x:Str}{u:V}(l:Lc c x)(hv:m.lookup x=some u):Pu c (.Name x pos) m H u:=fun _ h=>Ll l.1 hv h l.2
theorem Pu.n{x:Str}{u:V}(l:Lc c x)(hv:autoParam (m.lookup x=some u) CZ):Pu c (.Name x pos) m H u:=Pu.nm l hv
theorem Pu.one{i:Int}:Pu c (.Constant (.int i) k1 pos) m H (.int i):=fun _ h=>Oh h
theorem Pu.add{l r:Expr}{a b:Int}(h1:Pu c l m H (.int a))(h2:Pu c r m H (.int b)):Pu c (.BinOp l .Add r pos) m H (.int (a+b)):=fun _ h=>BP (h1 _ (h2 _ (TL h)))
theorem Pu.sub{l r:Expr}{a b:Int}(h1:Pu c l m H (.int a))(h2:Pu c r m H (.int b)):Pu c (.BinOp l .Sub r pos) m H (.int (a-b)):=fun _ h=>BP (h1 _ (h2 _ (TJ h)))
theorem Pu.addN{l r:Expr}{a b:Nat}(h1:Pu c l m H (.int a))(h2:Pu c r m H (.int b)):Pu c (.BinOp l .Add r pos) m H (.int ((a+b:Nat):Int)):=h1.add h2
theorem Pu.pred{l:Expr}{a:Nat}(h1:Pu c l m H (.int a))(ha:0<a):Pu c (.BinOp l .Sub (.Constant (.int 1) k1 p1) pos) m H (.int ((a-1:Nat):Int)):=by
 have:(a:Int)-1=((a-1:Nat):Int):=Ld ha
 rw[<- this]
 exact h1.sub .one
theorem Pu.succ{l:Expr}{a:Nat}(h1:Pu c l m H (.int a)):Pu c (.BinOp l .Add (.Constant (.int 1) k1 p1) pos) m H (.int ((a+1:Nat):Int)):=h1.add .one
theorem Pu.at{v i:Expr}{l:Addr}{xs:List Int}{k:Nat}(h1:Pu c v m H (.ref l))(h2:Pu c i m H (.int k))(hx:AK c H l (.list (xs.map .int)))(hk:k<xs.length)(hz:xs.length<=1000)(hs:autoParam (∀ o t,WV i false (.ref o) (.int (k:Nat) t)=operate [.ref o,.int (k:Nat) t] (WW (.ref o) (.int (k:Nat) t))) Ik):Pu c (.Subscript v i pos) m H (.int (xs.getD k 0)):=fun _ h=>
 RF (h1 _ (h2 _ (NN (xs:=xs.map .int) hx (VO k) (by simp[hk]) h hs (by have:WS=16777216:=rfl;rw[V8];exact AL 2 (.l Y0 (.n 1000)) (.e Y1 (.n 16777216)) (.l Y0 Y1) [_,_] hz this))))
theorem C5.gtN{l r:Expr}{a b:Nat}(h1:Pu c l m H (.int a))(h2:Pu c r m H (.int b))(hm:autoParam (V0 .Gt r=false) CZ):C5 c (.Compare l [.Gt] [r] pos) m H (decide (b<a)):=fun _ h=>
 CG (h1 _ (h2 _ (T9 (Ak (by rw[show decide ((b:Int)<a)=decide (b<a) by simp];exact h))))) hm
theorem C5.ltN{l r:Expr}{a b:Nat}(h1:Pu c l m H (.int a))(h2:Pu c r m H (.int b))(hm:autoParam (V0 .Lt r=false) CZ):C5 c (.Compare l [.Lt] [r] pos) m H (decide (a<b)):=fun _ h=>
 CG (h1 _ (h2 _ (T7 (Ak (by rw[show decide ((a:Int)<b)=decide (a<b) by simp];exact h))))) hm
theorem C5.geN{l r:Expr}{a b:Nat}(h1:Pu c l m H (.int a))(h2:Pu c r m H (.int b))(hm:autoParam (V0 .GtE r=false) CZ):C5 c (.Compare l [.GtE] [r] pos) m H (decide (b<=a)):=fun _ h=>
 CG (h1 _ (h2 _ (Ue (Ak (by rw[show decide ((b:Int)<=a)=decide (b<=a) by simp];exact h))))) hm
theorem C5.eqI{l r:Expr}{a b:Int}(h1:Pu c l m H (.int a))(h2:Pu c r m H (.int b))(hm:autoParam (V0 .Eq r=false) CZ):C5 c (.Compare l [.Eq] [r] pos) m H (a==b):=fun _ h=>
 CG (h1 _ (h2 _ (QV (Ak h)))) hm
theorem C5.val{e:Expr}{b:Bool}(h1:Pu c e m H (.bool b))(he:autoParam (∀ whole,isTrue e c.env whole=(do let v <- whole;V1 e.pos;V2 [v] (truthy v))) C4):C5 c e m H b:=fun _ h=>Dl (h1 _ (Ak h)) he
theorem C5.not{e:Expr}{b:Bool}(h1:C5 c e m H b):C5 c (.UnaryOp .Not e pos) m H (!b):=fun _ h=>TD (h1 _ h)
theorem C5.and4{t1 t2 t3 t4:Expr}{b1 b2 b3 b4:Bool}(h1:C5 c t1 m H b1)(h2:b1=true->C5 c t2 m H b2)(h3:b1=true->b2=true->C5 c t3 m H b3)(h4:b1=true->b2=true->b3=true->C5 c t4 m H b4) :
  C5 c (.BoolOp .And [t1,t2,t3,t4] pos) m H (b1&&b2&&b3&&b4):=fun Q h=>KL (Dw (h1 _ (by
 cases b1
 .exact h
 refine Dw (h2 rfl _ ?_)
 cases b2
 .exact h
 refine Dw (h3 rfl rfl _ ?_)
 cases b3
 .exact h
 refine Dw (h4 rfl rfl rfl _ ?_)
 cases b4
 .exact h
 exact FG h)))
theorem Pu.has{fn e:Expr}{f d:Addr}{z:C8}{ks:List IS}{k:IS}(h1:Pu c fn m H (.ref f))(h2:Pu c e m H k.v)(hf:AK c H f (.obj (AY "set.__contains__" d)))(hx:AK c H d (.set z ks))(he:autoParam (V3 [e] c.env=(false,eval e c.env)::V3 [] c.env) AV)(hE:∀ Q,(Af c fn m H fun f m0 H0=>BJ c pos [e] m0 H0 fun vs m1 H1=>Ba c f H1/\Ck c f vs m1 H1 Q)->Af c (.Call fn [e] [] pos) m H Q):Pu c (.Call fn [e] [] pos) m H (.bool (decide (k∈ks))):=fun _ h=>
 hE _ (h1 _ (AA (h2 _ (AC ⟨Ga hf,J6 hf hx h⟩)) he))
theorem DZ{ns:List (Str×Wt)}{ts:List Expr}{e1 e2 e3:Expr}{k1 k2:Nat}{p p2:Pos}{x y z:Str}{a b d:At}{Q:Fl->Lo->Hp->Prop}(hn:c.env.scope.names=ns)(hb:WF [.Tuple ts k1 p] (.Tuple [e1,e2,e3] k2 p2) (Hd ns)=pure (some [x,y,z]))(h1:Pu c e1 m H (.at a))(h2:Pu c e2 m H (.at b))(h3:Pu c e3 m H (.at d))(lx:Lc c x)(ly:Lc c y)(lz:Lc c z)(h:Q .next ((x,.at a)::(y,.at b)::(z,.at d)::m) H)(hs:autoParam (WE [.Tuple ts k1 p] (.Tuple [e1,e2,e3] k2 p2) pos.line c.env=pure false) AV)(s1:autoParam (V3 [e1,e2,e3] c.env=(false,eval e1 c.env)::V3 [e2,e3] c.env) AV)(s2:autoParam (V3 [e2,e3] c.env=(false,eval e2 c.env)::V3 [e3] c.env) AV)(s3:autoParam (V3 [e3] c.env=(false,eval e3 c.env)::V3 [] c.env) AV):DX c (.Assign [.Tuple ts k1 p] (.Tuple [e1,e2,e3] k2 p2) pos) m H Q:=
 NW hn hb (Du (AA (h1 _ (AA (h2 _ (AA (h3 _ (AC ⟨[a,b,d],rfl,bB rfl,a,b,d,rfl,AE lz.1 (AE ly.1 (AE lx.1 h))⟩)) s3)) s2)) s1)) hs
theorem LQ{x:Str}{e:Expr}{p:Pos}{a b:Nat}{Q:Fl->Lo->Hp->Prop}(lx:Lc c x)(hv:m.lookup x=some (.int a))(h1:Pu c e m H (.int b))(h:Q .next ((x,.int ((a+b:Nat):Int))::m) H):DX c (.AugAssign (.Name x p) .Add e pos) m H Q:=
 RX lx.1 hv (h1 _ (Rg (AE lx.1 h)))
theorem Al{x:Str}{e:Expr}{p:Pos}{v:V}{Q:Fl->Lo->Hp->Prop}(lx:Lc c x)(h1:Pu c e m H v)(h:Q .next ((x,v)::m) H)(hs:autoParam (WD e (some (.Name x p)) pos.line c.env=pure false) AV):DX c (.Assign [.Name x p] e pos) m H Q:=
 Ac (h1 _ (AE lx.1 h)) hs
end
section
variable{c:Ctx}{m:Lo}{H:Hp}{pos p1 p2:Pos}{k1:Nat}{K:Frag}
theorem Pu.attr{o:Expr}{x C d:Addr}{fs:List (Str×V)}{name:Str}{u:V}(B:Base c K)(hC:Cls K C)(hx:AK c H x (.inst C d))(hd:AK c H d (.ns fs))(hf:findIn K (.ref C) name=some .none)(h1:Pu c o m H (.ref x))(hu:fs.lookup name=some u)(hb:autoParam (u.notBi=true) AV)(he:autoParam (eval (.Attribute o name pos) c.env=(do let v <- eval o c.env;V1 pos.atName;let r <- V2 [v] (Xx v name true);Xy o v r;pure r)) CZ):Pu c (.Attribute o name pos) m H u:=fun _ h=>EG (h1 _ (K9 B hC hf hx hd hu h hb)) he
theorem Pu.glob{x:Str}{u:At}(hg:An c x u)(hd:autoParam ((x==("__debug__":Str))=false) BX):Pu c (.Name x pos) m H (.at u):=fun _ h=>BW hg h hd
theorem Pu.none:Pu c (.Constant .none k1 pos) m H .none:=fun _ h=>EF h
theorem Pu.call1{fn e:Expr}{f v r:V}(h1:Pu c fn m H f)(h2:Pu c e m H v)(hk:Ba c f H)(hc:∀ Q,Q r m H->Ck c f [v] m H Q)(he:autoParam (V3 [e] c.env=(false,eval e c.env)::V3 [] c.env) AV)(hE:∀ Q,(Af c fn m H fun f m0 H0=>BJ c pos [e] m0 H0 fun vs m1 H1=>Ba c f H1/\Ck c f vs m1 H1 Q)->Af c (.Call fn [e] [] pos) m H Q):Pu c (.Call fn [e] [] pos) m H r:=fun _ h=>
 hE _ (h1 _ (AA (h2 _ (AC ⟨hk,hc _ h⟩)) he))
theorem Pu.call2{fn e e2:Expr}{f v w r:V}(h1:Pu c fn m H f)(h2:Pu c e m H v)(h3:Pu c e2 m H w)(hk:Ba c f H)(hc:∀ Q,Q r m H->Ck c f [v,w] m H Q)(he:autoParam (V3 [e,e2] c.env=(false,eval e c.env)::V3 [e2] c.env) AV)(he2:autoParam (V3 [e2] c.env=(false,eval e2 c.env)::V3 [] c.env) AV)(hE:∀ Q,(Af c fn m H fun f m0 H0=>BJ c pos [e,e2] m0 H0 fun vs m1 H1=>Ba c f H1/\Ck c f vs m1 H1 Q)->Af c (.Call fn [e,e2] [] pos) m H Q):Pu c (.Call fn [e,e2] [] pos) m H r:=fun _ h=>
 hE _ (h1 _ (AA (h2 _ (AA (h3 _ (AC ⟨hk,hc _ h⟩)) he2)) he))
theorem Pu.len{e:Expr}{a:Addr}{xs:List V}(gl:An c "len" (.bi "len"))(h2:Pu c e m H (.ref a))(ha:AK c H a (.list xs))(hz:xs.length<=1000000)(he:autoParam (V3 [e] c.env=(false,eval e c.env)::V3 [] c.env) AV)(hE:∀ Q,(Af c (.Name ("len":Str) p1) m H fun f m0 H0=>BJ c pos [e] m0 H0 fun vs m1 H1=>Ba c f H1/\Ck c f vs m1 H1 Q)->Af c (.Call (.Name ("len":Str) p1) [e] [] pos) m H Q):Pu c (.Call (.Name ("len":Str) p1) [e] [] pos) m H (.int xs.length):=
 .call1 (.glob gl (hd:=by decide)) h2 Av (fun _ h=>Te ha h hz) he hE
theorem C5.isNone{l:Expr}{u:At}{r:Bool}(h1:Pu c l m H (.at u))(hr:G8 u .none r)(hm:autoParam (V0 .Is (.Constant .none k1 p1)=false) CZ):C5 c (.Compare l [.Is] [.Constant .none k1 p1] pos) m H r:=fun _ h=>
 CG (h1 _ (EF (T8 hr (Ak h)))) hm
theorem C5.isntNone{l:Expr}{u:At}{r:Bool}(h1:Pu c l m H (.at u))(hr:G8 u .none r)(hm:autoParam (V0 .IsNot (.Constant .none k1 p1)=false) CZ):C5 c (.Compare l [.IsNot] [.Constant .none k1 p1] pos) m H (!r):=fun _ h=>
 CG (h1 _ (EF (QU hr (Ak h)))) hm
theorem BU{t:Expr}{a b:List Stmt}{r:Bool}{Q:Fl->Lo->Hp->Prop}(h:C5 c t m H r)(h1:r=true->AW c a m H Q)(h0:r=false->AW c b m H Q):DX c (.If t a b pos) m H Q:=
 EP (h _ (EX h1 h0))
end
structure TupX(M:Wd)(h:Heap)(C:Addr):Prop where
 sub:Wc M h (aa (.ref C) (.type "tuple")) true
 iter:Wc M h (Z0 (.ref C) "__iter__") (some (.builtin "tuple.__iter__"))
 lt:Wc M h (Z0 (.ref C) "__lt__") (some (.builtin "tuple.__lt__"))
 len:Wc M h (Z0 (.ref C) "__len__") (some (.builtin "tuple.__len__"))
noncomputable def Hz(K:Frag)(C:Addr):Bool:=subIn K (.ref C) (.type "tuple")==some true&&findIn K (.ref C) "__iter__" == some (some (.builtin "tuple.__iter__"))&&findIn K (.ref C) "__lt__" == some (some (.builtin "tuple.__lt__"))&&findIn K (.ref C) "__len__" == some (some (.builtin "tuple.__len__"))
theorem LH{K:Frag}{M:Wd}{h:Heap}(X:K.In h){C:Addr}(e:Hz K C=true):TupX M h C:=by
 unfold Hz at e
 simp only[X5,beq_iff_eq]at e
 obtain⟨⟨⟨e1,e2⟩,e3⟩,e4⟩:=e
 exact⟨looks_subIn X e1,YA X e2,YA X e3,YA X e4⟩
theorem PW:ak "tuple.__iter__" = some .slot:=by decide +kernel
theorem NJ:aq "tuple.__iter__" = some ("tuple","__iter__"):=by decide +kernel
theorem PV:ak "tuple.__lt__" = some .slot:=by decide +kernel
theorem NI:aq "tuple.__lt__" = some ("tuple","__lt__"):=by decide +kernel
theorem NH:ak "tuple.__len__" = some .slot:=by decide +kernel
theorem L6:aq "tuple.__len__" = some ("tuple","__len__"):=by decide +kernel
section
variable{prog:VY}{w:VZ}{A:Va}{E:VX->Vb->Prop}{s:Vb}{C t:Addr}{items:Array VX}
theorem FW{M:Wd}{h:Heap}(ht:Bg h (some C) t items):Wc M h (typeOf (.ref t)) (.ref C):=by
 obtain⟨o,n,ho,hc,_⟩:=ht
 have:=(ao (M:=M) (part:=none) ho).andThen (f:=fun o=>(pure o.cls:Sem VX)) Looks.now
 rw[show o.cls=.ref C from hc]at this
 exact this
theorem I3{M:Wd}{h:Heap}(ht:Bg h (some C) t items)(T:TupX M h C):Wc M h (Zk (.ref t) (.type "tuple")) true:=(FW ht).andThen T.sub
theorem Bi{M:Wd}{h:Heap}{name:Str}{r:Option VX}(ht:Bg h (some C) t items)(l:Wc M h (Z0 (.ref C) name) r):Wc M h (av (.ref t) name) r:=(FW ht).andThen l
theorem EM{id n:String}{b:Wm}{rest:List VX}{Q:VX->Vb->Prop}(ht:Bg s.heap (some C) t items)(T:TupX (model prog w) s.heap C)(hk:ak id=some .slot)(hs:aq id=some ("tuple",n))(hp:plainId id=true)(ha:Ze id ⟨.ref t::rest,[]⟩)(hb:YT table id=some b)(h:Vc (model prog w) A.in1 (b ⟨.ref t::rest,[]⟩) (fun fin s'=>∃ v,fin=.done (.ret v)/\Q v s') E s):Vc (model prog w) A (call (.builtin id) (.ref t::rest)) Q E s:=
 Wr (ZV hp hb (check_slot hk hs (I3 ht T) ha (Vv h (fun fin s' q=>by obtain⟨v,rfl,q⟩:=q;exact q) fun _ _ q=>q)))
theorem KH{T:String}{name:Str}{id:String}{refuse:Sem VX}{Q:Option VX->Vb->Prop}{v:VX}(hl:Wc (model prog w) s.heap (av v name) (some (.builtin id)))(hb:Slot T name id)(hc:Vc (model prog w) A (call (.builtin id) [v]) (fun v=>Q (some v)) E s):Vc (model prog w) A (bC v name refuse) Q E s:=by
 unfold bC bindSpecialIfBound?
 refine Vd (Ve (Ve (hl.here ?_)))
 dsimp only
 rw[hb.bind]
 refine Ve (ZR ?_)
 have fin:Vc (model prog w) A (if (af id==ZZ)=true then (refuse >>= fun v=>pure (some v)) else (call (.builtin id) [v] >>= fun v=>pure (some v))) Q E s:=by
  rw[builtin_beq_none,if_neg (by decide)]
  exact Ve (Vv hc (fun v s' h'=>WM h') fun _ _ h'=>h')
 split
 .exact Ve (WM (WM fin))
 .exact am (Ve (WM (WM fin)))
theorem L5{T:String}{name:Str}{id:String}{args:List VX}{Q:Option VX->Vb->Prop}{v:VX}(hl:Wc (model prog w) s.heap (av v name) (some (.builtin id)))(hb:Slot T name id)(hc:Vc (model prog w) A (call (.builtin id) (v::args)) (fun v=>Q (some v)) E s):Vc (model prog w) A (callSpecialIfBound? v name args) Q E s:=by
 unfold callSpecialIfBound? bindSpecialIfBound?
 refine Vd (Ve (Ve (hl.here ?_)))
 dsimp only
 rw[hb.bind]
 refine Ve (ZR ?_)
 have fin:Vc (model prog w) A (call (.builtin id) ([v]++args) >>= fun v=>pure (some v)) Q E s:=
  Ve (Vv hc (fun v s' h'=>WM h') fun _ _ h'=>h')
 split
 .exact Ve (WM (WM fin))
 .exact am (Ve (WM (WM fin)))
theorem MV{Q:VX->Vb->Prop}(ht:Bg s.heap (some C) t items)(T:TupX (model prog w) s.heap C)(hQ:Q (.ref s.heap.objs.size) { s with heap:=s.heap.push { cls:=.type "tuple_iterator",data:=.fields #[.ref t,.int 0 0] } }):Vc (model prog w) A (pyIter (.ref t)) Q E s:=by
 unfold pyIter
 refine Ve ((Bi ht T.iter).here ?_)
 show Vc _ A (bC (.ref t) "__iter__" _ >>= _) Q E s
 refine Ve (KH (Bi ht T.iter) slot_tuple_iter (EM ht T PW NJ slot_tuple_iter.plain (args_tuple_iter _) entry_tuple_iter ?_))
 show Vc _ _ (do ret (<- newFields "tuple_iterator" [.ref t,rawInt 0])) _ _ s
 refine Ve (XX (WM ⟨_,rfl,?_⟩))
 exact Ve (aU ⟨_,WR _ rfl,rfl⟩ bF.lookup (WM hQ))
theorem NP{α:Type}{Q:α->Vb->Prop}(hh:A.handled=.none)(h:∀ e h',(ZU { s with heap:=h' } e "StopIteration")->(∀ b o,s.heap.get? b=some o->h'.get? b=some o)->E e { s with heap:=h' }):Vc (model prog w) A (bG:Sem α) Q E s:=by
 unfold bG newExc newTuple
 refine Ve (Ve (XX ?_ (by size_fits)))
 refine Ve (m:=Zl _ _) (ZM (a:=ZZ) (by first|rfl|(simp only[Zl];rfl)) ?_)
 refine XX ?_ (by size_fits)
 unfold raiseNew
 refine Ve (wpAny_handled ?_)
 rw[hh]
 exact Ve (WM (wpAny_throw (h (.ref _) _ ⟨_,WR _ rfl,rfl⟩ fun b o e=>WQ _ (WQ _ e))))
theorem JS{it:Addr}{i:Nat}{o:Obj}{n:Nat}{Q:Option VX->Vb->Prop}(hh:A.handled=.none)(hit:IsTupIter s.heap it t i)(ho:s.heap.get? t=some o)(hd:o.data=.seq items n)(h1:∀ x h',items[i]?=some x->IsTupIter h' it t (i+1)->Vs it s.heap h'->Q (some x) { s with heap:=h' })(h0:∀ h',items[i]?=.none->bH it s.heap h'->Q .none { s with heap:=h' }):Vc (model prog w) A (pyNext (.ref it)) Q E s:=by
 obtain⟨oi,hoi,hci,hdi⟩:=id hit
 unfold pyNext
 refine Ve (Zo (YO (name:=YP "__next__") hit.typeIs bF (YX bF hit.typeIs entry_tupleiter_next ?_ (args_tupleiter_next _))))
 show Vc _ _ (field (.ref it) 0 >>= _) _ _ s
 refine Ve (bI hoi hdi (x:=.ref t) rfl ?_)
 show Vc _ _ (if (Zz t==ZZ)=true then _ else _) _ _ s
 rw[if_neg (show ¬ ((Zz t==ZZ)=true) from ab)]
 show Vc _ _ (field (.ref it) 1 >>= _) _ _ s
 refine Ve (bI hoi hdi (x:=.int i 0) rfl ?_)
 show Vc _ _ (seqItems? (.ref t) >>= _) _ _ s
 refine Ve (Zs ho hd ?_)
 cases hx:items[i]? with
 | some x=>
  simp only[VQ,hx]
  refine Ve (Zr hoi hdi (by simp) (WM ⟨x,rfl,WM (h1 x _ hx ?_ (ZF ..))⟩))
  exact⟨_,ZD _ hoi (Obj.isFreed_of_fields (bJ hdi _)),(Obj.cls_mapFields ..).trans hci,by rw[bJ hdi];simp[rawInt]⟩
 | none=>
  simp only[VQ,hx]
  refine Ve (ZH (Ve (Zr hoi hdi (by simp) ?_)))
  refine NP hh fun e h' he hk=>?_
  refine Ve (Zm (b:=true) he Zn ?_)
  exact WM (h0 _ hx fun b o hb q=>hk b o ((ZF ..).extBut b o hb q))
theorem On{it:Addr}(hh:A.handled=.none)(hne:t≠it){o:Obj}{k:Nat}(hd:o.data=.seq items k)(n:Nat):∀ (i:Nat) (s:Vb) (Q:List VX->Vb->Prop),IsTupIter s.heap it t i->s.heap.get? t=some o->i+n<=items.size ->
  (∀ h',IsTupIter h' it t (i+n)->Vs it s.heap h'->Q ((items.toList.drop i).take n) { s with heap:=h' })->Vc (model prog w) A (draw (.ref it) n) Q E s:=by
 induction n with
 | zero=>exact fun i s Q hit _ _ hQ=>WM (dS▸hQ s.heap hit (Heap.SameBut.refl ..))
 | succ n ih=>
  intro i s Q hit ho hle hQ
  have hlt:i<items.size:=Vp (bK (bM n)) hle
  have hx:items[i]?=some items[i]:=dz hlt
  refine Ve (JS hh hit ho hd (fun x h1 hx' hit1 hs1=>?_) fun h' e=>nomatch hx.symm.trans e)
  rw[<- Option.some.inj (hx.symm.trans hx')]
  have ho1:h1.get? t=some o:=(hs1.2 t hne).trans ho
  have e1:i+(n+1)=i+1+n:=by rw[Nat.add_right_comm];rfl
  refine Ve (Vd (ih (i+1) { s with heap:=h1 } _ hit1 ho1 (e1▸hle) fun h2 hit2 hs2=>WM ?_))
  have q:=hQ h2 (e1▸hit2) (hs1.trans hs2)
  rw[aY (by exact hlt),List.take_succ_cons]at q
  exact q
theorem Iz{Q:List VX->Vb->Prop}(hh:A.handled=.none)(ht:Bg s.heap (some C) t items)(T:TupX (model prog w) s.heap C)(hQ:∀ h',(∀ b o,s.heap.get? b=some o->h'.get? b=some o)->Q items.toList { s with heap:=h' }):Vc (model prog w) A (unpackItems (.ref t) items.size none) Q E s:=by
 obtain⟨o,n,ho,hc,hd⟩:=id ht
 have hne:t≠s.heap.objs.size:=WA (WB ho)
 unfold unpackItems notIterableAtAll
 refine Ve (Ve ((Bi ht T.iter).here ?_))
 refine WM ?_
 rw[if_neg (by decide)]
 refine Ve (Vd (MV ht T ?_))
 dsimp only
 refine Ve (Vd (On hh hne hd items.size 0 _ _ ⟨_,WR _ rfl,rfl,rfl⟩ (WQ _ ho) (by exact Bh 1 (.l (.a (.n 0) Y0) Y0) [_]) fun h1 hit1 hs1=>?_))
 have hall:List.take items.size (List.drop 0 items.toList)=items.toList:=by rw[aM];exact aH (by simp)
 rw[hall,if_neg (by simp)]
 have ho1:h1.get? t=some o:=(hs1.2 t hne).trans (WQ _ ho)
 have hno:items[0+items.size]?=.none:=by simp
 refine Ve (Vd (JS hh hit1 ho1 hd (fun x h' e=>by rw[hno]at e;cases e) fun h2 _ he2=>?_))
 rw[if_neg (by decide)]
 exact WM (hQ h2 fun b ob e=>he2 b ob (WA (WB e)) ((hs1.2 b (WA (WB e))).trans (WQ _ e)))
end
section
variable{c:Ctx}{m:Lo}{H:Hp}{pos:Pos}{K:Frag}
theorem G3{C:Addr}(hT:∀ h,K.In h->TupX (model c.prog c.w) h C)(B:Base c K){ts:List Expr}{k1:Nat}{p:Pos}{xs:List At}{Q:Lo->Hp->Prop}(h:M5 c ts (xs.map .at) m H Q)(he:autoParam ((V7 ts c.env).map (·.2)=ts.map (fun t=>assign t c.env)) AV)(hs:autoParam ((V7 ts c.env).findIdx? (·.1)=.none) AV)(hn:autoParam (ts.length=xs.length) AV):Fs c (.Tuple ts k1 p) (.tup (some C) xs) m H Q:=fun s va R r P k=>by
 obtain⟨a,items,rfl,ht,hr⟩:=r
 have hl:(V7 ts c.env).length=items.size:=by
  rw[<- V8 (f:=(·.2)),he,V8,hn,<- V9,hr.length]
 show Vc _ _ (assign _ _ _) _ _ _
 rw[assign_Tuple]
 refine Ve (XJ ?_)
 unfold unpack
 rw[hl,hs]
 refine Ve (Vd (Iz c.hh ht (hT _ (B.kin _ R.keep)) fun h' hg=>?_))
 rw[he]
 refine M5.run h _ _ (R.grow (Bq s s.toks) hg) hr.reps P fun b v m2 H2 h2 tk2 R2 F2 r2 q2=>k b v m2 H2 h2 tk2 R2 ((Fp.grow hg).trans (R.grow (Bq s s.toks) hg).hasL F2) r2 q2
end
noncomputable def FI(E:Nat->Nat->Bool)(p q k:Nat):Prop:=∀ t,t<k->E (p+t) (q+t)=true
noncomputable def bk(E:Nat->Nat->Bool):Nat->Nat->Nat
 | 0,j=>if E 0 j=true then 1 else 0
 | i+1,0=>if E (i+1) 0=true then 1 else 0
 | i+1,j+1=>if E (i+1) (j+1)=true then bk E i j+1 else 0
theorem Fo{E:Nat->Nat->Bool}{i j:Nat}(h:E i j=false):bk E i j=0:=by
 cases i with
 | zero=>exact if_neg (by rw[h];decide)
 | succ i=>
  cases j with
  | zero=>exact if_neg (by rw[h];decide)
  | succ j=>exact if_neg (by rw[h];decide)
theorem Ky(E:Nat->Nat->Bool):∀ i j,bk E i j<=i+1/\bk E i j<=j+1/\FI E (i+1-bk E i j) (j+1-bk E i j) (bk E i j)
 | 0,j=>by
  by_cases h:E 0 j=true
  .have e:bk E 0 j=1:=if_pos h
   rw[e]
   refine⟨Vn _,XT (WJ _),fun t ht=>?_⟩
   have:t=0:=bN.mp ht
   subst this
   exact h
  .have e:bk E 0 j=0:=if_neg h
   rw[e]
   exact⟨WJ _,WJ _,fun t ht=>nomatch ht⟩
 | i+1,0=>by
  by_cases h:E (i+1) 0=true
  .have e:bk E (i+1) 0=1:=if_pos h
   rw[e]
   refine⟨XT (WJ _),Vn _,fun t ht=>?_⟩
   have:t=0:=bN.mp ht
   subst this
   exact h
  .have e:bk E (i+1) 0=0:=if_neg h
   rw[e]
   exact⟨WJ _,WJ _,fun t ht=>nomatch ht⟩
 | i+1,j+1=>by
  obtain⟨h1,h2,h3⟩:=Ky E i j
  by_cases h:E (i+1) (j+1)=true
  .have e:bk E (i+1) (j+1)=bk E i j+1:=if_pos h
   rw[e]
   refine⟨XT h1,XT h2,fun t ht=>?_⟩
   rw[bO,bO]
   rcases Yp t (bk E i j) with q|q
   .exact h3 t q
   .have:t=bk E i j:=by exact AL 2 (.t Y0 (.a Y1 N1)) (.l Y1 Y0) (.e Y0 Y1) [_,_] ht q
    subst this
    rw[bP h1,bP h2]
    exact h
  .have e:bk E (i+1) (j+1)=0:=if_neg h
   rw[e]
   exact⟨WJ _,WJ _,fun t ht=>nomatch ht⟩
theorem Ih(E:Nat->Nat->Bool):∀ (k i j:Nat),k<=i+1->k<=j+1->FI E (i+1-k) (j+1-k) k->k<=bk E i j
 | 0,_,_,_,_,_=>WJ _
 | k+1,i,j,hi,hj,h=>by
  have he:E i j=true:=by
   have:=h k (Z3 k)
   rwa [show i+1-(k+1)+k=i by exact AJ 2 (.l (.a Y0 N1) (.a Y1 N1)) (.e (.a (.s (.a Y1 N1) (.a Y0 N1)) Y0) Y1) [_,_] hi,show j+1-(k+1)+k=j by exact AJ 2 (.l (.a Y0 N1) (.a Y1 N1)) (.e (.a (.s (.a Y1 N1) (.a Y0 N1)) Y0) Y1) [_,_] hj]at this
  cases i with
  | zero=>rw[show bk E 0 j=1 from if_pos he];exact AJ 1 (.l (.a Y0 N1) (.a (.n 0) N1)) (.l (.a Y0 N1) N1) [_] hi
  | succ i=>
   cases j with
   | zero=>rw[show bk E (i+1) 0=1 from if_pos he];exact AJ 1 (.l (.a Y0 N1) (.a (.n 0) N1)) (.l (.a Y0 N1) N1) [_] hj
   | succ j=>
    rw[show bk E (i+1) (j+1)=bk E i j+1 from if_pos he]
    refine XT (Ih E k i j (by exact AJ 2 (.l (.a Y0 N1) (.a (.a Y1 N1) N1)) (.l Y0 (.a Y1 N1)) [_,_] hi) (by exact AJ 2 (.l (.a Y0 N1) (.a (.a Y1 N1) N1)) (.l Y0 (.a Y1 N1)) [_,_] hj) fun t ht=>?_)
    have:=h t (Ye ht)
    rwa [show i+1+1-(k+1)+t=i+1-k+t by exact Bh 3 (.e (.a (.s (.a (.a Y0 N1) N1) (.a Y1 N1)) Y2) (.a (.s (.a Y0 N1) Y1) Y2)) [_,_,_],show j+1+1-(k+1)+t=j+1-k+t by exact Bh 3 (.e (.a (.s (.a (.a Y0 N1) N1) (.a Y1 N1)) Y2) (.a (.s (.a Y0 N1) Y1) Y2)) [_,_,_]]at this
noncomputable def L0(i j p q:Nat):Prop:=i<p∨(i=p/\j<=q)
structure BestTo(E:Nat->Nat->Bool)(Hj HJ:Nat)(P:Nat->Nat->Prop)(bi bj bs:Nat):Prop where
 zero:bs=0->bi=Hj/\bj=HJ
 run:FI E bi bj bs
 seen:0<bs->P (bi+bs-1) (bj+bs-1)
 most:∀ i j k,P i j->k<=i+1->k<=j+1->FI E (i+1-k) (j+1-k) k->k<=bs
 first:∀ i j,P i j->0<bs->bs<=i+1->bs<=j+1->FI E (i+1-bs) (j+1-bs) bs->L0 (bi+bs-1) (bj+bs-1) i j
theorem BestTo.start(E:Nat->Nat->Bool)(Hj HJ:Nat):BestTo E Hj HJ (fun _ _=>False) Hj HJ 0:=
 ⟨fun _=>⟨rfl,rfl⟩,fun t ht=>(nomatch ht),fun h=>(nomatch h),fun _ _ _ h=>h.elim,fun _ _ h=>h.elim⟩
theorem BestTo.same{E:Nat->Nat->Bool}{Hj HJ:Nat}{P P':Nat->Nat->Prop}{bi bj bs:Nat}(h:BestTo E Hj HJ P bi bj bs)(e:∀ i j,P' i j↔P i j):BestTo E Hj HJ P' bi bj bs:=
 ⟨h.zero,h.run,fun q=>(e _ _).mpr (h.seen q),fun i j k q=>h.most i j k ((e i j).mp q),fun i j q=>h.first i j ((e i j).mp q)⟩
theorem BestTo.keep{E:Nat->Nat->Bool}{Hj HJ i j:Nat}{P:Nat->Nat->Prop}{bi bj bs:Nat}(h:BestTo E Hj HJ P bi bj bs)(hb:bk E i j<=bs)(hl:∀ p q,P p q->L0 p q i j) :
  BestTo E Hj HJ (fun p q=>P p q∨(p=i/\q=j)) bi bj bs where
 zero:=h.zero
 run:=h.run
 seen:=fun q=>.inl (h.seen q)
 most:=fun p q k hp h1 h2 hr=>by
  rcases hp with hp|⟨rfl,rfl⟩
  .exact h.most p q k hp h1 h2 hr
  .exact Yi (Ih E k p q h1 h2 hr) hb
 first:=fun p q hp h0 h1 h2 hr=>by
  rcases hp with hp|⟨rfl,rfl⟩
  .exact h.first p q hp h0 h1 h2 hr
  .exact hl _ _ (h.seen h0)
theorem BestTo.grow{E:Nat->Nat->Bool}{Hj HJ i j:Nat}{P:Nat->Nat->Prop}{bi bj bs:Nat}(h:BestTo E Hj HJ P bi bj bs)(hb:bs<bk E i j) :
  BestTo E Hj HJ (fun p q=>P p q∨(p=i/\q=j)) (i+1-bk E i j) (j+1-bk E i j) (bk E i j):=by
 obtain⟨h1,h2,h3⟩:=Ky E i j
 refine⟨fun q=>?_,h3,fun _=>.inr ⟨by exact AJ 2 (.l Y0 (.a Y1 N1)) (.e (.s (.a (.s (.a Y1 N1) Y0) Y0) N1) Y1) [_,_] h1,by exact AJ 2 (.l Y0 (.a Y1 N1)) (.e (.s (.a (.s (.a Y1 N1) Y0) Y0) N1) Y1) [_,_] h2⟩,fun p q k hp k1 k2 hr=>?_,fun p q hp h0 k1 k2 hr=>?_⟩
 .exact AL 6 (.t Y0 Y1) (.e Y1 (.n 0)) (.an (.e (.s (.a Y2 N1) Y1) Y3) (.e (.s (.a Y4 N1) Y1) Y5)) [_,_,_,_,_,_] hb q
 .rcases hp with hp|⟨rfl,rfl⟩
  .exact Yi (h.most p q k hp k1 k2 hr) (W7 hb)
  .exact Ih E k p q k1 k2 hr
 .rcases hp with hp|⟨rfl,rfl⟩
  .exact absurd (h.most p q _ hp k1 k2 hr) (Nat.not_le_of_lt hb)
  .exact .inr ⟨by exact AJ 2 (.l Y0 (.a Y1 N1)) (.e (.s (.a (.s (.a Y1 N1) Y0) Y0) N1) Y1) [_,_] h1,by exact AJ 2 (.l Y0 (.a Y1 N1)) (.l (.s (.a (.s (.a Y1 N1) Y0) Y0) N1) Y1) [_,_] h2⟩
structure BestFr(E:Nat->Nat->Bool)(P:Nat->Nat->Prop)(bi bj bs:Nat):Prop where
 zero:bs=0->bi=0/\bj=0
 run:FI E bi bj bs
 seen:0<bs->P bi bj
 most:∀ p q k,P p q->FI E p q k->k<=bs
 first:∀ p q,P p q->0<bs->FI E p q bs->L0 bi bj p q
noncomputable def Qa(e d:Nat->Bool)(n:Nat):Prop:=(∀ t,t<n->e t=true)/\∃ k,k<=n/\(∀ t,t<k->d t=false)/\∀ t,k<=t->t<n->d t=true
noncomputable def Iq(e d:Nat->Bool)(n:Nat):Prop:=Qa e d n/\¬ Qa e d (n+1)
theorem Jn{e d:Nat->Bool}{l n:Nat}(hl:l<=n)(h1:∀ t,t<l->e t=true/\d t=false)(s1:¬ (e l=true/\d l=false))(h2:∀ t,l<=t->t<n->e t=true/\d t=true)(s2:¬ (e n=true/\d n=true)):Iq e d n:=by
 refine⟨⟨fun t ht=>?_,l,hl,fun t ht=>(h1 t ht).2,fun t a b=>(h2 t a b).2⟩,?_⟩
 .rcases Yp t l with q|q
  .exact(h1 t q).1
  .exact(h2 t q ht).1
 .rintro⟨g1,k,hk,g2,g3⟩
  have en:=g1 n (Z3 n)
  cases hd:d n with
  | true=>exact s2 ⟨en,hd⟩
  | false=>
   have hkn:n<k:=by
    rcases Yp n k with q|q
    .exact q
    .have:=g3 n q (Z3 n);rw[hd]at this;cases this
   rcases Yp l n with q|q
   .have a:=(h2 l (Vn _) q).2
    have b:=g2 l (Yh q hkn)
    rw[a]at b;cases b
   .have:l=n:=Nat.le_antisymm hl q
    subst this
    exact s1 ⟨en,hd⟩
noncomputable def Oe(q:Nat->Nat->Bool)(alo blo bi bj t:Nat):Bool:=decide (alo+t<bi)&&decide (blo+t<bj)&&q (bi-1-t) (bj-1-t)
noncomputable def Od(q:Nat->Nat->Bool)(ahi bhi ei ej t:Nat):Bool:=decide (ei+t<ahi)&&decide (ej+t<bhi)&&q (ei+t) (ej+t)
noncomputable def EI(q E:Nat->Nat->Bool)(d:Nat->Bool)(alo ahi blo bhi i j k:Nat):Prop:=
 ∃ bi bj bz l r,BestTo E alo blo (fun p q=>E p q=true) bi bj bz/\Iq (Oe q alo blo bi bj) (fun t=>d (bj-1-t)) l/\Iq (Od q ahi bhi (bi+bz) (bj+bz)) (fun t=>d (bj+bz+t)) r/\i=bi-l/\j=bj-l/\k=l+bz+r
abbrev Tri:=Nat×Nat×Nat
noncomputable def DT(E:Nat->Nat->Bool)(alo ahi blo bhi i j:Nat):Bool:=decide (alo<=i)&&decide (i<ahi)&&decide (blo<=j)&&decide (j<bhi)&&E i j
theorem C9{E:Nat->Nat->Bool}{alo ahi blo bhi i j:Nat}:DT E alo ahi blo bhi i j=true↔alo<=i/\i<ahi/\blo<=j/\j<bhi/\E i j=true:=by
 unfold DT;simp only[X5,decide_eq_true_eq,and_assoc]
theorem C2{q:Nat->Nat->Bool}{alo blo bi bj t:Nat}:Oe q alo blo bi bj t=true↔alo+t<bi/\blo+t<bj/\q (bi-1-t) (bj-1-t)=true:=by
 unfold Oe;simp only[X5,decide_eq_true_eq,and_assoc]
theorem Dt{q:Nat->Nat->Bool}{ahi bhi ei ej t:Nat}:Od q ahi bhi ei ej t=true↔ei+t<ahi/\ej+t<bhi/\q (ei+t) (ej+t)=true:=by
 unfold Od;simp only[X5,decide_eq_true_eq,and_assoc]
theorem Nm{q:Nat->Nat->Bool}{d:Nat->Bool}{alo blo bi bj l:Nat}(h:Qa (Oe q alo blo bi bj) d l)(h1:alo<=bi)(h2:blo<=bj):alo+l<=bi/\blo+l<=bj:=by
 cases l with
 | zero=>exact⟨h1,h2⟩
 | succ l=>have:=C2.mp (h.1 l (Z3 l));exact AL 5 (.t (.a Y0 Y1) Y2) (.t (.a Y3 Y1) Y4) (.an (.l (.a Y0 (.a Y1 N1)) Y2) (.l (.a Y3 (.a Y1 N1)) Y4)) [_,_,_,_,_] this.1 this.2.1
theorem Rf{q:Nat->Nat->Bool}{d:Nat->Bool}{ahi bhi ei ej l:Nat}(h:Qa (Od q ahi bhi ei ej) d l)(h1:ei<=ahi)(h2:ej<=bhi):ei+l<=ahi/\ej+l<=bhi:=by
 cases l with
 | zero=>exact⟨h1,h2⟩
 | succ l=>have:=Dt.mp (h.1 l (Z3 l));exact AL 5 (.t (.a Y0 Y1) Y2) (.t (.a Y3 Y1) Y4) (.an (.l (.a Y0 (.a Y1 N1)) Y2) (.l (.a Y3 (.a Y1 N1)) Y4)) [_,_,_,_,_] this.1 this.2.1
section
variable{q E:Nat->Nat->Bool}{d:Nat->Bool}{alo ahi blo bhi i j k:Nat}
theorem Lu{bi bj bz:Nat}(h1:alo<=ahi)(h2:blo<=bhi)(h:BestTo (DT E alo ahi blo bhi) alo blo (fun p q=>DT E alo ahi blo bhi p q=true) bi bj bz):alo<=bi/\bi+bz<=ahi/\blo<=bj/\bj+bz<=bhi:=by
 rcases Zj bz with z|z
 .obtain⟨rfl,rfl⟩:=h.zero z;exact Be 5 (.e Y0 (.n 0)) (.l Y1 Y2) (.l Y3 Y4) (.an (.l Y1 Y1) (.an (.l (.a Y1 Y0) Y2) (.an (.l Y3 Y3) (.l (.a Y3 Y0) Y4)))) [_,_,_,_,_] z h1 h2
 .have a1:=C9.mp (h.run 0 z)
  have a2:=C9.mp (h.seen z)
  exact PL 7 (.l Y0 (.a Y1 (.n 0))) (.l Y2 (.a Y3 (.n 0))) (.t (.s (.a Y1 Y4) N1) Y5) (.t (.s (.a Y3 Y4) N1) Y6) (.an (.l Y0 Y1) (.an (.l (.a Y1 Y4) Y5) (.an (.l Y2 Y3) (.l (.a Y3 Y4) Y6)))) [_,_,_,_,_,_,_] a1.1 a1.2.2.1 a2.2.1 a2.2.2.2.1
theorem Ec(h1:alo<=ahi)(h2:blo<=bhi)(h:EI q (DT E alo ahi blo bhi) d alo ahi blo bhi i j k):alo<=i/\i+k<=ahi/\blo<=j/\j+k<=bhi:=by
 obtain⟨bi,bj,bz,l,r,hb,hl,hr,rfl,rfl,rfl⟩:=h
 obtain⟨a1,a2,a3,a4⟩:=Lu h1 h2 hb
 obtain⟨b1,b2⟩:=Nm hl.1 a1 a3
 obtain⟨c1,c2⟩:=Rf hr.1 a2 a4
 exact PL 9 (.l (.a Y0 Y1) Y2) (.l (.a Y3 Y1) Y4) (.l (.a (.a Y2 Y5) Y6) Y7) (.l (.a (.a Y4 Y5) Y6) Y8) (.an (.l Y0 (.s Y2 Y1)) (.an (.l (.a (.s Y2 Y1) (.a (.a Y1 Y5) Y6)) Y7) (.an (.l Y3 (.s Y4 Y1)) (.l (.a (.s Y4 Y1) (.a (.a Y1 Y5) Y6)) Y8)))) [_,_,_,_,_,_,_,_,_] b1 b2 c1 c2
theorem Gh(h:¬ (alo<ahi/\blo<bhi)):EI q (DT E alo ahi blo bhi) d alo ahi blo bhi alo blo 0:=by
 refine⟨alo,blo,0,0,0,(BestTo.start _ alo blo).same fun p r=>⟨fun x=>?_,fun x=>x.elim⟩,⟨⟨fun t ht=>(nomatch ht),0,Vn 0,fun t ht=>(nomatch ht),fun t _ ht=>(nomatch ht)⟩,fun x=>?_⟩,⟨⟨fun t ht=>(nomatch ht),0,Vn 0,fun t ht=>(nomatch ht),fun t _ ht=>(nomatch ht)⟩,fun x=>?_⟩,rfl,rfl,rfl⟩
 .have:=C9.mp x;exact S6 6 (.no (.an (.t Y0 Y1) (.t Y2 Y3))) (.l Y0 Y4) (.t Y4 Y1) (.l Y2 Y5) (.t Y5 Y3) .f [_,_,_,_,_,_] h this.1 this.2.1 this.2.2.1 this.2.2.2.1
 .have:=C2.mp (x.1 0 Nat.one_pos);exact AJ 1 (.t (.a Y0 (.n 0)) Y0) .f [_] this.2.1
 .have:=Dt.mp (x.1 0 Nat.one_pos);exact Be 4 (.no (.an (.t Y0 Y1) (.t Y2 Y3))) (.t (.a (.a Y0 (.n 0)) (.n 0)) Y1) (.t (.a (.a Y2 (.n 0)) (.n 0)) Y3) .f [_,_,_,_] h this.1 this.2.1
end
noncomputable def Blk(q E:Nat->Nat->Bool)(d:Nat->Bool)(alo ahi blo bhi:Nat)(L:List Tri):Prop:=∀ P:Nat->Nat->Nat->Nat->List Tri->Prop,
 (∀ alo ahi blo bhi i j,EI q (DT E alo ahi blo bhi) d alo ahi blo bhi i j 0->P alo ahi blo bhi []) ->
 (∀ alo ahi blo bhi i j k L1 L2,EI q (DT E alo ahi blo bhi) d alo ahi blo bhi i j k->0<k->P alo i blo j L1->P (i+k) ahi (j+k) bhi L2->P alo ahi blo bhi (L1++(i,j,k)::L2))->P alo ahi blo bhi L
section
variable{q E:Nat->Nat->Bool}{d:Nat->Bool}{alo ahi blo bhi i j k:Nat}{L L1 L2:List Tri}
theorem Blk.none(h:EI q (DT E alo ahi blo bhi) d alo ahi blo bhi i j 0):Blk q E d alo ahi blo bhi []:=fun _ h1 _=>h1 _ _ _ _ _ _ h
theorem Blk.some(h:EI q (DT E alo ahi blo bhi) d alo ahi blo bhi i j k)(hk:0<k)(a:Blk q E d alo i blo j L1)(b:Blk q E d (i+k) ahi (j+k) bhi L2):Blk q E d alo ahi blo bhi (L1++(i,j,k)::L2):=
 fun P h1 h2=>h2 _ _ _ _ _ _ _ _ _ h hk (a P h1 h2) (b P h1 h2)
theorem Blk.ind{P:∀ alo ahi blo bhi L,Blk q E d alo ahi blo bhi L->Prop}(none:∀ {alo ahi blo bhi i j} (h:EI q (DT E alo ahi blo bhi) d alo ahi blo bhi i j 0),P alo ahi blo bhi [] (.none h))(some:∀ {alo ahi blo bhi i j k L1 L2} (h:EI q (DT E alo ahi blo bhi) d alo ahi blo bhi i j k) (hk:0<k) (a:Blk q E d alo i blo j L1) (b:Blk q E d (i+k) ahi (j+k) bhi L2),P alo i blo j L1 a->P (i+k) ahi (j+k) bhi L2 b->P alo ahi blo bhi (L1++(i,j,k)::L2) (.some h hk a b)){alo ahi blo bhi:Nat}{L:List Tri}(h:Blk q E d alo ahi blo bhi L):P alo ahi blo bhi L h:=
 (h (fun alo ahi blo bhi L=>∃ h,P alo ahi blo bhi L h) (fun _ _ _ _ _ _ h=>⟨_,none h⟩) (fun _ _ _ _ _ _ _ _ _ h hk x y=>x.elim fun a p=>y.elim fun b r=>⟨_,some h hk a b p r⟩)).elim fun _ p=>p
end
noncomputable def Hv(x y:Tri):Prop:=x.1+x.2.2<=y.1/\x.2.1+x.2.2<=y.2.1
noncomputable def G9(alo ahi blo bhi:Nat)(x:Tri):Prop:=alo<=x.1/\x.1+x.2.2<=ahi/\blo<=x.2.1/\x.2.1+x.2.2<=bhi/\0<x.2.2
theorem Blk.props{q E:Nat->Nat->Bool}{d:Nat->Bool}{alo ahi blo bhi:Nat}{L:List Tri}(h:Blk q E d alo ahi blo bhi L):alo<=ahi->blo<=bhi->(∀ x∈L,G9 alo ahi blo bhi x)/\L.Pairwise Hv/\L.length<=ahi-alo/\L.length<=bhi-blo:=by
 induction h using Blk.ind with
 | none _=>intro _ _;exact⟨fun x hx=>(nomatch hx),.nil,WJ _,WJ _⟩
 | @some alo ahi blo bhi i j k L1 L2 hf hk _ _ ih1 ih2=>
  intro h1 h2
  obtain⟨a1,a2,a3,a4⟩:=Ec h1 h2 hf
  obtain⟨b1,b2,b3,b4⟩:=ih1 a1 a3
  obtain⟨c1,c2,c3,c4⟩:=ih2 a2 a4
  have in1:∀ x∈L1,G9 alo ahi blo bhi x/\x.1+x.2.2<=i/\x.2.1+x.2.2<=j:=fun x hx=>by
   have:=b1 x hx
   unfold G9 at this ⊢
   exact Be 10 (.l (.a Y0 Y1) Y2) (.l (.a Y3 Y1) Y4) (.an (.l Y5 Y6) (.an (.l (.a Y6 Y7) Y0) (.an (.l Y8 Y9) (.an (.l (.a Y9 Y7) Y3) (.t (.n 0) Y7))))) (.an (.an (.l Y5 Y6) (.an (.l (.a Y6 Y7) Y2) (.an (.l Y8 Y9) (.an (.l (.a Y9 Y7) Y4) (.t (.n 0) Y7))))) (.an (.l (.a Y6 Y7) Y0) (.l (.a Y9 Y7) Y3))) [_,_,_,_,_,_,_,_,_,_] a2 a4 this
  have in2:∀ x∈L2,G9 alo ahi blo bhi x/\i+k<=x.1/\j+k<=x.2.1:=fun x hx=>by
   have:=c1 x hx
   unfold G9 at this ⊢
   exact Be 10 (.l Y0 Y1) (.l Y2 Y3) (.an (.l (.a Y1 Y4) Y5) (.an (.l (.a Y5 Y6) Y7) (.an (.l (.a Y3 Y4) Y8) (.an (.l (.a Y8 Y6) Y9) (.t (.n 0) Y6))))) (.an (.an (.l Y0 Y5) (.an (.l (.a Y5 Y6) Y7) (.an (.l Y2 Y8) (.an (.l (.a Y8 Y6) Y9) (.t (.n 0) Y6))))) (.an (.l (.a Y1 Y4) Y5) (.l (.a Y3 Y4) Y8))) [_,_,_,_,_,_,_,_,_,_] a1 a3 this
  refine⟨fun x hx=>?_,?_,?_,?_⟩
  .rcases W9.mp hx with hx|hx
   .exact(in1 x hx).1
   rcases Vq.mp hx with rfl|hx
   .exact⟨a1,a2,a3,a4,hk⟩
   .exact(in2 x hx).1
  .rw[Yn,Yq]
   refine⟨b2,⟨fun y hy=>(in2 y hy).2,c2⟩,fun x hx y hy=>?_⟩
   have hx1:=(in1 x hx).2
   rcases Vq.mp hy with rfl|hy
   .exact hx1
   .have hy1:=(in2 y hy).2
    exact⟨by exact AL 8 (.an (.l (.a Y0 Y1) Y2) (.l (.a Y3 Y1) Y4)) (.an (.l (.a Y2 Y5) Y6) (.l (.a Y4 Y5) Y7)) (.l (.a Y0 Y1) Y6) [_,_,_,_,_,_,_,_] hx1 hy1,by exact AL 8 (.an (.l (.a Y0 Y1) Y2) (.l (.a Y3 Y1) Y4)) (.an (.l (.a Y2 Y5) Y6) (.l (.a Y4 Y5) Y7)) (.l (.a Y3 Y1) Y7) [_,_,_,_,_,_,_,_] hx1 hy1⟩
  .rw[XS,bT];exact S6 6 (.t (.n 0) Y0) (.l Y1 Y2) (.l (.a Y2 Y0) Y3) (.l Y4 (.s Y2 Y1)) (.l Y5 (.s Y3 (.a Y2 Y0))) (.l (.a Y4 (.a Y5 N1)) (.s Y3 Y1)) [_,_,_,_,_,_] hk a1 a2 b3 c3
  .rw[XS,bT];exact S6 6 (.t (.n 0) Y0) (.l Y1 Y2) (.l (.a Y2 Y0) Y3) (.l Y4 (.s Y2 Y1)) (.l Y5 (.s Y3 (.a Y2 Y0))) (.l (.a Y4 (.a Y5 N1)) (.s Y3 Y1)) [_,_,_,_,_,_] hk a3 a4 b4 c4
abbrev Win:=Nat×Nat×Nat×Nat
noncomputable def Win.Blk(q E:Nat->Nat->Bool)(d:Nat->Bool)(w:Win)(L:List Tri):Prop:=Mine.Internal.Blk q E d w.1 w.2.1 w.2.2.1 w.2.2.2 L
noncomputable def Dx(q E:Nat->Nat->Bool)(d:Nat->Bool)(ws:List Win):List (List Tri)->Prop:=
 @List.rec Win (fun _=>List (List Tri)->Prop) (fun Ls=>Ls=[]) (fun w _ ih Ls=>∃ L Ms,Ls=L::Ms/\w.Blk q E d L/\ih Ms) ws
theorem Dx.nil{q E:Nat->Nat->Bool}{d:Nat->Bool}:Dx q E d [] []:=rfl
theorem Dx.cons{q E:Nat->Nat->Bool}{d:Nat->Bool}{w:Win}{ws:List Win}{L:List Tri}{Ls:List (List Tri)}(h:w.Blk q E d L)(k:Dx q E d ws Ls):Dx q E d (w::ws) (L::Ls):=⟨L,Ls,rfl,h,k⟩
theorem Dx.append{q E:Nat->Nat->Bool}{d:Nat->Bool}{ws ws':List Win}{Ls Ls':List (List Tri)}(h:Dx q E d ws Ls)(h':Dx q E d ws' Ls'):Dx q E d (ws++ws') (Ls++Ls'):=by
 induction ws generalizing Ls with
 | nil=>obtain rfl:Ls=[]:=h;exact h'
 | cons w ws ih=>obtain⟨L,Ms,rfl,a,b⟩:=h;exact .cons a (ih b)
theorem Dx.split{q E:Nat->Nat->Bool}{d:Nat->Bool}{ws ws':List Win}{Ls:List (List Tri)}(h:Dx q E d (ws++ws') Ls):∃ L1 L2,Ls=L1++L2/\Dx q E d ws L1/\Dx q E d ws' L2:=by
 induction ws generalizing Ls with
 | nil=>exact⟨[],Ls,rfl,.nil,h⟩
 | cons w ws ih=>
  obtain⟨L,Ms,rfl,a,b⟩:=h
  obtain⟨L1,L2,rfl,h1,h2⟩:=ih b
  exact⟨_::L1,L2,rfl,.cons a h1,h2⟩
noncomputable def Ei(q E:Nat->Nat->Bool)(d:Nat->Bool)(la lb:Nat)(ws:List Win)(ms:List Tri):Prop:=∀ Ls,Dx q E d ws Ls->∃ L,Blk q E d 0 la 0 lb L/\ZA (ms++Ls.flatten) L
theorem Ei.start{q E:Nat->Nat->Bool}{d:Nat->Bool}{la lb:Nat}:Ei q E d la lb [(0,la,0,lb)] []:=fun Ls h=>by
 obtain⟨L,Ms,rfl,a,b⟩:=h
 obtain rfl:Ms=[]:=b
 exact⟨_,a,by simp⟩
theorem Ei.done{q E:Nat->Nat->Bool}{d:Nat->Bool}{la lb:Nat}{ms:List Tri}(h:Ei q E d la lb [] ms):∃ L,Blk q E d 0 la 0 lb L/\ZA ms L:=by
 obtain⟨L,h1,h2⟩:=h [] .nil
 exact⟨L,h1,by simpa using h2⟩
section
variable{q E:Nat->Nat->Bool}{d:Nat->Bool}{la lb alo ahi blo bhi i j k:Nat}{ws:List Win}{ms:List Tri}
theorem Ei.skip(h:Ei q E d la lb (ws++[(alo,ahi,blo,bhi)]) ms)(hf:EI q (DT E alo ahi blo bhi) d alo ahi blo bhi i j 0):Ei q E d la lb ws ms:=fun Ls hL=>by
 obtain⟨L,h1,h2⟩:=h (Ls++[[]]) (hL.append (.cons (.none hf) .nil))
 exact⟨L,h1,by simpa using h2⟩
noncomputable def CR(b:Bool)(w:Win):List Win:=if b then [w] else []
theorem Dx.side{b:Bool}{w:Win}{Ls:List (List Tri)}(hb:b=true∨w.Blk q E d [])(h:Dx q E d (CR b w) Ls):∃ L,w.Blk q E d L/\Ls.flatten=L:=by
 cases b with
 | true=>
  obtain⟨L,Ms,rfl,a,b⟩:=h
  obtain rfl:Ms=[]:=b
  exact⟨_,a,by simp⟩
 | false=>
  obtain rfl:Ls=[]:=h
  exact⟨[],hb.resolve_left nofun,rfl⟩
theorem Ei.turn(h:Ei q E d la lb (ws++[(alo,ahi,blo,bhi)]) ms)(hf:EI q (DT E alo ahi blo bhi) d alo ahi blo bhi i j k)(hk:0<k) :
  Ei q E d la lb (ws++CR (decide (alo<i)&&decide (blo<j)) (alo,i,blo,j)++CR (decide (i+k<ahi)&&decide (j+k<bhi)) (i+k,ahi,j+k,bhi)) (ms++[(i,j,k)]):=fun Ls hL=>by
 obtain⟨Lx,L3,rfl,hx,h3⟩:=hL.split
 obtain⟨L1,L2,rfl,h1,h2⟩:=hx.split
 obtain⟨A,hA,eA⟩:=h2.side (by
  cases e:(decide (alo<i)&&decide (blo<j)) with
  | true=>exact .inl rfl
  | false=>refine .inr (.none (Gh fun x=>?_));rw[decide_eq_true x.1,decide_eq_true x.2]at e;cases e)
 obtain⟨B,hB,eB⟩:=h3.side (by
  cases e:(decide (i+k<ahi)&&decide (j+k<bhi)) with
  | true=>exact .inl rfl
  | false=>refine .inr (.none (Gh fun x=>?_));rw[decide_eq_true x.1,decide_eq_true x.2]at e;cases e)
 obtain⟨L,g1,g2⟩:=h (L1++[A++(i,j,k)::B]) (h1.append (.cons (.some hf hk hA hB) .nil))
 refine⟨L,g1,bU ?_ g2⟩
 rw[bV,bV,bV,eA,eB,Wv,Wv]
 refine Zi ms ?_
 rw[Xf,List.flatten_nil,W8,<- Wv L1.flatten,List.singleton_append,<- Wv L1.flatten]
 exact bW.symm
end
noncomputable def CQ(ws:List Win):Nat:=(ws.map fun w=>2 * (w.2.1-w.1)+1).sum
theorem B9(ws ws':List Win):CQ (ws++ws')=CQ ws+CQ ws':=by unfold CQ;rw[XA,bX]
theorem Dk:∀ ws:List Win,ws.length<=CQ ws
 | []=>WJ _
 | w::ws=>by have:=Dk ws;unfold CQ at this ⊢;rw[Vu,bY,bT];exact AJ 4 (.l Y0 Y1) (.l (.a Y0 N1) (.a (.a (.m 2 (.s Y2 Y3)) N1) Y1)) [_,_,_,_] this
theorem Fx(b:Bool)(w:Win):CQ (CR b w)<=2 * (w.2.1-w.1)+1:=by
 unfold CR CQ
 cases b<;>simp
theorem E9:∀ {L L':List Tri},L.Pairwise Hv->(∀ x∈L,0<x.2.2)->L'.Perm L->L'.Pairwise (fun x y=>x.1<=y.1)->L'=L
 | [],L',_,_,p,_=>p.eq_nil
 | x::L,L',h,hk,p,s=>by
  cases L' with
  | nil=>exact absurd p.length_eq (by simp)
  | cons y L'=>
   have hy:y∈x::L:=p.subset mS
   have hx:x∈y::L':=p.symm.subset mS
   have e:y=x:=by
    rcases Vq.mp hy with e|hy
    .exact e
    .rcases Vq.mp hx with e|hx
     .exact e.symm
     .have a:=(Yq.mp h).1 y hy
      have b:=(Yq.mp s).1 x hx
      have:=hk x mS
      unfold Hv at a
      exfalso;exact Be 5 (.an (.l (.a Y0 Y1) Y2) (.l (.a Y3 Y1) Y4)) (.l Y2 Y0) (.t (.n 0) Y1) .f [_,_,_,_,_] a b this
   subst e
   rw[E9 (Yq.mp h).2 (fun x hx=>hk x (mT hx)) (List.perm_cons _ |>.mp p) (Yq.mp s).2]
theorem KD{L:List Tri}(h:L.Pairwise Hv)(hk:∀ x∈L,0<x.2.2):∀ x∈L,∀ y∈L,x.1=y.1->x=y:=fun x hx y hy e=>by
 induction h with
 | nil=>cases hx
 | cons a _ ih=>
  rcases Vq.mp hx with rfl|hx1<;>rcases Vq.mp hy with rfl|hy1
  .rfl
  .exact absurd e (WA (Vp (bK (hk x hx)) (a y hy1).1))
  .exact absurd e.symm (WA (Vp (bK (hk y hy)) (a x hx1).1))
  .exact ih (fun z hz=>hk z (mT hz)) hx1 hy1
noncomputable def IF:Tri->List Tri->List Tri
 | (i1,j1,k1),[]=>if k1=0 then [] else [(i1,j1,k1)]
 | (i1,j1,k1),(i2,j2,k2)::r=>if i1+k1=i2/\j1+k1=j2 then IF (i1,j1,k1+k2) r else (if k1=0 then [] else [(i1,j1,k1)])++IF (i2,j2,k2) r
theorem FZ(i j k:Nat):IF (i,j,k) []=if k=0 then [] else [(i,j,k)]:=rfl
theorem Dc(i1 j1 k1 i2 j2 k2:Nat)(r:List Tri):IF (i1,j1,k1) ((i2,j2,k2)::r)=if i1+k1=i2/\j1+k1=j2 then IF (i1,j1,k1+k2) r else (if k1=0 then [] else [(i1,j1,k1)])++IF (i2,j2,k2) r:=rfl
theorem Fb:∀ (L:List Tri) (x:Tri),(IF x L).length<=L.length+1
 | [],(i,j,k)=>by rw[FZ];split<;>simp
 | (i2,j2,k2)::r,(i,j,k)=>by
  rw[Dc]
  split
  .exact XU (Fb r _)
  .have:=Fb r (i2,j2,k2)
   rw[XS]
   split<;>simp<;>(first|exact AJ 2 (.l Y0 (.a Y1 N1)) (.l Y0 (.a (.a Y1 N1) N1)) [_,_] this|exact AJ 2 (.l Y0 (.a Y1 N1)) (.l (.a N1 Y0) (.a (.a Y1 N1) N1)) [_,_] this)
section
open PySem PyProof.Rows
noncomputable def Rk(rk:bZ->Int)(xs:Array bZ)(i:Nat):Int:=match xs[i]? with
 | some p=>rk p
 | none=>0
noncomputable def CF(rk:bZ->Int)(xs:Array bZ)(lo n:Nat):Prop:=∀ i j,i<=j->j<n->Rk rk xs (lo+i)<=Rk rk xs (lo+j)
noncomputable def KF(rk:bZ->Int)(xs:Array bZ)(lo n:Nat):Prop:=∀ i j,i<=j->j<n->Rk rk xs (lo+j)<=Rk rk xs (lo+i)
noncomputable def Bt(prog:VY)(w:VZ)(A:Va)(E:VX->Vb->Prop)(s:Vb)(kd:ba)(U:bZ->Prop)(rk:bZ->Int):Prop:=
 ∀ p q st (Q:Option Bool->bb->Prop),U p->U q->bd st=kd->Q (some (decide (rk p<rk q))) st->wpS (model prog w) A E s (lt' p q) Q st
structure SB(kd:ba)(U:bZ->Prop)(a₀:Array bZ)(lo:Nat)(pd:Array (Nat×Nat×Nat))(st:bb):Prop where
 perm:(arrOf st).Perm a₀
 pre:∀ i,i<lo->(arrOf st)[i]?=a₀[i]?
 kind:bd st=kd
 failed:be st=none
 pend:bf st=pd
 all:∀ p,p∈a₀.toList->U p
section
variable{σ α:Type}{M:Wd}{A:Va}{E:VX->Vb->Prop}{s:Vb}{c:Prop}[Decidable c]{t e:StateT σ Sem α}{Q:α->σ->Prop}{st:σ}
theorem B4(h:c)(k:wpS M A E s t Q st):wpS M A E s (if c then t else e) Q st:=by rw[if_pos h];exact k
theorem Bu(h:¬c)(k:wpS M A E s e Q st):wpS M A E s (if c then t else e) Q st:=by rw[if_neg h];exact k
theorem D5(k1:c->wpS M A E s t Q st)(k2:¬c->wpS M A E s e Q st):wpS M A E s (if c then t else e) Q st:=by
 by_cases h:c
 .exact B4 h (k1 h)
 .exact Bu h (k2 h)
end
section
variable{kd:ba}{U:bZ->Prop}{rk:bZ->Int}{a₀:Array bZ}{lo:Nat}{pd:Array (Nat×Nat×Nat)}{st:bb}
theorem SB.size(h:SB kd U a₀ lo pd st):(arrOf st).size=a₀.size:=h.perm.size_eq
theorem SB.setArr(h:SB kd U a₀ lo pd st){xs:Array bZ}(hp:xs.Perm (arrOf st))(hq:∀ i,i<lo->xs[i]?=(arrOf st)[i]?):SB kd U a₀ lo pd (setArr st xs):=
 ⟨hp.trans h.perm,fun i hi=>(hq i hi).trans (h.pre i hi),h.kind,h.failed,h.pend,h.all⟩
theorem SB.at(h:SB kd U a₀ lo pd st){i:Nat}(hi:i<a₀.size):∃ p,(arrOf st)[i]?=some p/\U p/\Rk rk (arrOf st) i=rk p:=by
 have hi':i<(arrOf st).size:=by rw[h.size];exact hi
 have hm:(arrOf st)[i]∈a₀.toList:=(bg.mp h.perm).mem_iff.mp (by simp)
 have e:(arrOf st)[i]?=some (arrOf st)[i]:=getElem?_pos _ i hi'
 refine⟨_,e,h.all _ hm,?_⟩
 unfold Rk;rw[e]
theorem Ct{xs ys:Array bZ}{i j:Nat}(h:xs[i]?=ys[j]?):Rk rk xs i=Rk rk ys j:=by unfold Rk;rw[h]
theorem Mx{xs:Array bZ}{src d:Nat}(hs:src<xs.size)(hd:d<=src)(k:Nat) :
  Rk rk (bubble xs src d) k=if k=src-d then Rk rk xs src else if src-d<k/\k<=src then Rk rk xs (k-1) else Rk rk xs k:=by
 have e:=getElem?_bubble hs d hd k
 by_cases h1:k=src-d
 .rw[if_pos h1]at e ⊢;exact Ct e
 .rw[if_neg h1]at e ⊢
  by_cases h2:src-d<k/\k<=src
  .rw[if_pos h2]at e ⊢;exact Ct e
  .rw[if_neg h2]at e ⊢;exact Ct e
theorem E4{xs:Array bZ}{i j:Nat}(hj:j<=xs.size)(k:Nat) :
  Rk rk (mirror xs i j ((j-i) / 2)) k=if i<=k/\k<j then Rk rk xs (i+j-1-k) else Rk rk xs k:=by
 have e:=getElem?_mirror_all (i:=i) hj k
 by_cases h1:i<=k/\k<j
 .rw[if_pos h1]at e ⊢;exact Ct e
 .rw[if_neg h1]at e ⊢;exact Ct e
theorem Ap{xs:Array bZ}{i j:Nat}(hj:j<=xs.size)(heq:∀ k,i<=k->k<j->Rk rk xs k=Rk rk xs (j-1))(k:Nat) :
  Rk rk (mirror xs i j ((j-i) / 2)) k=Rk rk xs k:=by
 rw[E4 hj]
 by_cases h:i<=k/\k<j
 .obtain⟨h1,h2⟩:=h
  rw[if_pos ⟨h1,h2⟩,heq _ (by exact AJ 3 (.t Y0 Y1) (.l Y2 (.s (.s (.a Y2 Y1) N1) Y0)) [_,_,_] h2) (by exact AL 3 (.l Y0 Y1) (.t Y1 Y2) (.t (.s (.s (.a Y0 Y2) N1) Y1) Y2) [_,_,_] h1 h2),heq k h1 h2]
 .rw[if_neg h]
theorem S0{R f:Nat->Int}{a m b x y:Nat}(hf:∀ x,f x=if x=m then R b else if m<x/\x<=b then R (x-1) else R x)(H1:∀ x,x<m->a<=x->R x<=R b)(H2:∀ x,m<=x->x<b->R b<=R x)(H3:∀ x y,a<=x->x<=y->y<b->R x<=R y)(ham:a<=m)(hmb:m<=b)(h1:a<=x)(h2:x<=y)(h3:y<=b):f x<=f y:=by
 rw[hf,hf]
 by_cases c1:x=m
 .rw[if_pos c1]
  by_cases d1:y=m
  .rw[if_pos d1];exact bn _
  .rw[if_neg d1,if_pos ⟨by exact Be 3 (.l Y0 Y1) (.e Y0 Y2) (.no (.e Y1 Y2)) (.t Y2 Y1) [_,_,_] h2 c1 d1,h3⟩];exact H2 _ (by exact Be 3 (.l Y0 Y1) (.e Y0 Y2) (.no (.e Y1 Y2)) (.l Y2 (.s Y1 N1)) [_,_,_] h2 c1 d1) (by exact PL 4 (.l Y0 Y1) (.l Y1 Y2) (.e Y0 Y3) (.no (.e Y1 Y3)) (.t (.s Y1 N1) Y2) [_,_,_,_] h2 h3 c1 d1)
 .rw[if_neg c1]
  by_cases c2:m<x
  .rw[if_pos ⟨c2,Yi h2 h3⟩,if_neg (by exact AL 3 (.l Y0 Y1) (.t Y2 Y0) (.no (.e Y1 Y2)) [_,_,_] h2 c2),if_pos ⟨Vp c2 h2,h3⟩];exact H3 _ _ (by exact AL 3 (.l Y0 Y1) (.t Y1 Y2) (.l Y0 (.s Y2 N1)) [_,_,_] ham c2) (by exact AJ 2 (.l Y0 Y1) (.l (.s Y0 N1) (.s Y1 N1)) [_,_] h2) (by exact Be 4 (.l Y0 Y1) (.l Y1 Y2) (.t Y3 Y0) (.t (.s Y1 N1) Y2) [_,_,_,_] h2 h3 c2)
  .rw[if_neg fun h=>c2 h.1]
   by_cases d1:y=m
   .rw[if_pos d1];exact H1 x (by exact Be 3 (.l Y0 Y1) (.no (.e Y0 Y2)) (.e Y1 Y2) (.t Y0 Y2) [_,_,_] h2 c1 d1) h1
   .rw[if_neg d1]
    by_cases d2:m<y
    .rw[if_pos ⟨d2,h3⟩];exact H3 x (y-1) h1 (by exact AL 3 (.no (.t Y0 Y1)) (.t Y0 Y2) (.l Y1 (.s Y2 N1)) [_,_,_] c2 d2) (by exact AL 3 (.l Y0 Y1) (.t Y2 Y0) (.t (.s Y0 N1) Y1) [_,_,_] h3 d2)
    .rw[if_neg fun h=>d2 h.1];exact H3 x y h1 h2 (by exact Be 3 (.l Y0 Y1) (.no (.e Y2 Y0)) (.no (.t Y0 Y2)) (.t Y2 Y1) [_,_,_] hmb d1 d2)
theorem KW{xs:Array bZ}{i j lo:Nat}(hj:j<=xs.size)(hi:lo<=i):∀ k,k<lo->(mirror xs i j ((j-i) / 2))[k]?=xs[k]?:=fun k hk=>by
 rw[getElem?_mirror_all hj,if_neg (by exact AL 4 (.l Y0 Y1) (.t Y2 Y0) (.no (.an (.l Y1 Y2) (.t Y2 Y3))) [_,_,_,_] hi hk)]
theorem Kw{xs:Array bZ}{src d lo:Nat}(hs:src<xs.size)(hd:d<=src)(hl:lo<=src-d):∀ k,k<lo->(bubble xs src d)[k]?=xs[k]?:=fun k hk=>by
 rw[getElem?_bubble hs d hd,if_neg (by exact AL 4 (.l Y0 (.s Y1 Y2)) (.t Y3 Y0) (.no (.e Y3 (.s Y1 Y2))) [_,_,_,_] hl hk),if_neg (by exact AL 4 (.l Y0 (.s Y1 Y2)) (.t Y3 Y0) (.no (.an (.t (.s Y1 Y2) Y3) (.l Y3 Y1))) [_,_,_,_] hl hk)]
end
section
variable{prog:VY}{w:VZ}{A:Va}{E:VX->Vb->Prop}{s:Vb}
variable{kd:ba}{U:bZ->Prop}{rk:bZ->Int}{a₀:Array bZ}{lo:Nat}{pd:Array (Nat×Nat×Nat)}{st:bb}
theorem EL(L:Bt prog w A E s kd U rk){i j:Nat}{Q:Option Bool->bb->Prop}(hB:SB kd U a₀ lo pd st)(hi:i<a₀.size)(hj:j<a₀.size)(h:Q (some (decide (Rk rk (arrOf st) i<Rk rk (arrOf st) j))) st):wpS (model prog w) A E s (ltAt' i j) Q st:=by
 obtain⟨p,e1,u1,r1⟩:=hB.at (rk:=rk) hi
 obtain⟨q,e2,u2,r2⟩:=hB.at (rk:=rk) hj
 rw[ltAt'_eq]
 refine bo (bp ?_)
 show wpS _ _ _ _ (do let x <- elem' (arrOf st) i;let y <- elem' (arrOf st) j;lt' x y) Q st
 rw[elem'_eq,elem'_eq,e1,e2]
 refine bo (bq (bo (bq ?_)))
 refine L p q st Q u1 u2 hB.kind ?_
 rw[<- r1,<- r2]
 exact h
theorem PS(L:Bt prog w A E s kd U rk){n ok:Nat}{Q:Bool->bb->Prop}(hn:lo+n<=a₀.size)(hok:ok<=n)(hB:SB kd U a₀ lo pd st)(hs:CF rk (arrOf st) lo ok)(h:∀ st',SB kd U a₀ lo pd st'->CF rk (arrOf st') lo n->Q true st'):wpS (model prog w) A E s (binarySort' lo n ok) Q st:=by
 rw[binarySort'_eq]
 refine bo (bt (bu (I:=fun k c st'=>c=(none,())/\SB kd U a₀ lo pd st'/\CF rk (arrOf st') lo (min k n))
  (Q:=fun c st'=>c=(none,())/\SB kd U a₀ lo pd st'/\CF rk (arrOf st') lo n) ?step ?fin ?init) ?post)
 case post=>
  rintro c st' ⟨rfl,hB',hs'⟩
  exact bq (h st' hB' hs')
 case init=>
  refine⟨rfl,hB,fun i j hij hj=>?_⟩
  by_cases h1:ok=0
  .have:i=j:=by exact Be 4 (.l Y0 Y1) (.t Y1 (.mn (.mx Y2 N1) Y3)) (.e Y2 (.n 0)) (.e Y0 Y1) [_,_,_,_] hij hj h1
   subst this;exact bn _
  .exact hs i j hij (by exact AL 3 (.t Y0 (.mn (.mx Y1 N1) Y2)) (.no (.e Y1 (.n 0))) (.t Y0 Y1) [_,_,_] hj h1)
 case fin=>
  rintro c st' ⟨hc,hB',hs'⟩
  refine⟨hc,hB',?_⟩
  rwa [show min (max (max ok 1) n) n=n by exact Bh 2 (.e (.mn (.mx (.mx Y0 N1) Y1) Y1) Y1) [_,_]]at hs'
 case step=>
  rintro k c st' hak hkn ⟨rfl,hB',hs'⟩
  rw[show min k n=k by exact AJ 2 (.t Y0 Y1) (.e (.mn Y0 Y1) Y0) [_,_] hkn]at hs'
  have hk:lo+k<a₀.size:=by exact AL 4 (.l (.a Y0 Y1) Y2) (.t Y3 Y1) (.t (.a Y0 Y3) Y2) [_,_,_,_] hn hkn
  refine bo (bt (bu (I:=fun x c st''=>st''=st'/\∃ l r,c=(none,l,r)/\l<=r/\r<=k/\r-l<=k-x /\
    (∀ i,i<l->Rk rk (arrOf st') (lo+i)<=Rk rk (arrOf st') (lo+k))/\(∀ i,r<=i->i<k->Rk rk (arrOf st') (lo+k)<Rk rk (arrOf st') (lo+i)))
   (Q:=fun c st''=>st''=st'/\∃ l r,c=(none,l,r)/\l<=k /\
    (∀ i,i<l->Rk rk (arrOf st') (lo+i)<=Rk rk (arrOf st') (lo+k))/\(∀ i,l<=i->i<k->Rk rk (arrOf st') (lo+k)<Rk rk (arrOf st') (lo+i))) ?istep ?ifin ?iinit) ?ipost)
  case iinit=>exact⟨rfl,0,k,rfl,by exact Bh 1 (.l (.n 0) Y0) [_],by exact Bh 1 (.l Y0 Y0) [_],by exact Bh 1 (.l (.s Y0 (.n 0)) (.s Y0 (.n 0))) [_],fun i hi=>by exfalso;exact AJ 1 (.t Y0 (.n 0)) .f [_] hi,fun i h1 h2=>by exfalso;exact AL 2 (.l Y0 Y1) (.t Y1 Y0) .f [_,_] h1 h2⟩
  case ifin=>
   rintro c st'' ⟨rfl,l,r,rfl,hlr,hrk,hm,hlo,hhi⟩
   have:l=r:=by exact AL 3 (.l Y0 Y1) (.l (.s Y1 Y0) (.s Y2 (.mx (.n 0) Y2))) (.e Y0 Y1) [_,_,_] hlr hm
   subst this
   exact⟨rfl,l,l,rfl,hrk,hlo,hhi⟩
  case istep=>
   rintro x c st'' _ hxk ⟨rfl,l,r,rfl,hlr,hrk,hm,hlo,hhi⟩
   dsimp only
   by_cases hge:l≥r
   .first|refine B4 hge ?_|rw[if_pos hge]
    have:l=r:=by exact AL 2 (.l Y0 Y1) (.l Y1 Y0) (.e Y0 Y1) [_,_] hlr hge
    subst this
    exact bq ⟨rfl,l,l,rfl,hrk,hlo,hhi⟩
   .first|refine Bu hge ?_|rw[if_neg hge]
    refine bo (EL L hB' hk (by exact S6 7 (.l (.a Y0 Y1) Y2) (.t Y3 Y1) (.l Y4 Y3) (.no (.l Y4 Y5)) (.an (.l (.m 2 Y6) (.a Y5 Y4)) (.t (.a Y5 Y4) (.a (.m 2 Y6) (.n 2)))) (.t (.a Y0 Y6) Y2) [_,_,_,_,_,_,_] hn hkn hrk hge (half_le _)) ?_)
    by_cases hless:Rk rk (arrOf st'') (lo+k)<Rk rk (arrOf st'') (lo+(l+r) / 2)
    .first|refine B4 (by simpa using hless) ?_|simp only[hless,decide_true,if_true]
     refine bq ⟨rfl,l,(l+r) / 2,rfl,by exact AL 3 (.no (.l Y0 Y1)) (.an (.l (.m 2 Y2) (.a Y1 Y0)) (.t (.a Y1 Y0) (.a (.m 2 Y2) (.n 2)))) (.l Y1 Y2) [_,_,_] hge (half_le _),by exact Be 4 (.l Y0 Y1) (.no (.l Y0 Y2)) (.an (.l (.m 2 Y3) (.a Y2 Y0)) (.t (.a Y2 Y0) (.a (.m 2 Y3) (.n 2)))) (.l Y3 Y1) [_,_,_,_] hrk hge (half_le _),by exact AL 5 (.l (.s Y0 Y1) (.s Y2 Y3)) (.an (.l (.m 2 Y4) (.a Y1 Y0)) (.t (.a Y1 Y0) (.a (.m 2 Y4) (.n 2)))) (.l (.s Y4 Y1) (.s Y2 (.a Y3 N1))) [_,_,_,_,_] hm (half_le _),hlo,fun i h1 h2=>?_⟩
     exact Int.lt_of_lt_of_le hless (hs' _ _ h1 h2)
    .first|refine Bu (by simpa using hless) ?_|simp only[hless,decide_false,bv,if_false]
     refine bq ⟨rfl,(l+r) / 2+1,r,rfl,by exact AL 3 (.no (.l Y0 Y1)) (.an (.l (.m 2 Y2) (.a Y1 Y0)) (.t (.a Y1 Y0) (.a (.m 2 Y2) (.n 2)))) (.l (.a Y2 N1) Y0) [_,_,_] hge (half_le _),by exact AJ 2 (.l Y0 Y1) (.l Y0 Y1) [_,_] hrk,by exact AL 5 (.l (.s Y0 Y1) (.s Y2 Y3)) (.an (.l (.m 2 Y4) (.a Y1 Y0)) (.t (.a Y1 Y0) (.a (.m 2 Y4) (.n 2)))) (.l (.s Y0 (.a Y4 N1)) (.s Y2 (.a Y3 N1))) [_,_,_,_,_] hm (half_le _),fun i h1=>?_,hhi⟩
     exact VN (hs' i ((l+r) / 2) (by exact AJ 2 (.t Y0 (.a Y1 N1)) (.l Y0 Y1) [_,_] h1) (by exact Be 4 (.l Y0 Y1) (.no (.l Y0 Y2)) (.an (.l (.m 2 Y3) (.a Y2 Y0)) (.t (.a Y2 Y0) (.a (.m 2 Y3) (.n 2)))) (.t Y3 Y1) [_,_,_,_] hrk hge (half_le _))) (aF.mp hless)
  case ipost=>
   rintro c st'' ⟨rfl,l,r,rfl,hlk,hlo,hhi⟩
   show wpS _ _ _ _ (do moveDown' (lo+k) (lo+l);pure (XH (none,()))) _ _
   rw[moveDown'_eq]
   have hks:lo+k<(arrOf st'').size:=by rw[hB'.size];exact hk
   refine bo (bw (bq ⟨rfl,hB'.setArr (bubble_perm _ _ _) (Kw hks (by exact Bh 3 (.l (.s (.a Y0 Y1) (.a Y0 Y2)) (.a Y0 Y1)) [_,_,_]) (by exact Bh 3 (.l Y0 (.s (.a Y0 Y1) (.s (.a Y0 Y1) (.a Y0 Y2)))) [_,_,_])),?_⟩))
   rw[show min (k+1) n=k+1 by exact AJ 2 (.t Y0 Y1) (.e (.mn (.a Y0 N1) Y1) (.a Y0 N1)) [_,_] hkn]
   intro i j hij hj
   show Rk rk (bubble (arrOf st'') (lo+k) (lo+k-(lo+l))) (lo+i)<=Rk rk (bubble (arrOf st'') (lo+k) (lo+k-(lo+l))) (lo+j)
   have H1:∀ x,x<lo+l->lo<=x->Rk rk (arrOf st'') x<=Rk rk (arrOf st'') (lo+k):=fun x h1 h2=>by have:=hlo (x-lo) (by exact AL 3 (.t Y0 (.a Y1 Y2)) (.l Y1 Y0) (.t (.s Y0 Y1) Y2) [_,_,_] h1 h2);rwa [show lo+(x-lo)=x by exact AJ 2 (.l Y0 Y1) (.e (.a Y0 (.s Y1 Y0)) Y1) [_,_] h2]at this
   have H2:∀ x,lo+l<=x->x<lo+k->Rk rk (arrOf st'') (lo+k)<=Rk rk (arrOf st'') x:=fun x h1 h2=>by have:=bx (hhi (x-lo) (by exact AJ 3 (.l (.a Y0 Y1) Y2) (.l Y1 (.s Y2 Y0)) [_,_,_] h1) (by exact AL 4 (.l (.a Y0 Y1) Y2) (.t Y2 (.a Y0 Y3)) (.t (.s Y2 Y0) Y3) [_,_,_,_] h1 h2));rwa [show lo+(x-lo)=x by exact AJ 3 (.l (.a Y0 Y1) Y2) (.e (.a Y0 (.s Y2 Y0)) Y2) [_,_,_] h1]at this
   have H3:∀ x y,lo<=x->x<=y->y<lo+k->Rk rk (arrOf st'') x<=Rk rk (arrOf st'') y:=fun x y h1 h2 h3=>by have:=hs' (x-lo) (y-lo) (by exact AJ 3 (.l Y0 Y1) (.l (.s Y0 Y2) (.s Y1 Y2)) [_,_,_] h2) (by exact Be 4 (.l Y0 Y1) (.l Y1 Y2) (.t Y2 (.a Y0 Y3)) (.t (.s Y2 Y0) Y3) [_,_,_,_] h1 h2 h3);rwa [show lo+(x-lo)=x by exact AJ 2 (.l Y0 Y1) (.e (.a Y0 (.s Y1 Y0)) Y1) [_,_] h1,show lo+(y-lo)=y by exact AL 3 (.l Y0 Y1) (.l Y1 Y2) (.e (.a Y0 (.s Y2 Y0)) Y2) [_,_,_] h1 h2]at this
   exact S0 (R:=Rk rk (arrOf st'')) (a:=lo) (m:=lo+l) (b:=lo+k) (fun x=>by rw[Mx hks (by exact Bh 3 (.l (.s (.a Y0 Y1) (.a Y0 Y2)) (.a Y0 Y1)) [_,_,_]),show lo+k-(lo+k-(lo+l))=lo+l by exact AJ 3 (.l Y0 Y1) (.e (.s (.a Y2 Y1) (.s (.a Y2 Y1) (.a Y2 Y0))) (.a Y2 Y0)) [_,_,_] hlk]) H1 H2 H3 (W5 _ _) (b0 hlk _) (W5 _ _) (b0 hij _) (b0 (b7 hj) _)
end
end
section
open PySem PyProof.Rows
section
variable{prog:VY}{w:VZ}{A:Va}{E:VX->Vb->Prop}{s:Vb}
variable{kd:ba}{U:bZ->Prop}{rk:bZ->Int}{a₀:Array bZ}{lo:Nat}{pd:Array (Nat×Nat×Nat)}{st:bb}
theorem FV{i j:Nat}{Q:Unit->bb->Prop}(hB:SB kd U a₀ lo pd st)(hi:lo<=i)(hj:j<=a₀.size)(h:SB kd U a₀ lo pd (setArr st (mirror (arrOf st) i j ((j-i) / 2)))->Q () (setArr st (mirror (arrOf st) i j ((j-i) / 2)))):wpS (model prog w) A E s (reverseSlice' i j) Q st:=by
 rw[reverseSlice'_eq]
 exact bw (h (hB.setArr (mirror_perm _ _ _ _) (KW (by rw[hB.size];exact hj) hi)))
theorem NS(xs:Array bZ)(lo:Nat):CF rk xs lo 1:=fun i j hij hj=>by
 have:i=j:=by exact AL 2 (.l Y0 Y1) (.t Y1 N1) (.e Y0 Y1) [_,_] hij hj
 subst this;exact bn _
theorem MC{xs:Array bZ}{n:Nat}(h1:1<=n)(h:CF rk xs lo n)(q:Rk rk xs (lo+n-1)<=Rk rk xs (lo+n)):CF rk xs lo (n+1):=fun i j hij hj=>by
 by_cases hjn:j<n
 .exact h i j hij hjn
 .have:j=n:=by exact AL 2 (.t Y0 (.a Y1 N1)) (.no (.t Y0 Y1)) (.e Y0 Y1) [_,_] hj hjn
  subst this
  by_cases hi:i=j
  .subst hi;exact bn _
  .have:=h i (j-1) (by exact AL 2 (.l Y0 Y1) (.no (.e Y0 Y1)) (.l Y0 (.s Y1 N1)) [_,_] hij hi) (by exact AJ 1 (.l N1 Y0) (.t (.s Y0 N1) Y0) [_] h1)
   rw[show lo+(j-1)=lo+j-1 by exact AJ 2 (.l N1 Y0) (.e (.a Y1 (.s Y0 N1)) (.s (.a Y1 Y0) N1)) [_,_] h1]at this
   exact VN this q
theorem Dp{xs:Array bZ}{n:Nat}(h1:1<=n)(h:KF rk xs lo n)(q:Rk rk xs (lo+n)<=Rk rk xs (lo+n-1)):KF rk xs lo (n+1):=fun i j hij hj=>by
 by_cases hjn:j<n
 .exact h i j hij hjn
 .have:j=n:=by exact AL 2 (.t Y0 (.a Y1 N1)) (.no (.t Y0 Y1)) (.e Y0 Y1) [_,_] hj hjn
  subst this
  by_cases hi:i=j
  .subst hi;exact bn _
  .have:=h i (j-1) (by exact AL 2 (.l Y0 Y1) (.no (.e Y0 Y1)) (.l Y0 (.s Y1 N1)) [_,_] hij hi) (by exact AJ 1 (.l N1 Y0) (.t (.s Y0 N1) Y0) [_] h1)
   rw[show lo+(j-1)=lo+j-1 by exact AJ 2 (.l N1 Y0) (.e (.a Y1 (.s Y0 N1)) (.s (.a Y1 Y0) N1)) [_,_] h1]at this
   exact VN q this
theorem M8(L:Bt prog w A E s kd U rk){a nrem:Nat}{Q:Option (Option Nat)×Nat->bb->Prop}{f:Nat->Option (Option Nat)×Nat->StateT bb Sem (ForInStep (Option (Option Nat)×Nat))}(hf:∀ x c,f x c=(do
   let x <- ltAt' (lo+c.2) (lo+c.2-1)
   match x with
   | some smaller=>if smaller=true then pure (b8 (none,c.2)) else pure (XH (none,c.2+1))
   | _=>pure (b8 (some none,c.2))))(hn:lo+nrem<=a₀.size)(ha:1<=a)(han:a<=nrem)(hB:SB kd U a₀ lo pd st)(hs:CF rk (arrOf st) lo a)(h:∀ n,a<=n->n<=nrem->CF rk (arrOf st) lo n->(n=nrem∨Rk rk (arrOf st) (lo+n)<Rk rk (arrOf st) (lo+n-1))->Q (none,n) st) :
  wpS (model prog w) A E s (forIn [a:nrem] (none,a) f) Q st:=by
 refine bu (I:=fun x c st'=>st'=st/\c=(none,x)/\CF rk (arrOf st) lo x) ?step ?fin ⟨rfl,rfl,hs⟩
 case fin=>
  rintro c st' ⟨rfl,rfl,hs'⟩
  rw[show max a nrem=nrem by exact AJ 2 (.l Y0 Y1) (.e (.mx Y0 Y1) Y1) [_,_] han]at hs' ⊢
  exact h nrem han (Vn _) hs' (.inl rfl)
 case step=>
  rintro x c st' hax hxn ⟨rfl,rfl,hs'⟩
  rw[hf]
  dsimp only
  refine bo (EL L hB (by exact AL 4 (.l (.a Y0 Y1) Y2) (.t Y3 Y1) (.t (.a Y0 Y3) Y2) [_,_,_,_] hn hxn) (by exact AL 4 (.l (.a Y0 Y1) Y2) (.t Y3 Y1) (.t (.s (.a Y0 Y3) N1) Y2) [_,_,_,_] hn hxn) ?_)
  by_cases hless:Rk rk (arrOf st') (lo+x)<Rk rk (arrOf st') (lo+x-1)
  .first|refine B4 (by simpa using hless) ?_|simp only[hless,decide_true,if_true]
   exact bq (h x hax (by exact AJ 2 (.t Y0 Y1) (.l Y0 Y1) [_,_] hxn) hs' (.inr hless))
  .first|refine Bu (by simpa using hless) ?_|simp only[hless,decide_false,bv,if_false]
   exact bq ⟨rfl,rfl,MC (by exact AL 2 (.l N1 Y0) (.l Y0 Y1) (.l N1 Y1) [_,_] ha hax) hs' (aF.mp hless)⟩
theorem NA(L:Bt prog w A E s kd U rk){n nrem:Nat}{Q:Option (Option Nat)×Nat×Nat->bb->Prop}{f:Nat->Option (Option Nat)×Nat×Nat->StateT bb Sem (ForInStep (Option (Option Nat)×Nat×Nat))}(hf:∀ x c,f x c=(do
   let x <- ltAt' (lo+c.2.1) (lo+c.2.1-1)
   match x with
   | some smaller=>
    if smaller=true then
     if c.2.2 > 0 then do
      reverseSlice' (lo+c.2.1-(c.2.2+1)) (lo+c.2.1)
      pure (XH (none,c.2.1+1,0))
     else pure (XH (none,c.2.1+1,0))
    else do
     let x <- ltAt' (lo+c.2.1-1) (lo+c.2.1)
     match x with
     | some larger=>if larger=true then pure (b8 (none,c.2.1,c.2.2)) else pure (XH (none,c.2.1+1,c.2.2+1))
     | _=>pure (b8 (some none,c.2.1,c.2.2))
   | _=>pure (b8 (some none,c.2.1,c.2.2))))(hn:lo+nrem<=a₀.size)(h1:1<=n)(hnn:n<=nrem)(hB:SB kd U a₀ lo pd st)(hs:KF rk (arrOf st) lo n)(h:∀ m neq st',SB kd U a₀ lo pd st'->n<=m->m<=nrem->KF rk (arrOf st') lo m->neq+1<=m->(∀ i,lo+m-(neq+1)<=i->i<lo+m->Rk rk (arrOf st') i=Rk rk (arrOf st') (lo+m-1))->Q (none,m,neq) st') :
  wpS (model prog w) A E s (forIn [n:nrem] (none,n,0) f) Q st:=by
 refine bu (I:=fun x c st'=>∃ neq,c=(none,x,neq)/\SB kd U a₀ lo pd st'/\KF rk (arrOf st') lo x/\neq+1<=x /\
   (∀ i,lo+x-(neq+1)<=i->i<lo+x->Rk rk (arrOf st') i=Rk rk (arrOf st') (lo+x-1))) ?step ?fin ⟨0,rfl,hB,hs,by exact AJ 1 (.l N1 Y0) (.l (.a (.n 0) N1) Y0) [_] h1,fun i h1 h2=>by congr 1;exact AL 3 (.l (.s (.a Y0 Y1) (.a (.n 0) N1)) Y2) (.t Y2 (.a Y0 Y1)) (.e Y2 (.s (.a Y0 Y1) N1)) [_,_,_] h1 h2⟩
 case fin=>
  rintro c st' ⟨neq,rfl,hB',hs',hq,he⟩
  rw[show max n nrem=nrem by exact AJ 2 (.l Y0 Y1) (.e (.mx Y0 Y1) Y1) [_,_] hnn]at hs' hq he ⊢
  exact h nrem neq st' hB' hnn (Vn _) hs' hq he
 case step=>
  rintro x c st' hax hxn ⟨neq,rfl,hB',hs',hq,he⟩
  rw[hf]
  dsimp only
  have hsz:lo+x<=(arrOf st').size:=by rw[hB'.size];exact AL 4 (.l (.a Y0 Y1) Y2) (.t Y3 Y1) (.l (.a Y0 Y3) Y2) [_,_,_,_] hn hxn
  refine bo (EL L hB' (by exact AL 4 (.l (.a Y0 Y1) Y2) (.t Y3 Y1) (.t (.a Y0 Y3) Y2) [_,_,_,_] hn hxn) (by exact AL 4 (.l (.a Y0 Y1) Y2) (.t Y3 Y1) (.t (.s (.a Y0 Y3) N1) Y2) [_,_,_,_] hn hxn) ?_)
  by_cases hless:Rk rk (arrOf st') (lo+x)<Rk rk (arrOf st') (lo+x-1)
  .first|refine B4 (by simpa using hless) ?_|simp only[hless,decide_true,if_true]
   have n1:=Dp (by exact AL 2 (.l N1 Y0) (.l Y0 Y1) (.l N1 Y1) [_,_] h1 hax) hs' (bx hless)
   by_cases hq0:neq > 0
   .first|refine B4 hq0 ?_|rw[if_pos hq0]
    refine bo (FV hB' (by exact AJ 3 (.l (.a Y0 N1) Y1) (.l Y2 (.s (.a Y2 Y1) (.a Y0 N1))) [_,_,_] hq) (by exact AL 4 (.l (.a Y0 Y1) Y2) (.t Y3 Y1) (.l (.a Y0 Y3) Y2) [_,_,_,_] hn hxn) fun hB2=>bq ⟨0,rfl,hB2,?_,by exact Bh 1 (.l (.a (.n 0) N1) (.a Y0 N1)) [_],fun i h1 h2=>by congr 1;exact AL 3 (.l (.s (.a Y0 (.a Y1 N1)) (.a (.n 0) N1)) Y2) (.t Y2 (.a Y0 (.a Y1 N1))) (.e Y2 (.s (.a Y0 (.a Y1 N1)) N1)) [_,_,_] h1 h2⟩)
    intro i j hij hj
    show Rk rk (mirror (arrOf st') _ _ _) _<=Rk rk (mirror (arrOf st') _ _ _) _
    rw[Ap hsz he,Ap hsz he]
    exact n1 i j hij hj
   .first|refine Bu hq0 ?_|rw[if_neg hq0]
    exact bq ⟨0,rfl,hB',n1,by exact Bh 1 (.l (.a (.n 0) N1) (.a Y0 N1)) [_],fun i h1 h2=>by congr 1;exact AL 3 (.l (.s (.a Y0 (.a Y1 N1)) (.a (.n 0) N1)) Y2) (.t Y2 (.a Y0 (.a Y1 N1))) (.e Y2 (.s (.a Y0 (.a Y1 N1)) N1)) [_,_,_] h1 h2⟩
  .first|refine Bu (by simpa using hless) ?_|simp only[hless,decide_false,bv,if_false]
   refine bo (EL L hB' (by exact AL 4 (.l (.a Y0 Y1) Y2) (.t Y3 Y1) (.t (.s (.a Y0 Y3) N1) Y2) [_,_,_,_] hn hxn) (by exact AL 4 (.l (.a Y0 Y1) Y2) (.t Y3 Y1) (.t (.a Y0 Y3) Y2) [_,_,_,_] hn hxn) ?_)
   by_cases hl:Rk rk (arrOf st') (lo+x-1)<Rk rk (arrOf st') (lo+x)
   .first|refine B4 (by simpa using hl) ?_|simp only[hl,decide_true,if_true]
    exact bq (h x neq st' hB' hax (by exact AJ 2 (.t Y0 Y1) (.l Y0 Y1) [_,_] hxn) hs' hq he)
   .first|refine Bu (by simpa using hl) ?_|simp only[hl,decide_false,bv,if_false]
    have e:Rk rk (arrOf st') (lo+x)=Rk rk (arrOf st') (lo+x-1):=b9 (aF.mp hl) (aF.mp hless)
    refine bq ⟨neq+1,rfl,hB',Dp (by exact AL 2 (.l N1 Y0) (.l Y0 Y1) (.l N1 Y1) [_,_] h1 hax) hs' (aF.mp hl),by exact AJ 2 (.l (.a Y0 N1) Y1) (.l (.a (.a Y0 N1) N1) (.a Y1 N1)) [_,_] hq,fun i h1 h2=>?_⟩
    rw[show lo+(x+1)-1=lo+x by exact Bh 2 (.e (.s (.a Y0 (.a Y1 N1)) N1) (.a Y0 Y1)) [_,_],e]
    by_cases hi:i=lo+x
    .rw[hi,e]
    .exact he i (by exact AJ 4 (.l (.s (.a Y0 (.a Y1 N1)) (.a (.a Y2 N1) N1)) Y3) (.l (.s (.a Y0 Y1) (.a Y2 N1)) Y3) [_,_,_,_] h1) (by exact AL 3 (.t Y0 (.a Y1 (.a Y2 N1))) (.no (.e Y0 (.a Y1 Y2))) (.t Y0 (.a Y1 Y2)) [_,_,_] h2 hi)
theorem L4(L:Bt prog w A E s kd U rk){nrem:Nat}{Q:Option Nat->bb->Prop}(hn:lo+nrem<=a₀.size)(h1:1<=nrem)(hB:SB kd U a₀ lo pd st)(h:∀ m st',SB kd U a₀ lo pd st'->1<=m->m<=nrem->CF rk (arrOf st') lo m->Q (some m) st') :
  wpS (model prog w) A E s (countRun' lo nrem) Q st:=by
 rw[countRun'_eq]
 refine bo (M8 L (by intro x c;rfl) hn (Vn 1) h1 hB (NS _ _) fun n hn1 hn2 hsn hor=>?_)
 dsimp only
 by_cases hnn:n=nrem
 .first|refine B4 (by simpa using hnn) ?_|rw[if_pos (by simpa using hnn)]
  exact bq (h n st hB hn1 hn2 hsn)
 .first|refine Bu (by simpa using hnn) ?_|rw[if_neg (by simpa using hnn)]
  have hlt:Rk rk (arrOf st) (lo+n)<Rk rk (arrOf st) (lo+n-1):=hor.resolve_left hnn
  have hB0:=hB
  by_cases hgt:n > 1
  case' pos=>
   first|refine B4 hgt ?_|rw[if_pos hgt]
   refine bo (EL L hB (by exact AL 3 (.l (.a Y0 Y1) Y2) (.l N1 Y1) (.t Y0 Y2) [_,_,_] hn h1) (by exact Be 4 (.l (.a Y0 Y1) Y2) (.l Y3 Y1) (.no (.e Y3 Y1)) (.t (.s (.a Y0 Y3) N1) Y2) [_,_,_,_] hn hn2 hnn) ?_)
   by_cases hrose:Rk rk (arrOf st) lo<Rk rk (arrOf st) (lo+n-1)
   .first|refine B4 (by simpa using hrose) ?_|simp only[hrose,decide_true,if_true]
    exact bq (h n st hB hn1 hn2 hsn)
   first|refine Bu (by simpa using hrose) ?_|simp only[hrose,decide_false,bv,if_false]
   have hsz:lo+n<=(arrOf st).size:=by rw[hB.size];exact AL 4 (.l (.a Y0 Y1) Y2) (.l Y3 Y1) (.l (.a Y0 Y3) Y2) [_,_,_,_] hn hn2
   have hall:∀ k,lo<=k->k<lo+n->Rk rk (arrOf st) k=Rk rk (arrOf st) (lo+n-1):=by
    intro k hk1 hk
    have a1:=hsn 0 (k-lo) (by exact Bh 2 (.l (.n 0) (.s Y0 Y1)) [_,_]) (by exact AL 3 (.l N1 Y0) (.t Y1 (.a Y2 Y0)) (.t (.s Y1 Y2) Y0) [_,_,_] hn1 hk)
    have a2:=hsn (k-lo) (n-1) (by exact AJ 3 (.t Y0 (.a Y1 Y2)) (.l (.s Y0 Y1) (.s Y2 N1)) [_,_,_] hk) (by exact AJ 1 (.l N1 Y0) (.t (.s Y0 N1) Y0) [_] hn1)
    rw[show lo+(k-lo)=k by exact AJ 2 (.l Y0 Y1) (.e (.a Y0 (.s Y1 Y0)) Y1) [_,_] hk1]at a1 a2
    rw[show lo+(n-1)=lo+n-1 by exact AJ 2 (.l N1 Y0) (.e (.a Y1 (.s Y0 N1)) (.s (.a Y1 Y0) N1)) [_,_] hn1]at a2
    rw[cA]at a1
    exact b9 a2 (VN (aF.mp hrose) a1)
   refine bo (FV hB (Vn _) (by exact AL 4 (.l (.a Y0 Y1) Y2) (.l Y3 Y1) (.l (.a Y0 Y3) Y2) [_,_,_,_] hn hn2) fun hB2=>?_)
   have hni:KF rk (arrOf (setArr st (mirror (arrOf st) lo (lo+n) ((lo+n-lo) / 2)))) lo (n+1):=by
    refine Dp (by exact AJ 1 (.l N1 Y0) (.l N1 Y0) [_] hn1) (fun i j hij hj=>?_) ?_
    .show Rk rk (mirror (arrOf st) _ _ _) _<=Rk rk (mirror (arrOf st) _ _ _) _
     rw[Ap hsz hall,Ap hsz hall,hall _ (by exact Bh 2 (.l Y0 (.a Y0 Y1)) [_,_]) (by exact AJ 3 (.t Y0 Y1) (.t (.a Y2 Y0) (.a Y2 Y1)) [_,_,_] hj),hall (lo+i) (by exact Bh 2 (.l Y0 (.a Y0 Y1)) [_,_]) (by exact AL 4 (.l Y0 Y1) (.t Y1 Y2) (.t (.a Y3 Y0) (.a Y3 Y2)) [_,_,_,_] hij hj)]
     exact bn _
    .show Rk rk (mirror (arrOf st) _ _ _) _<=Rk rk (mirror (arrOf st) _ _ _) _
     rw[Ap hsz hall,Ap hsz hall]
     exact bx hlt
   generalize setArr st (mirror (arrOf st) lo (lo+n) ((lo+n-lo) / 2))=st2 at hB2 hni ⊢
  case' neg=>
   first|refine Bu hgt ?_|rw[if_neg hgt]
   have hni:KF rk (arrOf st) lo (n+1):=by
    have hn1':n=1:=by exact AL 1 (.l N1 Y0) (.no (.t N1 Y0)) (.e Y0 N1) [_] hn1 hgt
    subst hn1'
    refine Dp (by exact Bh 0 (.l N1 N1) []) (fun i j hij hj=>?_) (bx hlt)
    have:i=j:=by exact AL 2 (.l Y0 Y1) (.t Y1 N1) (.e Y0 Y1) [_,_] hij hj
    subst this;exact bn _
   have hB2:=hB
  all_goals
   clear hlt hsn hor hB hB0
   refine bo (cB (ZH ⟨rfl,?_⟩))
   refine bo (NA L (by intro x c;rfl) hn (by exact Bh 1 (.l N1 (.a Y0 N1)) [_]) (by exact AL 2 (.l Y0 Y1) (.no (.e Y0 Y1)) (.l (.a Y0 N1) Y1) [_,_] hn2 hnn) hB2 hni fun m neq st3 hB3 hm1 hm2 hs3 hq he=>?_)
   dsimp only
   have hsz:lo+m<=(arrOf st3).size:=by rw[hB3.size];exact AL 4 (.l (.a Y0 Y1) Y2) (.l Y3 Y1) (.l (.a Y0 Y3) Y2) [_,_,_,_] hn hm2
   by_cases hq0:neq > 0
   case' pos=>
    first|refine B4 hq0 ?_|rw[if_pos hq0]
    refine bo (FV hB3 (by exact AJ 3 (.l (.a Y0 N1) Y1) (.l Y2 (.s (.a Y2 Y1) (.a Y0 N1))) [_,_,_] hq) (by exact AL 4 (.l (.a Y0 Y1) Y2) (.l Y3 Y1) (.l (.a Y0 Y3) Y2) [_,_,_,_] hn hm2) fun hB4=>?_)
    have hs4:KF rk (arrOf (setArr st3 (mirror (arrOf st3) (lo+m-(neq+1)) (lo+m) ((lo+m-(lo+m-(neq+1))) / 2)))) lo m:=by
     intro i j hij hj
     show Rk rk (mirror (arrOf st3) _ _ _) _<=Rk rk (mirror (arrOf st3) _ _ _) _
     rw[Ap hsz he,Ap hsz he]
     exact hs3 i j hij hj
    generalize setArr st3 (mirror (arrOf st3) (lo+m-(neq+1)) (lo+m) ((lo+m-(lo+m-(neq+1))) / 2))=st4 at hB4 hs4 ⊢
   case' neg=>
    first|refine Bu hq0 ?_|rw[if_neg hq0]
    have hs4:=hs3
    have hB4:=hB3
   all_goals
    clear he hs3 hsz hB3
    have hsz:=hB4.size
    refine bo (FV hB4 (Vn _) (by exact AL 4 (.l (.a Y0 Y1) Y2) (.l Y3 Y1) (.l (.a Y0 Y3) Y2) [_,_,_,_] hn hm2) fun hB5=>?_)
    refine bo (M8 L (by intro x c;rfl) hn (by exact AJ 2 (.l (.a Y0 N1) Y1) (.l N1 Y1) [_,_] hm1) hm2 hB5 ?_ fun k hk1 hk2 hsk _=>bq (h k _ hB5 (by exact AL 3 (.l (.a Y0 N1) Y1) (.l Y1 Y2) (.l N1 Y2) [_,_,_] hm1 hk1) hk2 hsk))
    intro i j hij hj
    show Rk rk (mirror _ _ _ _) _<=Rk rk (mirror _ _ _ _) _
    rw[E4 (by exact Be 5 (.l (.a Y0 Y1) Y2) (.l Y3 Y1) (.e Y4 Y2) (.l (.a Y0 Y3) Y4) [_,_,_,_,_] hn hm2 hsz),E4 (by exact Be 5 (.l (.a Y0 Y1) Y2) (.l Y3 Y1) (.e Y4 Y2) (.l (.a Y0 Y3) Y4) [_,_,_,_,_] hn hm2 hsz),if_pos (by exact AL 4 (.l Y0 Y1) (.t Y1 Y2) (.an (.l Y3 (.a Y3 Y0)) (.t (.a Y3 Y0) (.a Y3 Y2))) [_,_,_,_] hij hj),if_pos (by exact AJ 3 (.t Y0 Y1) (.an (.l Y2 (.a Y2 Y0)) (.t (.a Y2 Y0) (.a Y2 Y1))) [_,_,_] hj)]
    have:=hs4 (m-1-j) (m-1-i) (by exact AJ 3 (.l Y0 Y1) (.l (.s (.s Y2 N1) Y1) (.s (.s Y2 N1) Y0)) [_,_,_] hij) (by exact AJ 3 (.t Y0 Y1) (.t (.s (.s Y1 N1) Y2) Y1) [_,_,_] hj)
    rwa [show lo+(m-1-i)=lo+(lo+m)-1-(lo+i) by exact AL 4 (.l Y0 Y1) (.t Y1 Y2) (.e (.a Y3 (.s (.s Y2 N1) Y0)) (.s (.s (.a Y3 (.a Y3 Y2)) N1) (.a Y3 Y0))) [_,_,_,_] hij hj,show lo+(m-1-j)=lo+(lo+m)-1-(lo+j) by exact AJ 3 (.t Y0 Y1) (.e (.a Y2 (.s (.s Y1 N1) Y0)) (.s (.s (.a Y2 (.a Y2 Y1)) N1) (.a Y2 Y0))) [_,_,_] hj]at this
end
end
section
open PySem PyProof.Rows
noncomputable def C1:Bool->bZ->Array bZ->Nat->Nat->Nat->StateT bb Sem (Option Nat):=sortPriv% PySem.Builtin.gallop
theorem Km(left:Bool)(key:bZ)(arr:Array bZ)(base n hint:Nat):C1 left key arr base n hint=(do
 let beyond (i:Nat):StateT bb Sem (Option Bool):=do
  let x <- elem' arr (base+i)
  if left then lt' x key else return(<- lt' key x).map (!·)
 let mut lastofs:=0
 let mut ofs:=1
 let mut lo:=0
 let mut hi:=0
 let some right <- beyond hint|return none
 if right then
  let maxofs:=n-hint
  for _ in [0:n] do
   if ofs≥maxofs then break
   let some more <- beyond (hint+ofs)|return none
   if !more then break
   lastofs:=ofs
   ofs:=2 * ofs+1
  lo:=hint+lastofs+1
  hi:=hint+min ofs maxofs
 else
  let maxofs:=hint+1
  for _ in [0:n] do
   if ofs≥maxofs then break
   let some found <- beyond (hint-ofs)|return none
   if found then break
   lastofs:=ofs
   ofs:=2 * ofs+1
  lo:=hint+1-min ofs maxofs
  hi:=hint-lastofs
 for _ in [0:n] do
  if lo≥hi then break
  let m:=lo+(hi-lo) / 2
  let some more <- beyond m|return none
  if more then lo:=m+1 else hi:=m
 return some hi):=rfl
section
variable{prog:VY}{w:VZ}{A:Va}{E:VX->Vb->Prop}{s:Vb}
variable{kd:ba}{U:bZ->Prop}{rk:bZ->Int}{st:bb}
theorem Gr{P:Prop}(h:∀ G:Prop,(P->G)->G):P:=h P id
noncomputable def TA(U:bZ->Prop)(rk:bZ->Int)(arr:Array bZ)(base n:Nat)(r:Nat->Int):Prop:=∀ i,i<n->∃ p,arr[base+i]?=some p/\U p/\rk p=r i
noncomputable def Bb(left:Bool)(k:Int)(x:Int):Bool:=if left then decide (x<k) else !decide (k<x)
theorem Nh{k x:Int}(h:Bb true k x=true):x<k:=of_decide_eq_true h
theorem KU{k x:Int}(h:Bb false k x=true):x<=k:=aF.mp (of_decide_eq_false ((X6 _).mp h))
theorem IC{k x:Int}(h:Bb true k x=false):k<=x:=aF.mp (of_decide_eq_false h)
theorem LU{k x:Int}(h:Bb false k x=false):k<x:=of_decide_eq_true ((Bool.not_eq_false' _).mp h)
theorem EK(L:Bt prog w A E s kd U rk){left:Bool}{key:bZ}{arr:Array bZ}{base n i:Nat}{r:Nat->Int}{Q:Option Bool->bb->Prop}(hk:kindOf st=kd)(hu:U key)(hs:TA U rk arr base n r)(hi:i<n)(h:Q (some (Bb left (rk key) (r i))) st):wpS (model prog w) A E s (do
     let x <- elem' arr (base+i)
     if left=true then lt' x key
      else do
       let y <- lt' key x
       pure (Option.map (fun x=>!x) y)) Q st:=by
 obtain⟨p,e,up,er⟩:=hs i hi
 rw[elem'_eq,e]
 refine bo (bq ?_)
 unfold Bb at h
 cases left with
 | true=>
  rw[if_pos rfl]at h ⊢
  refine L p key st _ up hu hk ?_
  rw[er];exact h
 | false=>
  rw[if_neg (by decide)]at h ⊢
  refine bo (L key p st _ hu up hk (bq ?_))
  rw[er];exact h
theorem MN{left:Bool}{k x y:Int}(h:x<=y)(hy:Bb left k y=true):Bb left k x=true:=by
 unfold Bb at *
 cases left<;>simp at *<;>lia
noncomputable def Ii(left:Bool)(key:bZ)(arr:Array bZ)(i:Nat):StateT bb Sem (Option Bool):=do
 let x <- elem' arr i
 if left=true then lt' x key else do
  let y <- lt' key x
  pure (Option.map (fun x=>!x) y)
abbrev GC:=Option (Option Nat)×Nat×Nat
noncomputable def Ud(left:Bool)(key:bZ)(arr:Array bZ)(base:Nat)(c:GC):StateT bb Sem (ForInStep GC):=
 if c.2.1≥c.2.2 then pure (.done (none,c.2.1,c.2.2)) else do
  match (<- Ii left key arr (base+(c.2.1+(c.2.2-c.2.1) / 2))) with
  | some more=>(if more=true then pure (.yield (none,c.2.1+(c.2.2-c.2.1) / 2+1,c.2.2)) else pure (.yield (none,c.2.1,c.2.1+(c.2.2-c.2.1) / 2)))
  | _=>pure (.done (some none,c.2.1,c.2.2))
noncomputable def VB(left:Bool)(key:bZ)(arr:Array bZ)(base n hint:Nat)(c:GC):StateT bb Sem (ForInStep GC):=
 if c.2.2≥n-hint then pure (.done (none,c.2.1,c.2.2)) else do
  match (<- Ii left key arr (base+(hint+c.2.2))) with
  | some more=>(if (!more)=true then pure (.done (none,c.2.1,c.2.2)) else pure (.yield (none,c.2.2,2 * c.2.2+1)))
  | _=>pure (.done (some none,c.2.1,c.2.2))
noncomputable def VE(left:Bool)(key:bZ)(arr:Array bZ)(base hint:Nat)(c:GC):StateT bb Sem (ForInStep GC):=
 if c.2.2≥hint+1 then pure (.done (none,c.2.1,c.2.2)) else do
  match (<- Ii left key arr (base+(hint-c.2.2))) with
  | some found=>(if found=true then pure (.done (none,c.2.1,c.2.2)) else pure (.yield (none,c.2.2,2 * c.2.2+1)))
  | _=>pure (.done (some none,c.2.1,c.2.2))
def Ug(left:Bool)(key:Int)(r:Nat->Int)(k:Nat):Prop:=∀ i,i<k->Bb left key (r i)=true
def Ul(left:Bool)(key:Int)(r:Nat->Int)(n k:Nat):Prop:=∀ i,k<=i->i<n->Bb left key (r i)=false
def Rs(r:Nat->Int)(n:Nat):Prop:=∀ i j,i<=j->j<n->r i<=r j
theorem Rs.up{left:Bool}{key:Int}{r:Nat->Int}{n:Nat}(hr:Rs r n){i j:Nat}(h1:i<=j)(h2:j<n)(h3:Bb left key (r j)=true):Bb left key (r i)=true:=MN (hr i j h1 h2) h3
theorem Rs.dn{left:Bool}{key:Int}{r:Nat->Int}{n:Nat}(hr:Rs r n){i j:Nat}(h1:i<=j)(h2:j<n)(h3:Bb left key (r i)=false):Bb left key (r j)=false:=by
 cases q:Bb left key (r j) with
 | false=>rfl
 | true=>rw[hr.up h1 h2 q]at h3;cases h3
def VD(left:Bool)(key:Int)(r:Nat->Int)(n:Nat)(st:bb)(x:Nat)(c:GC)(st':bb):Prop:=st'=st/\∃ a b,c=(none,a,b)/\a<=b/\b<=n/\b-a<=n-x/\Ug left key r a/\Ul left key r n b
theorem RB(L:Bt prog w A E s kd U rk){left:Bool}{key:bZ}{arr:Array bZ}{base n:Nat}{r:Nat->Int}{Q:GC->bb->Prop}(hk:kindOf st=kd)(hu:U key)(hs:TA U rk arr base n r)(hr:Rs r n){a b:Nat}{f:Nat->GC->StateT bb Sem (ForInStep GC)}(hf:∀ x c,f x c=Ud left key arr base c)(h0:a<=b)(h1:b<=n)(h4:Ug left (rk key) r a)(h5:Ul left (rk key) r n b)(h:∀ l k,k<=n->Ug left (rk key) r k->Ul left (rk key) r n k->Q (none,l,k) st):wpS (model prog w) A E s (forIn [0:n] (none,a,b) f) Q st:=by
 refine bu (I:=VD left (rk key) r n st) ?bstep ?bfin ⟨rfl,_,_,rfl,h0,h1,by exact AJ 3 (.l Y0 Y1) (.l (.s Y0 Y2) (.s Y1 (.n 0))) [_,_,_] h1,h4,h5⟩
 case bfin=>
  rintro c st'' ⟨rfl,a,b,rfl,h1,h2,h3,h4,h5⟩
  have:a=b:=by exact AL 3 (.l Y0 Y1) (.l (.s Y1 Y0) (.s Y2 (.mx (.n 0) Y2))) (.e Y0 Y1) [_,_,_] h1 h3
  subst this
  exact h _ _ h2 h4 h5
 case bstep=>
  intro x c st' _ hx hI
  rw[hf]
  refine Gr fun G hG=>?_
  obtain⟨rfl,a,b,rfl,h1,h2,h3,h4,h5⟩:=hI
  refine hG (D5 (fun hge=>?_) fun hge=>?_)
  .have hgn:a≥b:=hge
   have:a=b:=by exact AL 2 (.l Y0 Y1) (.l Y1 Y0) (.e Y0 Y1) [_,_] h1 hge
   subst this
   exact bq (h _ _ h2 h4 h5)
  .have hgn:¬a≥b:=hge
   refine bo (EK L hk hu hs (i:=a+(b-a) / 2) (by exact Be 4 (.l Y0 Y1) (.no (.l Y0 Y2)) (.an (.l (.m 2 Y3) (.s Y0 Y2)) (.t (.s Y0 Y2) (.a (.m 2 Y3) (.n 2)))) (.t (.a Y2 Y3) Y1) [_,_,_,_] h2 hge (half_le _)) ?_)
   cases hq:Bb left (rk key) (r (a+(b-a) / 2)) with
   | true=>exact bq ⟨rfl,a+(b-a) / 2+1,b,rfl,by exact AL 3 (.no (.l Y0 Y1)) (.an (.l (.m 2 Y2) (.s Y0 Y1)) (.t (.s Y0 Y1) (.a (.m 2 Y2) (.n 2)))) (.l (.a (.a Y1 Y2) N1) Y0) [_,_,_] hge (half_le _),h2,by exact AJ 5 (.l (.s Y0 Y1) (.s Y2 Y3)) (.l (.s Y0 (.a (.a Y1 Y4) N1)) (.s Y2 (.a Y3 N1))) [_,_,_,_,_] h3,fun i hi=>hr.up (by exact AJ 3 (.t Y0 (.a (.a Y1 Y2) N1)) (.l Y0 (.a Y1 Y2)) [_,_,_] hi) (by exact Be 4 (.l Y0 Y1) (.no (.l Y0 Y2)) (.an (.l (.m 2 Y3) (.s Y0 Y2)) (.t (.s Y0 Y2) (.a (.m 2 Y3) (.n 2)))) (.t (.a Y2 Y3) Y1) [_,_,_,_] h2 hge (half_le _)) hq,h5⟩
   | false=>exact bq ⟨rfl,a,a+(b-a) / 2,rfl,by exact Bh 2 (.l Y0 (.a Y0 Y1)) [_,_],by exact Be 4 (.l Y0 Y1) (.no (.l Y0 Y2)) (.an (.l (.m 2 Y3) (.s Y0 Y2)) (.t (.s Y0 Y2) (.a (.m 2 Y3) (.n 2)))) (.l (.a Y2 Y3) Y1) [_,_,_,_] h2 hge (half_le _),by exact AL 5 (.l (.s Y0 Y1) (.s Y2 Y3)) (.an (.l (.m 2 Y4) (.s Y0 Y1)) (.t (.s Y0 Y1) (.a (.m 2 Y4) (.n 2)))) (.l (.s (.a Y1 Y4) Y1) (.s Y2 (.a Y3 N1))) [_,_,_,_,_] h3 (half_le _),h4,fun i h6 h7=>hr.dn h6 h7 hq⟩
def VC(left:Bool)(key:Int)(r:Nat->Int)(n hint:Nat)(st:bb)(x:Nat)(c:GC)(st':bb):Prop:=st'=st/\∃ l o,c=(none,l,o)/\l<o/\x+1<=o/\hint+l<n/\Bb left key (r (hint+l))=true
theorem Uc(L:Bt prog w A E s kd U rk){left:Bool}{key:bZ}{arr:Array bZ}{base n hint:Nat}{r:Nat->Int}{Q:GC->bb->Prop}(hk:kindOf st=kd)(hu:U key)(hs:TA U rk arr base n r){f:Nat->GC->StateT bb Sem (ForInStep GC)}(hf:∀ x c,f x c=VB left key arr base n hint c)(hh:hint<n)(hb:Bb left (rk key) (r hint)=true)(h:∀ l o,l<o->hint+l<n->Bb left (rk key) (r (hint+l))=true->(n<=hint+o∨Bb left (rk key) (r (hint+o))=false)->Q (none,l,o) st):wpS (model prog w) A E s (forIn [0:n] (none,0,1) f) Q st:=by
 refine bu (I:=VC left (rk key) r n hint st) ?step ?fin ⟨rfl,0,1,rfl,by exact Bh 0 (.t (.n 0) N1) [],by exact Bh 0 (.l (.a (.n 0) N1) N1) [],by exact AJ 2 (.t Y0 Y1) (.t (.a Y0 (.n 0)) Y1) [_,_] hh,hb⟩
 case fin=>
  rintro c st' ⟨rfl,l,o,rfl,h1,h2,h3,h4⟩
  exact h l o h1 h3 h4 (.inl (by exact AJ 3 (.l (.a (.mx (.n 0) Y0) N1) Y1) (.l Y0 (.a Y2 Y1)) [_,_,_] h2))
 case step=>
  intro x c st' _ hx hI
  rw[hf]
  refine Gr fun G hG=>?_
  obtain⟨rfl,l,o,rfl,h1,h2,h3,h4⟩:=hI
  refine hG (D5 (fun hge=>?_) fun hge=>?_)
  .have hgn:o≥n-hint:=hge
   exact bq (h l o h1 h3 h4 (.inl (by exact AJ 3 (.l (.s Y0 Y1) Y2) (.l Y0 (.a Y1 Y2)) [_,_,_] hge)))
  .have hgn:¬o≥n-hint:=hge
   refine bo (EK L hk hu hs (i:=hint+o) (by exact AJ 3 (.no (.l (.s Y0 Y1) Y2)) (.t (.a Y1 Y2) Y0) [_,_,_] hge) ?_)
   cases hq:Bb left (rk key) (r (hint+o)) with
   | false=>exact bq (h l o h1 h3 h4 (.inr hq))
   | true=>exact bq ⟨rfl,o,2 * o+1,rfl,by exact Bh 1 (.t Y0 (.a (.m 2 Y0) N1)) [_],by exact AJ 2 (.l (.a Y0 N1) Y1) (.l (.a (.a Y0 N1) N1) (.a (.m 2 Y1) N1)) [_,_] h2,by exact AJ 3 (.no (.l (.s Y0 Y1) Y2)) (.t (.a Y1 Y2) Y0) [_,_,_] hge,hq⟩
def VF(left:Bool)(key:Int)(r:Nat->Int)(hint:Nat)(st:bb)(x:Nat)(c:GC)(st':bb):Prop:=st'=st/\∃ l o,c=(none,l,o)/\l<o/\x+1<=o/\l<=hint/\Bb left key (r (hint-l))=false
theorem Sn(L:Bt prog w A E s kd U rk){left:Bool}{key:bZ}{arr:Array bZ}{base n hint:Nat}{r:Nat->Int}{Q:GC->bb->Prop}(hk:kindOf st=kd)(hu:U key)(hs:TA U rk arr base n r){f:Nat->GC->StateT bb Sem (ForInStep GC)}(hf:∀ x c,f x c=VE left key arr base hint c)(hh:hint<n)(hb:Bb left (rk key) (r hint)=false)(h:∀ l o,l<o->l<=hint->Bb left (rk key) (r (hint-l))=false->(hint+1<=o∨(o<=hint/\Bb left (rk key) (r (hint-o))=true))->Q (none,l,o) st):wpS (model prog w) A E s (forIn [0:n] (none,0,1) f) Q st:=by
 refine bu (I:=VF left (rk key) r hint st) ?step ?fin ⟨rfl,0,1,rfl,by exact Bh 0 (.t (.n 0) N1) [],by exact Bh 0 (.l (.a (.n 0) N1) N1) [],by exact Bh 1 (.l (.n 0) Y0) [_],hb⟩
 case fin=>
  rintro c st' ⟨rfl,l,o,rfl,h1,h2,h3,h4⟩
  exact h l o h1 h3 h4 (.inl (by exact AL 3 (.t Y0 Y1) (.l (.a (.mx (.n 0) Y1) N1) Y2) (.l (.a Y0 N1) Y2) [_,_,_] hh h2))
 case step=>
  intro x c st' _ hx hI
  rw[hf]
  refine Gr fun G hG=>?_
  obtain⟨rfl,l,o,rfl,h1,h2,h3,h4⟩:=hI
  refine hG (D5 (fun hge=>?_) fun hge=>?_)
  .have hgn:o≥hint+1:=hge
   exact bq (h l o h1 h3 h4 (.inl (by exact AJ 2 (.l (.a Y0 N1) Y1) (.l (.a Y0 N1) Y1) [_,_] hge)))
  .have hgn:¬o≥hint+1:=hge
   refine bo (EK L hk hu hs (i:=hint-o) (by exact AJ 3 (.t Y0 Y1) (.t (.s Y0 Y2) Y1) [_,_,_] hh) ?_)
   cases hq:Bb left (rk key) (r (hint-o)) with
   | true=>exact bq (h l o h1 h3 h4 (.inr ⟨by exact AJ 2 (.no (.l (.a Y0 N1) Y1)) (.l Y1 Y0) [_,_] hge,hq⟩))
   | false=>exact bq ⟨rfl,o,2 * o+1,rfl,by exact Bh 1 (.t Y0 (.a (.m 2 Y0) N1)) [_],by exact AJ 2 (.l (.a Y0 N1) Y1) (.l (.a (.a Y0 N1) N1) (.a (.m 2 Y1) N1)) [_,_] h2,by exact AJ 2 (.no (.l (.a Y0 N1) Y1)) (.l Y1 Y0) [_,_] hge,hq⟩
theorem CH(L:Bt prog w A E s kd U rk){left:Bool}{key:bZ}{arr:Array bZ}{base n hint:Nat}{r:Nat->Int}{Q:Option Nat->bb->Prop}(hk:kindOf st=kd)(hu:U key)(hs:TA U rk arr base n r)(hr:Rs r n)(hh:hint<n)(h:∀ k,k<=n->(∀ i,i<k->Bb left (rk key) (r i)=true)->(∀ i,k<=i->i<n->Bb left (rk key) (r i)=false)->Q (some k) st) :
  wpS (model prog w) A E s (C1 left key arr base n hint) Q st:=by
 rw[Km]
 refine bo (EK L hk hu hs hh ?_)
 cases hb:Bb left (rk key) (r hint) with
 | true=>
  refine bo (Uc L hk hu hs (fun _ _=>rfl) hh hb fun l o h1 h3 h4 h5=>?_)
  refine bo (RB L hk hu hs hr (a:=hint+l+1) (b:=hint+min o (n-hint)) (fun _ _=>rfl) (by exact AL 4 (.t Y0 Y1) (.t (.a Y2 Y0) Y3) (.l (.a (.a Y2 Y0) N1) (.a Y2 (.mn Y1 (.s Y3 Y2)))) [_,_,_,_] h1 h3) (by exact AJ 3 (.t Y0 Y1) (.l (.a Y0 (.mn Y2 (.s Y1 Y0))) Y1) [_,_,_] hh) (fun i hi=>hr.up (j:=hint+l) (by exact AJ 3 (.t Y0 (.a (.a Y1 Y2) N1)) (.l Y0 (.a Y1 Y2)) [_,_,_] hi) h3 h4) (fun i h6 h7=>?binit) fun l k h1 h2 h3=>bq (h k h1 h2 h3))
  rcases h5 with h5|h5
  .exfalso;exact Be 4 (.l (.a Y0 (.mn Y1 (.s Y2 Y0))) Y3) (.t Y3 Y2) (.l Y2 (.a Y0 Y1)) .f [_,_,_,_] h6 h7 h5
  .exact hr.dn (i:=hint+o) (by exact AL 4 (.l (.a Y0 (.mn Y1 (.s Y2 Y0))) Y3) (.t Y3 Y2) (.l (.a Y0 Y1) Y3) [_,_,_,_] h6 h7) h7 h5
 | false=>
  refine bo (Sn L hk hu hs (fun _ _=>rfl) hh hb fun l o h1 h3 h4 h5=>?_)
  refine bo (RB L hk hu hs hr (a:=hint+1-min o (hint+1)) (b:=hint-l) (fun _ _=>rfl) (by exact AJ 3 (.t Y0 Y1) (.l (.s (.a Y2 N1) (.mn Y1 (.a Y2 N1))) (.s Y2 Y0)) [_,_,_] h1) (by exact AJ 3 (.t Y0 Y1) (.l (.s Y0 Y2) Y1) [_,_,_] hh) (fun i hi=>?binit2) (fun i h6 h7=>hr.dn (i:=hint-l) (by exact AJ 3 (.l (.s Y0 Y1) Y2) (.l (.s Y0 Y1) Y2) [_,_,_] h6) h7 h4) fun l k h1 h2 h3=>bq (h k h1 h2 h3))
  rcases h5 with h5|⟨h6,h5⟩
  .exfalso;exact AL 3 (.t Y0 (.s (.a Y1 N1) (.mn Y2 (.a Y1 N1)))) (.l (.a Y1 N1) Y2) .f [_,_,_] hi h5
  .exact hr.up (j:=hint-o) (by exact AJ 3 (.t Y0 (.s (.a Y1 N1) (.mn Y2 (.a Y1 N1)))) (.l Y0 (.s Y1 Y2)) [_,_,_] hi) (by exact AJ 3 (.t Y0 Y1) (.t (.s Y0 Y2) Y1) [_,_,_] hh) h5
end
end
section
open PySem PyProof.Rows
section
variable{α:Type}{rk:α->Int}{la lb o:List α}{ia ib:Nat}
noncomputable abbrev BN(rk:α->Int)(l:List α):Prop:=l.Pairwise fun x y=>rk x<=rk y
structure MI(rk:α->Int)(la lb o:List α)(ia ib:Nat):Prop where
 perm:o.Perm (la.take ia++lb.take ib)
 so:BN rk o
 le:∀ p∈o,(∀ q∈la.drop ia,rk p<=rk q)/\∀ q∈lb.drop ib,rk p<=rk q
structure MFin(rk:α->Int)(la lb r:List α):Prop where
 perm:r.Perm (la++lb)
 so:BN rk r
theorem MI.swap(h:MI rk la lb o ia ib):MI rk lb la o ib ia:=⟨h.perm.trans d5,h.so,fun p hp=>⟨(h.le p hp).2,(h.le p hp).1⟩⟩
theorem MFin.swap{r:List α}(h:MFin rk la lb r):MFin rk lb la r:=⟨h.perm.trans d5,h.so⟩
theorem HF{l:List α}{i:Nat}{q:α}(h:q∈l.drop (i+1)):q∈l.drop i:=by
 rw[show i+1=i+1 from rfl,<- dh]at h
 exact d6 h
theorem MI.takeB(h:MI rk la lb o ia ib)(sb:BN rk lb){x:α}(hx:lb[ib]?=some x)(hle:∀ q∈la.drop ia,rk x<=rk q):MI rk la lb (o++[x]) ia (ib+1):=by
 obtain⟨hi,e⟩:=WX.mp hx
 have hd:lb.drop ib=x::lb.drop (ib+1):=by rw[aY hi,e]
 refine⟨?_,?_,?_⟩
 .rw[cf,hx,<- Wv]
  exact h.perm.append (List.Perm.refl _)
 .refine Yn.mpr ⟨h.so,by simp,fun p hp q hq=>?_⟩
  rw[XQ]at hq
  subst hq
  exact(h.le p hp).2 q (by rw[hd];simp)
 .intro p hp
  rcases W9.mp hp with hp|hp
  .exact⟨(h.le p hp).1,fun q hq=>(h.le p hp).2 q (HF hq)⟩
  .rw[XQ]at hp
   subst hp
   refine⟨hle,fun q hq=>?_⟩
   have:BN rk (lb.drop ib):=sb.sublist (di _ _)
   rw[hd]at this
   exact(Yq.mp this).1 q hq
theorem MI.takeBs(h:MI rk la lb o ia ib)(sb:BN rk lb):∀ (k:Nat),ib+k<=lb.length->(∀ x∈(lb.drop ib).take k,∀ q∈la.drop ia,rk x<=rk q)->MI rk la lb (o++(lb.drop ib).take k) ia (ib+k)
 | 0,_,_=>by simpa using h
 | k+1,hk,hle=>by
  have hi:ib+k<lb.length:=by exact AJ 3 (.l (.a Y0 (.a Y1 N1)) Y2) (.t (.a Y0 Y1) Y2) [_,_,_] hk
  have e:(lb.drop ib).take (k+1)=(lb.drop ib).take k++[lb[ib+k]]:=by rw[cf];simp[hi]
  rw[e,<- Wv]
  refine(h.takeBs sb k (by exact AJ 3 (.l (.a Y0 (.a Y1 N1)) Y2) (.l (.a Y0 Y1) Y2) [_,_,_] hk) fun x hx=>hle x (by rw[e];simp[hx])).takeB sb (by simp[hi]) fun q hq=>hle _ (by rw[e];simp) q hq
theorem MI.takeA(h:MI rk la lb o ia ib)(sa:BN rk la){x:α}(hx:la[ia]?=some x)(hle:∀ q∈lb.drop ib,rk x<=rk q):MI rk la lb (o++[x]) (ia+1) ib:=(h.swap.takeB sa hx hle).swap
theorem MI.takeAs(h:MI rk la lb o ia ib)(sa:BN rk la)(k:Nat)(hk:ia+k<=la.length)(hle:∀ x∈(la.drop ia).take k,∀ q∈lb.drop ib,rk x<=rk q):MI rk la lb (o++(la.drop ia).take k) (ia+k) ib:=(h.swap.takeBs sa k hk hle).swap
theorem MI.finBA(h:MI rk la lb o ia ib)(sa:BN rk la)(sb:BN rk lb)(hle:∀ x∈lb.drop ib,∀ q∈la.drop ia,rk x<=rk q):MFin rk la lb (o++lb.drop ib++la.drop ia):=by
 refine⟨?_,?_⟩
 .have p1:(o++lb.drop ib++la.drop ia).Perm (la.take ia++lb.take ib++lb.drop ib++la.drop ia):=(h.perm.append_right _).append_right _
  refine p1.trans ?_
  rw[Wv (la.take ia),Ym]
  have:(la++lb).Perm (la.take ia++(la.drop ia++lb)):=by rw[<- Wv,Ym]
  refine bU ?_ this.symm
  rw[Wv]
  exact Zi _ d5
 .rw[Wv]
  refine Yn.mpr ⟨h.so,Yn.mpr ⟨sb.sublist (di _ _),sa.sublist (di _ _),hle⟩,fun p hp q hq=>?_⟩
  rcases W9.mp hq with hq|hq
  .exact(h.le p hp).2 q hq
  .exact(h.le p hp).1 q hq
theorem MI.finAB(h:MI rk la lb o ia ib)(sa:BN rk la)(sb:BN rk lb)(hle:∀ x∈la.drop ia,∀ q∈lb.drop ib,rk x<=rk q):MFin rk la lb (o++la.drop ia++lb.drop ib):=(h.swap.finBA sb sa hle).swap
end
section
variable{U:bZ->Prop}{rk:bZ->Int}{a b out:Array bZ}{ia ib:Nat}
theorem Fm(a:Array bZ)(i:Nat):(a.extract i a.size).toList=a.toList.drop i:=by simp[aH]
theorem Ee(a:Array bZ)(i k:Nat):(a.extract i (i+k)).toList=(a.toList.drop i).take k:=by simp
structure Arr2(U:bZ->Prop)(rk:bZ->Int)(a b:Array bZ):Prop where
 ua:∀ p∈a.toList,U p
 ub:∀ p∈b.toList,U p
 sa:BN rk a.toList
 sb:BN rk b.toList
 na:1<=a.size
 nb:1<=b.size
 lo:∀ p q,b[0]?=some p->q∈a.toList->rk p<rk q
 hi:∀ p q,a[a.size-1]?=some p->q∈b.toList->rk q<rk p
theorem Bx{l:List bZ}(h:BN rk l){i j:Nat}{x y:bZ}(hij:i<=j)(hx:l[i]?=some x)(hy:l[j]?=some y):rk x<=rk y:=by
 obtain⟨h1,rfl⟩:=WX.mp hx
 obtain⟨h2,rfl⟩:=WX.mp hy
 rcases Yp i j with q|q
 .exact Yj.mp h i j h1 h2 q
 .have:i=j:=by exact AL 2 (.l Y0 Y1) (.l Y1 Y0) (.e Y0 Y1) [_,_] hij q
  subst this;exact bn _
theorem CS{l:List bZ}{i:Nat}{q:bZ}(h:q∈l.drop i):∃ j,i<=j/\l[j]?=some q:=by
 obtain⟨k,hk⟩:=db.mp h
 rw[aB]at hk
 exact⟨i+k,by exact Bh 2 (.l Y0 (.a Y0 Y1)) [_,_],hk⟩
theorem B7{l:List bZ}{i k:Nat}{q:bZ}(h:q∈(l.drop i).take k):∃ j,j<k/\l[i+j]?=some q:=by
 obtain⟨j,hj⟩:=db.mp h
 rw[d7]at hj
 split at hj
 .rw[aB]at hj
  exact⟨j,by assumption,hj⟩
 .cases hj
theorem Ep(ua:∀ p∈a.toList,U p)(i n:Nat)(h:i+n<=a.size):TA U rk a i n (fun j=>Rk rk a (i+j)):=fun j hj=>by
 have h1:i+j<a.size:=by exact AL 4 (.l (.a Y0 Y1) Y2) (.t Y3 Y1) (.t (.a Y0 Y3) Y2) [_,_,_,_] h hj
 refine⟨a[i+j],by simp[h1],ua _ (by simp),?_⟩
 unfold Rk
 simp[h1]
theorem Dn(sa:BN rk a.toList)(i n:Nat)(h:i+n<=a.size):∀ j k,j<=k->k<n->Rk rk a (i+j)<=Rk rk a (i+k):=fun j k h1 h2=>by
 have q1:i+j<a.size:=by exact Be 5 (.l (.a Y0 Y1) Y2) (.l Y3 Y4) (.t Y4 Y1) (.t (.a Y0 Y3) Y2) [_,_,_,_,_] h h1 h2
 have q2:i+k<a.size:=by exact AL 4 (.l (.a Y0 Y1) Y2) (.t Y3 Y1) (.t (.a Y0 Y3) Y2) [_,_,_,_] h h2
 have e1:Rk rk a (i+j)=rk a[i+j]:=by unfold Rk;simp[q1]
 have e2:Rk rk a (i+k)=rk a[i+k]:=by unfold Rk;simp[q2]
 rw[e1,e2]
 exact Bx sa (i:=i+j) (j:=i+k) (by exact AJ 3 (.l Y0 Y1) (.l (.a Y2 Y0) (.a Y2 Y1)) [_,_,_] h1) (by simp[q1]) (by simp[q2])
theorem Cm{i:Nat}{p:bZ}(h:a.toList[i]?=some p):Rk rk a i=rk p:=by
 unfold Rk
 rw[WO]at h
 rw[h]
end
structure Same(st st':bb):Prop where
 k:kindOf st'=kindOf st
 a:arrOf st'=arrOf st
 p:bf st'=bf st
 f:be st'=be st
theorem Same.refl(st:bb):Same st st:=⟨rfl,rfl,rfl,rfl⟩
end
section
open PySem PyProof.Rows
noncomputable def Bd:Nat->StateT bb Sem Unit:=sortPriv% PySem.Builtin.setMinGallop
theorem Eo(g:Nat):Bd g=modify fun s=>SortSt.mk' (kindOf s) (arrOf s) (bf s) g (be s):=rfl
noncomputable def GT:Array bZ->Array bZ->StateT bb Sem (Array bZ):=sortPriv% PySem.Builtin.mergeLo
abbrev PM:=Option (Array bZ)×Array bZ×Nat×Nat×Nat
abbrev QX:=Option (Array bZ)×Array bZ×Nat×Nat×Nat×Nat
abbrev O6:=Option (Array bZ)×Array bZ×Nat×Nat×Nat×Nat×Nat
noncomputable def BL{β σ:Type}(Qd Qy:β->σ->Prop)(r:ForInStep β)(st':σ):Prop:=match r with
 | .done c=>Qd c st'
 | .yield c=>Qy c st'
section
variable{prog:VY}{w:VZ}{A:Va}{E:VX->Vb->Prop}{s:Vb}
variable{kd:ba}{U:bZ->Prop}{rk:bZ->Int}{st:bb}{a b:Array bZ}
theorem BS{i:Nat}{p:bZ}{Q:bZ->bb->Prop}(h:a[i]?=some p)(q:Q p st):wpS (model prog w) A E s (elem' a i) Q st:=by
 rw[elem'_eq,h];exact bq q
theorem Hx{g:Nat}{Q:Unit->bb->Prop}{st0:bb}(hs:Same st0 st)(h:∀ st',Same st0 st'->Q () st'):wpS (model prog w) A E s (Bd g) Q st:=by
 rw[Eo];exact bw (h _ ⟨hs.k,hs.a,hs.p,hs.f⟩)
noncomputable def Mz(rk:bZ->Int)(a b:Array bZ)(r:Option (Array bZ))(out:Array bZ)(ia ib:Nat):Prop:=match r with
 | some r=>MFin rk a.toList b.toList r.toList
 | none=>MI rk a.toList b.toList out.toList ia ib/\ia+1<a.size/\ib<b.size
theorem Fd(X:Arr2 U rk a b){out:Array bZ}{ia ib:Nat}(h:MI rk a.toList b.toList out.toList ia ib)(hb:ib=b.size):MFin rk a.toList b.toList (out++a.extract ia a.size++b.extract ib b.size).toList:=by
 rw[WT,WT,Fm,Fm]
 exact h.finAB X.sa X.sb fun x _ q hq=>by rw[hb,cp (by simp)]at hq;cases hq
theorem Fc(X:Arr2 U rk a b){out:Array bZ}{ia ib:Nat}(h:MI rk a.toList b.toList out.toList ia ib)(ha:ia+1=a.size):MFin rk a.toList b.toList (out++b.extract ib b.size++a.extract ia a.size).toList:=by
 rw[WT,WT,Fm,Fm]
 refine h.finBA X.sa X.sb fun x hx q hq=>?_
 obtain⟨j,hj,e⟩:=CS hq
 have hlt:j<a.size:=by
  obtain⟨h1,_⟩:=WX.mp e
  simpa using h1
 have:j=a.size-1:=by exact Be 3 (.e (.a Y0 N1) Y1) (.l Y0 Y2) (.t Y2 Y1) (.e Y2 (.s Y1 N1)) [_,_,_] ha hj hlt
 subst this
 rw[WO]at e
 exact bx (X.hi q x e (d6 hx))
theorem Rq(X:Arr2 U rk a b){out:Array bZ}{ia ib:Nat}(h:MI rk a.toList b.toList out.toList ia ib){x y:bZ}(hx:b[ib]?=some x)(hy:a[ia]?=some y)(hlt:rk x<=rk y):MI rk a.toList b.toList (out.push x).toList ia (ib+1):=by
 rw[Wl]
 refine h.takeB X.sb (by rw[WO];exact hx) fun q hq=>?_
 obtain⟨j,hj,e⟩:=CS hq
 exact VN hlt (Bx X.sa hj (by rw[WO];exact hy) e)
theorem TS(X:Arr2 U rk a b){out:Array bZ}{ia ib:Nat}(h:MI rk a.toList b.toList out.toList ia ib){x y:bZ}(hx:b[ib]?=some x)(hy:a[ia]?=some y)(hlt:rk y<=rk x):MI rk a.toList b.toList (out.push y).toList (ia+1) ib:=by
 rw[Wl]
 refine h.takeA X.sa (by rw[WO];exact hy) fun q hq=>?_
 obtain⟨j,hj,e⟩:=CS hq
 exact VN hlt (Bx X.sb hj (by rw[WO];exact hx) e)
theorem TR(X:Arr2 U rk a b){out:Array bZ}{ia ib k:Nat}(h:MI rk a.toList b.toList out.toList ia ib){x:bZ}(hx:b[ib]?=some x)(hk:ia+k<=a.size)(hle:∀ i,i<k->Bb false (rk x) (Rk rk a (ia+i))=true):MI rk a.toList b.toList (out++a.extract ia (ia+k)).toList (ia+k) ib:=by
 rw[WT,Ee]
 refine h.takeAs X.sa k (by simpa using hk) fun p hp q hq=>?_
 obtain⟨j,hj,e⟩:=B7 hp
 obtain⟨j2,hj2,e2⟩:=CS hq
 have:=hle j hj
 rw[Cm e]at this
 have this:=KU this
 exact VN this (Bx X.sb hj2 (by rw[WO];exact hx) e2)
theorem TQ(X:Arr2 U rk a b){out:Array bZ}{ia ib k:Nat}(h:MI rk a.toList b.toList out.toList ia ib){y:bZ}(hy:a[ia]?=some y)(hk:ib+k<=b.size)(hle:∀ i,i<k->Bb true (rk y) (Rk rk b (ib+i))=true):MI rk a.toList b.toList (out++b.extract ib (ib+k)).toList ia (ib+k):=by
 rw[WT,Ee]
 refine h.takeBs X.sb k (by simpa using hk) fun p hp q hq=>?_
 obtain⟨j,hj,e⟩:=B7 hp
 obtain⟨j2,hj2,e2⟩:=CS hq
 have:=hle j hj
 rw[Cm e]at this
 have this:=Nh this
 exact VN (bx this) (Bx X.sa hj2 (by rw[WO];exact hy) e2)
def PD(rk:bZ->Int)(a b:Array bZ)(st:bb)(x:Nat)(c:PM)(st':bb):Prop:=Same st st'/\∃ out ia ib mg,c=(none,out,ia,ib,mg)/\Mz rk a b none out ia ib/\x+1<=ia+ib
def PB(rk:bZ->Int)(a b:Array bZ)(st:bb)(c:PM)(st':bb):Prop:=Same st st'/\∃ r out ia ib mg,c=(some r,out,ia,ib,mg)/\Mz rk a b (some r) out ia ib
def PC(rk:bZ->Int)(a b:Array bZ)(st:bb)(m y:Nat)(c:QX)(st':bb):Prop:=Same st st'/\∃ out1 ia1 ib1 ac bc,c=(none,out1,ia1,ib1,ac,bc)/\Mz rk a b none out1 ia1 ib1/\m+y<=ia1+ib1
def PA(rk:bZ->Int)(a b:Array bZ)(st:bb)(m:Nat)(c:QX)(st':bb):Prop:=Same st st'/\∃ r out1 ia1 ib1 ac bc,c=(r,out1,ia1,ib1,ac,bc)/\Mz rk a b r out1 ia1 ib1/\m+1<=ia1+ib1
def Im(rk:bZ->Int)(a b:Array bZ)(st:bb)(m:Nat)(c:O6)(st':bb):Prop:=Same st st'/\∃ out2 ia2 ib2 mg ac bc,c=(none,out2,ia2,ib2,mg,ac,bc)/\Mz rk a b none out2 ia2 ib2/\m<=ia2+ib2
def Il(rk:bZ->Int)(a b:Array bZ)(st:bb)(m:Nat)(c:O6)(st':bb):Prop:=Same st st'/\∃ r out2 ia2 ib2 mg ac bc,c=(r,out2,ia2,ib2,mg,ac,bc)/\Mz rk a b r out2 ia2 ib2/\m<=ia2+ib2
theorem BE{i:Nat}(h:i<a.size):∃ p,a[i]?=some p:=⟨a[i],by simp[h]⟩
theorem Arr2.mu(X:Arr2 U rk a b){i:Nat}{p:bZ}(e:a[i]?=some p):U p:=X.ua p (by rw[<- WO]at e;exact Zy e)
theorem Arr2.mub(X:Arr2 U rk a b){i:Nat}{p:bZ}(e:b[i]?=some p):U p:=X.ub p (by rw[<- WO]at e;exact Zy e)
noncomputable def Qr(a b out:Array bZ)(ia ib:Nat):Array bZ:=out++a.extract ia a.size++b.extract ib b.size
noncomputable def UJ(a b out:Array bZ)(ia ib:Nat):Array bZ:=out++b.extract ib b.size++a.extract ia a.size
noncomputable def Un(a b:Array bZ)(mg:Nat)(out:Array bZ)(ia ib bc:Nat):StateT bb Sem (ForInStep QX):=do
 let x <- elem' b ib
 if (ib+1==b.size)=true then pure (.done (some (Qr a b (out.push x) ia (ib+1)),out.push x,ia,ib+1,0,bc+1))
 else if bc+1≥mg then pure (.done (none,out.push x,ia,ib+1,0,bc+1)) else pure (.yield (none,out.push x,ia,ib+1,0,bc+1))
noncomputable def Uo(a b:Array bZ)(mg:Nat)(out:Array bZ)(ia ib ac:Nat):StateT bb Sem (ForInStep QX):=do
 let x <- elem' a ia
 if (ia+1+1==a.size)=true then pure (.done (some (UJ a b (out.push x) (ia+1) ib),out.push x,ia+1,ib,ac+1,0))
 else if ac+1≥mg then pure (.done (none,out.push x,ia+1,ib,ac+1,0)) else pure (.yield (none,out.push x,ia+1,ib,ac+1,0))
noncomputable def TU(a b:Array bZ)(mg:Nat)(out:Array bZ)(ia ib ac bc:Nat):StateT bb Sem (ForInStep QX):=do
 let x <- elem' b ib
 let y <- elem' a ia
 match (<- lt' x y) with
 | some w=>if w=true then Un a b mg out ia ib bc else Uo a b mg out ia ib ac
 | _=>pure (.done (some (Qr a b out ia ib),out,ia,ib,ac,bc))
theorem Rt(X:Arr2 U rk a b){out:Array bZ}{p:bZ}{m y mg ia ib bc:Nat}{st2:bb}(hs2:Same st st2)(hp:b[ib]?=some p)(m1:MI rk a.toList b.toList (out.push p).toList ia (ib+1))(ha1:ia+1<a.size)(hb1:ib<b.size)(hc1:m+y<=ia+ib) :
  wpS (model prog w) A E s (Un a b mg out ia ib bc) (BL (PA rk a b st m) (PC rk a b st m (y+1))) st2:=by
 refine bo (BS hp (D5 (fun hz0=>?_) fun hz0=>?_))
 .have he:ib+1=b.size:=eq_of_beq hz0
  exact bq ⟨hs2,some _,_,_,_,_,_,rfl,Fd X m1 he,by exact AJ 4 (.l (.a Y0 Y1) (.a Y2 Y3)) (.l (.a Y0 N1) (.a Y2 (.a Y3 N1))) [_,_,_,_] hc1⟩
 .have he:¬ib+1=b.size:=fun q=>hz0 (beq_iff_eq.mpr q)
  exact D5 (fun _=>bq ⟨hs2,none,_,_,_,_,_,rfl,⟨m1,by exact AJ 2 (.t (.a Y0 N1) Y1) (.t (.a Y0 N1) Y1) [_,_] ha1,by clear hz0;exact AL 2 (.t Y0 Y1) (.no (.e (.a Y0 N1) Y1)) (.t (.a Y0 N1) Y1) [_,_] hb1 he⟩,by exact AJ 4 (.l (.a Y0 Y1) (.a Y2 Y3)) (.l (.a Y0 N1) (.a Y2 (.a Y3 N1))) [_,_,_,_] hc1⟩) fun _=>bq ⟨hs2,_,_,_,_,_,rfl,⟨m1,by exact AJ 2 (.t (.a Y0 N1) Y1) (.t (.a Y0 N1) Y1) [_,_] ha1,by clear hz0;exact AL 2 (.t Y0 Y1) (.no (.e (.a Y0 N1) Y1)) (.t (.a Y0 N1) Y1) [_,_] hb1 he⟩,by exact AJ 4 (.l (.a Y0 Y1) (.a Y2 Y3)) (.l (.a Y0 (.a Y1 N1)) (.a Y2 (.a Y3 N1))) [_,_,_,_] hc1⟩
theorem Rv(X:Arr2 U rk a b){out:Array bZ}{p:bZ}{m y mg ia ib ac:Nat}{st2:bb}(hs2:Same st st2)(hp:a[ia]?=some p)(m1:MI rk a.toList b.toList (out.push p).toList (ia+1) ib)(ha1:ia+1<a.size)(hb1:ib<b.size)(hc1:m+y<=ia+ib) :
  wpS (model prog w) A E s (Uo a b mg out ia ib ac) (BL (PA rk a b st m) (PC rk a b st m (y+1))) st2:=by
 refine bo (BS hp (D5 (fun hz0=>?_) fun hz0=>?_))
 .have he:ia+1+1=a.size:=eq_of_beq hz0
  exact bq ⟨hs2,some _,_,_,_,_,_,rfl,Fc X m1 he,by exact AJ 4 (.l (.a Y0 Y1) (.a Y2 Y3)) (.l (.a Y0 N1) (.a (.a Y2 N1) Y3)) [_,_,_,_] hc1⟩
 .have he:¬ia+1+1=a.size:=fun q=>hz0 (beq_iff_eq.mpr q)
  exact D5 (fun _=>bq ⟨hs2,none,_,_,_,_,_,rfl,⟨m1,by clear hz0;exact AL 2 (.t (.a Y0 N1) Y1) (.no (.e (.a (.a Y0 N1) N1) Y1)) (.t (.a (.a Y0 N1) N1) Y1) [_,_] ha1 he,by exact AJ 2 (.t Y0 Y1) (.t Y0 Y1) [_,_] hb1⟩,by exact AJ 4 (.l (.a Y0 Y1) (.a Y2 Y3)) (.l (.a Y0 N1) (.a (.a Y2 N1) Y3)) [_,_,_,_] hc1⟩) fun _=>bq ⟨hs2,_,_,_,_,_,rfl,⟨m1,by clear hz0;exact AL 2 (.t (.a Y0 N1) Y1) (.no (.e (.a (.a Y0 N1) N1) Y1)) (.t (.a (.a Y0 N1) N1) Y1) [_,_] ha1 he,by exact AJ 2 (.t Y0 Y1) (.t Y0 Y1) [_,_] hb1⟩,by exact AJ 4 (.l (.a Y0 Y1) (.a Y2 Y3)) (.l (.a Y0 (.a Y1 N1)) (.a (.a Y2 N1) Y3)) [_,_,_,_] hc1⟩
theorem N9(L:Bt prog w A E s kd U rk)(X:Arr2 U rk a b)(hk:kindOf st=kd){m y mg:Nat}{c:QX}{st2:bb}(hI:PC rk a b st m y c st2) :
  wpS (model prog w) A E s (TU a b mg c.2.1 c.2.2.1 c.2.2.2.1 c.2.2.2.2.1 c.2.2.2.2.2) (BL (PA rk a b st m) (PC rk a b st m (y+1))) st2:=by
 refine Gr fun G hG=>?_
 obtain⟨hs2,out1,ia1,ib1,ac,bc,rfl,⟨hM1,ha1,hb1⟩,hc1⟩:=hI
 obtain⟨p,hp⟩:=BE (a:=b) (i:=ib1) hb1
 obtain⟨q,hq⟩:=BE (a:=a) (i:=ia1) (by exact AJ 2 (.t (.a Y0 N1) Y1) (.t Y0 Y1) [_,_] ha1)
 refine hG (bo (BS hp (bo (BS hq (bo (L p q _ _ (X.mub hp) (X.mu hq) (hs2.k.trans hk) ?_))))))
 by_cases hlt:rk p<rk q
 .exact B4 (by simpa using hlt) (Rt X hs2 hp (Rq X hM1 hp hq (bx hlt)) ha1 hb1 hc1)
 .exact Bu (by simpa using hlt) (Rv X hs2 hq (TS X hM1 hp hq (aF.mp hlt)) ha1 hb1 hc1)
noncomputable def UK(a b:Array bZ)(mg ac bc:Nat)(out:Array bZ)(ia ib:Nat):StateT bb Sem (ForInStep O6):=do
 let x <- elem' a ia
 if (ia+1+1==a.size)=true then pure (.done (some (UJ a b (out.push x) (ia+1) ib),out.push x,ia+1,ib,mg,ac,bc))
 else if (decide (ac<7)&&decide (bc<7))=true then pure (.done (none,out.push x,ia+1,ib,mg,ac,bc)) else pure (.yield (none,out.push x,ia+1,ib,mg,ac,bc))
noncomputable def TV(a b:Array bZ)(mg ac bc:Nat)(out:Array bZ)(ia ib:Nat):StateT bb Sem (ForInStep O6):=do
 let y <- elem' a ia
 match (<- C1 true y b ib (b.size-ib) 0) with
 | some k=>(if k > 0 then
   (if (ib+k==b.size)=true then pure (.done (some (Qr a b (out++b.extract ib (ib+k)) ia (ib+k)),out++b.extract ib (ib+k),ia,ib+k,mg,ac,k))
   else UK a b mg ac k (out++b.extract ib (ib+k)) ia (ib+k))
  else UK a b mg ac k out ia ib)
 | _=>pure (.done (some (Qr a b out ia ib),out,ia,ib,mg,ac,bc))
noncomputable def HJ(a b:Array bZ)(mg ac bc:Nat)(out:Array bZ)(ia ib:Nat):StateT bb Sem (ForInStep O6):=do
 let x <- elem' b ib
 if (ib+1==b.size)=true then pure (.done (some (Qr a b (out.push x) ia (ib+1)),out.push x,ia,ib+1,mg,ac,bc))
 else TV a b mg ac bc (out.push x) ia (ib+1)
noncomputable def Hj(a b:Array bZ)(mg ac bc:Nat)(out:Array bZ)(ia ib:Nat):StateT bb Sem (ForInStep O6):=do
 Bd mg
 let x <- elem' b ib
 match (<- C1 false x a ia (a.size-ia) 0) with
 | some k=>(if k > 0 then
   (if (ia+k+1==a.size)=true then pure (.done (some (UJ a b (out++a.extract ia (ia+k)) (ia+k) ib),out++a.extract ia (ia+k),ia+k,ib,mg,k,bc))
   else if (ia+k==a.size)=true then pure (.done (some (Qr a b (out++a.extract ia (ia+k)) (ia+k) ib),out++a.extract ia (ia+k),ia+k,ib,mg,k,bc))
   else HJ a b mg k bc (out++a.extract ia (ia+k)) (ia+k) ib)
  else HJ a b mg k bc out ia ib)
 | _=>pure (.done (some (Qr a b out ia ib),out,ia,ib,mg,ac,bc))
noncomputable def TT(a b:Array bZ)(out:Array bZ)(ia ib mg ac bc:Nat):StateT bb Sem (ForInStep O6):=
 if mg > 1 then Hj a b (mg-1) ac bc out ia ib else Hj a b mg ac bc out ia ib
theorem Rw(X:Arr2 U rk a b){out:Array bZ}{z:bZ}{m mg ac bc ia ib:Nat}{st4:bb}(hs4:Same st st4)(hz:a[ia]?=some z)(m4:MI rk a.toList b.toList (out.push z).toList (ia+1) ib)(ha:ia+1<a.size)(hb:ib<b.size)(hc:m<=ia+ib) :
  wpS (model prog w) A E s (UK a b mg ac bc out ia ib) (BL (Il rk a b st m) (Im rk a b st m)) st4:=by
 refine bo (BS hz (D5 (fun hz0=>?_) fun hz0=>?_))
 .have he:ia+1+1=a.size:=eq_of_beq hz0
  exact bq ⟨hs4,some _,_,_,_,_,_,_,rfl,Fc X m4 he,by exact AJ 3 (.l Y0 (.a Y1 Y2)) (.l Y0 (.a (.a Y1 N1) Y2)) [_,_,_] hc⟩
 .have he:¬ia+1+1=a.size:=fun q=>hz0 (beq_iff_eq.mpr q)
  exact D5 (fun _=>bq ⟨hs4,none,_,_,_,_,_,_,rfl,⟨m4,by clear hz0;exact AL 2 (.t (.a Y0 N1) Y1) (.no (.e (.a (.a Y0 N1) N1) Y1)) (.t (.a (.a Y0 N1) N1) Y1) [_,_] ha he,hb⟩,by exact AJ 3 (.l Y0 (.a Y1 Y2)) (.l Y0 (.a (.a Y1 N1) Y2)) [_,_,_] hc⟩) fun _=>bq ⟨hs4,_,_,_,_,_,_,rfl,⟨m4,by clear hz0;exact AL 2 (.t (.a Y0 N1) Y1) (.no (.e (.a (.a Y0 N1) N1) Y1)) (.t (.a (.a Y0 N1) N1) Y1) [_,_] ha he,hb⟩,by exact AJ 3 (.l Y0 (.a Y1 Y2)) (.l Y0 (.a (.a Y1 N1) Y2)) [_,_,_] hc⟩
theorem Pq(L:Bt prog w A E s kd U rk)(X:Arr2 U rk a b)(hk:kindOf st=kd){out:Array bZ}{z:bZ}{m mg ac bc ia ib:Nat}{st4:bb}(hs4:Same st st4)(hz:a[ia]?=some z)(m2:MI rk a.toList b.toList out.toList ia ib)(ha:ia+1<a.size)(hb:ib<b.size)(hc:m<=ia+ib) :
  wpS (model prog w) A E s (TV a b mg ac bc out ia ib) (BL (Il rk a b st m) (Im rk a b st m)) st4:=by
 refine bo (BS hz (bo (CH L (base:=ib) (n:=b.size-ib) (r:=fun j=>Rk rk b (ib+j)) (hs4.k.trans hk) (X.mu hz) (Ep X.ub ib (b.size-ib) (by exact AJ 2 (.t Y0 Y1) (.l (.a Y0 (.s Y1 Y0)) Y1) [_,_] hb)) (Dn X.sb ib (b.size-ib) (by exact AJ 2 (.t Y0 Y1) (.l (.a Y0 (.s Y1 Y0)) Y1) [_,_] hb)) (by exact AJ 2 (.t Y0 Y1) (.t (.n 0) (.s Y1 Y0)) [_,_] hb) fun k hk1 hk2 hk3=>?_)))
 have go:∀ o i,MI rk a.toList b.toList o.toList ia i->i=ib+k->i<b.size->wpS (model prog w) A E s (UK a b mg ac k o ia i) (BL (Il rk a b st m) (Im rk a b st m)) st4:=by
  intro o i mo hi hi'
  obtain⟨y,hy⟩:=BE (a:=b) (i:=i) hi'
  have hyz:rk z<=rk y:=by
   have:=hk3 k (Vn _) (by exact AL 4 (.e Y0 (.a Y1 Y2)) (.t Y0 Y3) (.t Y2 (.s Y3 Y1)) [_,_,_,_] hi hi')
   rw[<- hi,Cm (by rw[WO];exact hy)]at this
   exact IC this
  exact Rw X hs4 hz (TS X mo hy hz hyz) ha hi' (by exact AL 5 (.l Y0 (.a Y1 Y2)) (.e Y3 (.a Y2 Y4)) (.l Y0 (.a Y1 Y3)) [_,_,_,_,_] hc hi)
 refine D5 (fun hk0=>?_) fun hk0=>?_
 .have m3:=TQ X m2 hz (k:=k) (by exact AL 3 (.t Y0 Y1) (.l Y2 (.s Y1 Y0)) (.l (.a Y0 Y2) Y1) [_,_,_] hb hk1) hk2
  refine D5 (fun hz0=>?_) fun hz0=>?_
  .have he:ib+k=b.size:=eq_of_beq hz0
   exact bq ⟨hs4,some _,_,_,_,_,_,_,rfl,Fd X m3 he,by exact AJ 4 (.l Y0 (.a Y1 Y2)) (.l Y0 (.a Y1 (.a Y2 Y3))) [_,_,_,_] hc⟩
  .have he:¬ib+k=b.size:=fun q=>hz0 (beq_iff_eq.mpr q)
   exact go _ _ m3 rfl (by exact Be 3 (.t Y0 Y1) (.l Y2 (.s Y1 Y0)) (.no (.e (.a Y0 Y2) Y1)) (.t (.a Y0 Y2) Y1) [_,_,_] hb hk1 he)
 .have:k=0:=by exact AJ 1 (.no (.t (.n 0) Y0)) (.e Y0 (.n 0)) [_] hk0
  subst this
  exact go _ _ m2 rfl hb
theorem Rx(L:Bt prog w A E s kd U rk)(X:Arr2 U rk a b)(hk:kindOf st=kd){out:Array bZ}{p z:bZ}{m mg ac bc ia ib:Nat}{st4:bb}(hs4:Same st st4)(hp:b[ib]?=some p)(hz:a[ia]?=some z)(hzp:rk p<rk z)(hM:MI rk a.toList b.toList out.toList ia ib)(ha:ia+1<a.size)(hb:ib<b.size)(hc:m<=ia+ib) :
  wpS (model prog w) A E s (HJ a b mg ac bc out ia ib) (BL (Il rk a b st m) (Im rk a b st m)) st4:=by
 have m2:=Rq X hM hp hz (bx hzp)
 refine bo (BS hp (D5 (fun hz0=>?_) fun hz0=>?_))
 .have he:ib+1=b.size:=eq_of_beq hz0
  exact bq ⟨hs4,some _,_,_,_,_,_,_,rfl,Fd X m2 he,by exact AJ 3 (.l Y0 (.a Y1 Y2)) (.l Y0 (.a Y1 (.a Y2 N1))) [_,_,_] hc⟩
 .have he:¬ib+1=b.size:=fun q=>hz0 (beq_iff_eq.mpr q)
  exact Pq L X hk hs4 hz m2 ha (by exact AL 2 (.t Y0 Y1) (.no (.e (.a Y0 N1) Y1)) (.t (.a Y0 N1) Y1) [_,_] hb he) (by exact AJ 3 (.l Y0 (.a Y1 Y2)) (.l Y0 (.a Y1 (.a Y2 N1))) [_,_,_] hc)
theorem OA(L:Bt prog w A E s kd U rk)(X:Arr2 U rk a b)(hk:kindOf st=kd){out:Array bZ}{m mg ac bc ia ib:Nat}{st3:bb}(hs3:Same st st3)(hM:MI rk a.toList b.toList out.toList ia ib)(ha:ia+1<a.size)(hb:ib<b.size)(hc:m<=ia+ib) :
  wpS (model prog w) A E s (Hj a b mg ac bc out ia ib) (BL (Il rk a b st m) (Im rk a b st m)) st3:=by
 refine bo (Hx hs3 fun st4 hs4=>?_)
 refine Gr fun G hG=>?_
 obtain⟨p,hp⟩:=BE (a:=b) (i:=ib) hb
 refine hG (bo (BS hp (bo (CH L (base:=ia) (n:=a.size-ia) (r:=fun j=>Rk rk a (ia+j)) (hs4.k.trans hk) (X.mub hp) (Ep X.ua ia (a.size-ia) (by exact AJ 2 (.t (.a Y0 N1) Y1) (.l (.a Y0 (.s Y1 Y0)) Y1) [_,_] ha)) (Dn X.sa ia (a.size-ia) (by exact AJ 2 (.t (.a Y0 N1) Y1) (.l (.a Y0 (.s Y1 Y0)) Y1) [_,_] ha)) (by exact AJ 2 (.t (.a Y0 N1) Y1) (.t (.n 0) (.s Y1 Y0)) [_,_] ha) fun k hk1 hk2 hk3=>?_))))
 have hkl:k<a.size-ia:=by
  rcases Yp k (a.size-ia) with q|q
  .exact q
  .exfalso
   have:=hk2 (a.size-1-ia) (by exact AL 3 (.t (.a Y0 N1) Y1) (.l (.s Y1 Y0) Y2) (.t (.s (.s Y1 N1) Y0) Y2) [_,_,_] ha q)
   obtain⟨z,hz⟩:=BE (a:=a) (i:=a.size-1) (by exact AJ 2 (.t (.a Y0 N1) Y1) (.t (.s Y1 N1) Y1) [_,_] ha)
   rw[show ia+(a.size-1-ia)=a.size-1 by exact AJ 2 (.t (.a Y0 N1) Y1) (.e (.a Y0 (.s (.s Y1 N1) Y0)) (.s Y1 N1)) [_,_] ha,Cm (by rw[WO];exact hz)]at this
   have h9:=X.hi z p hz (by rw[<- WO]at hp;exact Zy hp)
   exact aF.mpr (KU this) h9
 have go:∀ o i,MI rk a.toList b.toList o.toList i ib->i=ia+k->i+1<a.size->wpS (model prog w) A E s (HJ a b mg k bc o i ib) (BL (Il rk a b st m) (Im rk a b st m)) st4:=by
  intro o i mo hi hi'
  obtain⟨z,hz⟩:=BE (a:=a) (i:=i) (by exact AJ 2 (.t (.a Y0 N1) Y1) (.t Y0 Y1) [_,_] hi')
  have hzp:rk p<rk z:=by
   have:=hk3 k (Vn _) hkl
   rw[<- hi,Cm (by rw[WO];exact hz)]at this
   exact LU this
  exact Rx L X hk hs4 hp hz hzp mo hi' hb (by exact AL 5 (.l Y0 (.a Y1 Y2)) (.e Y3 (.a Y1 Y4)) (.l Y0 (.a Y3 Y2)) [_,_,_,_,_] hc hi)
 refine D5 (fun hk0=>?_) fun hk0=>?_
 .have m1:=TR X hM hp (k:=k) (by exact AJ 3 (.t Y0 (.s Y1 Y2)) (.l (.a Y2 Y0) Y1) [_,_,_] hkl) hk2
  refine D5 (fun hz0=>?_) fun hz0=>?_
  .have he:ia+k+1=a.size:=eq_of_beq hz0
   exact bq ⟨hs4,some _,_,_,_,_,_,_,rfl,Fc X m1 he,by exact AJ 4 (.l Y0 (.a Y1 Y2)) (.l Y0 (.a (.a Y1 Y3) Y2)) [_,_,_,_] hc⟩
  .have he:¬ia+k+1=a.size:=fun q=>hz0 (beq_iff_eq.mpr q)
   exact Bu (by have:¬ ia+k=a.size:=(by exact AJ 3 (.t Y0 (.s Y1 Y2)) (.no (.e (.a Y2 Y0) Y1)) [_,_,_] hkl);simpa using this) (go _ _ m1 rfl (by exact AL 3 (.t Y0 (.s Y1 Y2)) (.no (.e (.a (.a Y2 Y0) N1) Y1)) (.t (.a (.a Y2 Y0) N1) Y1) [_,_,_] hkl he))
 .have:k=0:=by exact AJ 1 (.no (.t (.n 0) Y0)) (.e Y0 (.n 0)) [_] hk0
  subst this
  exact go _ _ hM rfl ha
theorem N8(L:Bt prog w A E s kd U rk)(X:Arr2 U rk a b)(hk:kindOf st=kd){m:Nat}{c:O6}{st3:bb}(hI:Im rk a b st m c st3) :
  wpS (model prog w) A E s (TT a b c.2.1 c.2.2.1 c.2.2.2.1 c.2.2.2.2.1 c.2.2.2.2.2.1 c.2.2.2.2.2.2) (BL (Il rk a b st m) (Im rk a b st m)) st3:=by
 refine Gr fun G hG=>?_
 obtain⟨hs3,out2,ia2,ib2,mg2,ac2,bc2,rfl,⟨hM,ha,hb⟩,hc2⟩:=hI
 exact hG (D5 (fun _=>OA L X hk hs3 hM ha hb hc2) fun _=>OA L X hk hs3 hM ha hb hc2)
noncomputable def Qp(c:O6):StateT bb Sem (ForInStep PM):=match c.1 with
 | some r=>pure (.done (some r,c.2.1,c.2.2.1,c.2.2.2.1,c.2.2.2.2.1))
 | none=>do
  Bd (c.2.2.2.2.1+1)
  pure (.yield (none,c.2.1,c.2.2.1,c.2.2.2.1,c.2.2.2.2.1+1))
noncomputable def Qo(a b:Array bZ)(mg:Nat)(c:QX):StateT bb Sem (ForInStep PM):=match c.1 with
 | some r=>pure (.done (some r,c.2.1,c.2.2.1,c.2.2.2.1,mg))
 | none=>do
  rule "list.sort.gallop"
  let r <- forIn [0:a.size+b.size] ((none,c.2.1,c.2.2.1,c.2.2.2.1,mg+1,c.2.2.2.2.1,c.2.2.2.2.2):O6) fun _ d=>TT a b d.2.1 d.2.2.1 d.2.2.2.1 d.2.2.2.2.1 d.2.2.2.2.2.1 d.2.2.2.2.2.2
  Qp r
noncomputable def Qn(a b:Array bZ)(c:PM):StateT bb Sem (ForInStep PM):=do
 let r <- forIn [0:a.size+b.size] ((none,c.2.1,c.2.2.1,c.2.2.2.1,0,0):QX) fun _ d=>TU a b c.2.2.2.2 d.2.1 d.2.2.1 d.2.2.2.1 d.2.2.2.2.1 d.2.2.2.2.2
 Qo a b c.2.2.2.2 r
noncomputable def Qq(c:PM):StateT bb Sem (Array bZ):=match c.1 with
 | some r=>pure r
 | none=>Zv "internal:list.sort.merge-bound"
noncomputable def Qm(a b:Array bZ)(x:bZ):StateT bb Sem (Array bZ):=do
 let st <- get
 let r <- forIn [0:a.size+b.size] ((none,#[x],0,1,gallopOf st):PM) fun _ c=>Qn a b c
 Qq r
noncomputable def Ru(a b:Array bZ):StateT bb Sem (Array bZ):=do
 rule "list.sort.merge-lo"
 let x <- elem' b 0
 if (1==b.size)=true then pure (Qr a b #[x] 0 1)
 else if (0+1==a.size)=true then pure (UJ a b #[x] 0 1)
 else Qm a b x
theorem JV(a b:Array bZ):GT a b=Ru a b:=by kernel_rfl
theorem Ro{m x:Nat}{c:O6}{st3:bb}(h:Il rk a b st m c st3)(hm:x+1+1<=m):wpS (model prog w) A E s (Qp c) (BL (PB rk a b st) (PD rk a b st (x+1))) st3:=by
 obtain⟨hs3,r,out2,ia2,ib2,mg,ac,bc,rfl,hr,hc2⟩:=h
 cases r with
 | some r=>exact bq ⟨hs3,r,_,_,_,_,rfl,hr⟩
 | none=>exact bo (Hx hs3 fun st4 hs4=>bq ⟨hs4,_,_,_,_,rfl,hr,Yi hm hc2⟩)
theorem Rn(L:Bt prog w A E s kd U rk)(X:Arr2 U rk a b)(hk:kindOf st=kd){m x mg:Nat}{c:QX}{st2:bb}(h:PA rk a b st m c st2)(hm:x+1<=m):wpS (model prog w) A E s (Qo a b mg c) (BL (PB rk a b st) (PD rk a b st (x+1))) st2:=by
 obtain⟨hs2,r,out1,ia1,ib1,ac,bc,rfl,hr,hc1⟩:=h
 cases r with
 | some r=>exact bq ⟨hs2,r,_,_,_,_,rfl,hr⟩
 | none=>
  refine bo (cB (ZH ⟨rfl,?_⟩))
  refine bo (bt (bu (I:=fun _=>Im rk a b st (ia1+ib1)) (Q:=Il rk a b st (ia1+ib1)) (fun y c st2 _ hy hI=>N8 L X hk hI) ?_ ⟨hs2,_,_,_,_,_,_,rfl,hr,Vn _⟩) fun c st3 hQ=>Ro hQ (Yi (XT hm) hc1))
  rintro c st' ⟨hs,out1,ia1,ib1,mg,ac,bc,rfl,hr,hx⟩
  exact⟨hs,none,out1,ia1,ib1,mg,ac,bc,rfl,hr,hx⟩
theorem Rm(L:Bt prog w A E s kd U rk)(X:Arr2 U rk a b)(hk:kindOf st=kd){x:Nat}{c:PM}{st1:bb}(hI:PD rk a b st x c st1):wpS (model prog w) A E s (Qn a b c) (BL (PB rk a b st) (PD rk a b st (x+1))) st1:=by
 obtain⟨hs1,out,ia,ib,mg,rfl,hM,hc⟩:=hI
 refine bo (bt (bu (I:=PC rk a b st (ia+ib)) (Q:=PA rk a b st (ia+ib)) (fun y c st2 _ hy hI=>N9 L X hk hI) ?_ ⟨hs1,_,_,_,_,_,rfl,hM,Vn _⟩) fun c st2 hQ=>Rn L X hk hQ hc)
 rintro c st' ⟨hs,out1,ia1,ib1,ac,bc,rfl,hr,hx⟩
 have hna:=X.na
 exact⟨hs,none,out1,ia1,ib1,ac,bc,rfl,hr,by exact AL 6 (.l N1 Y0) (.l (.a (.a Y1 Y2) (.mx (.n 0) (.a Y0 Y3))) (.a Y4 Y5)) (.l (.a (.a Y1 Y2) N1) (.a Y4 Y5)) [_,_,_,_,_,_] hna hx⟩
theorem Rp{Q:Array bZ->bb->Prop}(h:∀ r st',Same st st'->MFin rk a.toList b.toList r.toList->Q r st'){c:PM}{st':bb}(hq:PB rk a b st c st'):wpS (model prog w) A E s (Qq c) Q st':=by
 obtain⟨hs,r,out,ia,ib,mg,rfl,hr⟩:=hq
 exact bq (h r st' hs hr)
theorem Rj(L:Bt prog w A E s kd U rk)(X:Arr2 U rk a b){Q:Array bZ->bb->Prop}(hk:kindOf st=kd)(h:∀ r st',Same st st'->MFin rk a.toList b.toList r.toList->Q r st'){p0:bZ}(m0:MI rk a.toList b.toList (#[p0]:Array bZ).toList 0 1)(h2:0+1<a.size)(h1:1<b.size):wpS (model prog w) A E s (Qm a b p0) Q st:=by
 refine bo (bp (bo (bt (bu (I:=PD rk a b st) (Q:=PB rk a b st) (fun x c st1 _ hx hI=>Rm L X hk hI) ?_ ⟨.refl st,_,_,_,_,rfl,⟨m0,h2,h1⟩,Vn _⟩) fun c st' hq=>Rp h hq)))
 rintro c st' ⟨hs,out,ia,ib,mg,rfl,hr,hx⟩
 exact absurd hr.2.2 (by have:=hr.2.1;exact AL 4 (.l (.a (.mx (.n 0) (.a Y0 Y1)) N1) (.a Y2 Y3)) (.t (.a Y2 N1) Y0) (.no (.t Y3 Y1)) [_,_,_,_] hx this)
theorem Iw(L:Bt prog w A E s kd U rk)(X:Arr2 U rk a b){Q:Array bZ->bb->Prop}(hk:kindOf st=kd)(h:∀ r st',Same st st'->MFin rk a.toList b.toList r.toList->Q r st'):wpS (model prog w) A E s (GT a b) Q st:=by
 rw[JV]
 refine bo (cB (ZH ⟨rfl,?_⟩))
 have hna:=X.na
 have hnb:=X.nb
 refine Gr fun G hG=>?_
 obtain⟨p0,hp0⟩:=BE (a:=b) (i:=0) hnb
 obtain⟨y,hy⟩:=BE (a:=a) (i:=0) hna
 have h0:MI rk a.toList b.toList (#[]:Array bZ).toList 0 0:=⟨by rw[dS,dS];exact .refl _,List.Pairwise.nil,fun p hp=>nomatch hp⟩
 have m0:MI rk a.toList b.toList (#[p0]:Array bZ).toList 0 1:=Rq X h0 hp0 hy (bx (X.lo p0 y hp0 (by rw[<- WO]at hy;exact Zy hy)))
 refine hG (bo (BS hp0 (D5 (fun hz0=>?_) fun h1=>D5 (fun hz0=>?_) fun h2=>?_)))
 .exact bq (h _ st (.refl st) (Fd X m0 (eq_of_beq hz0)))
 .exact bq (h _ st (.refl st) (Fc X m0 (eq_of_beq hz0)))
 .exact Rj L X hk h m0 (Nat.lt_of_le_of_ne hna fun e=>h2 (beq_iff_eq.mpr e)) (Nat.lt_of_le_of_ne hnb fun e=>h1 (beq_iff_eq.mpr e))
end
end
section
open PySem PyProof.Rows
noncomputable def GU:Array bZ->Array bZ->StateT bb Sem (Array bZ):=sortPriv% PySem.Builtin.mergeHi
abbrev PN:=Option (Array bZ)×Nat×Nat×Array bZ×Nat
abbrev QY:=Option (Array bZ)×Nat×Nat×Array bZ×Nat×Nat
abbrev O7:=Option (Array bZ)×Nat×Nat×Array bZ×Nat×Nat×Nat
section
variable{prog:VY}{w:VZ}{A:Va}{E:VX->Vb->Prop}{s:Vb}
variable{kd:ba}{U:bZ->Prop}{rk:bZ->Int}{st:bb}{a b:Array bZ}
structure HI(rk:bZ->Int)(a b out:Array bZ)(na nb:Nat):Prop where
 mi:MI (fun p=>- rk p) a.toList.reverse b.toList.reverse out.toList (a.size-na) (b.size-nb)
 la:na<=a.size
 lb:nb<=b.size
theorem CC{α:Type}(l:List α)(n:Nat)(h:n<=l.length):l.reverse.drop (l.length-n)=(l.take n).reverse:=by
 rw[List.drop_reverse]
 congr 2
 exact AJ 2 (.l Y0 Y1) (.e (.s Y1 (.s Y1 Y0)) Y0) [_,_] h
theorem Na{α:Type}(l:List α)(n:Nat)(h0:1<=n)(h:n<=l.length):l.reverse[l.length-n]?=l[n-1]?:=by
 rw[List.getElem?_reverse (by exact AL 2 (.l N1 Y0) (.l Y0 Y1) (.t (.s Y1 Y0) Y1) [_,_] h0 h)]
 congr 1
 exact AJ 2 (.l Y0 Y1) (.e (.s (.s Y1 N1) (.s Y1 Y0)) (.s Y0 N1)) [_,_] h
theorem JL{α:Type}(l:List α)(n at_:Nat)(h1:at_<=n)(h:n<=l.length):(l.reverse.drop (l.length-n)).take (n-at_)=((l.take n).drop at_).reverse:=by
 rw[CC l n h,List.take_reverse]
 congr 1
 simp
 congr 1
 exact AJ 3 (.l Y0 Y1) (.e (.s (.mn Y0 Y1) (.s Y0 Y2)) (.mn Y2 (.mn Y0 Y1))) [_,_,_] h
theorem B6{l:List bZ}(h:BN rk l):BN (fun p=>- rk p) l.reverse:=by
 unfold BN
 rw[d8]
 exact h.imp fun q=>by dsimp only;lia
theorem OS{r:List bZ}(h:MFin (fun p=>- rk p) a.toList.reverse b.toList.reverse r):MFin rk a.toList b.toList r.reverse:=by
 refine⟨?_,?_⟩
 .refine(d9 r).trans (h.perm.trans ?_)
  exact(d9 _).append (d9 _)
 .unfold BN
  rw[d8]
  exact h.so.imp fun q=>by dsimp only at q;lia
theorem Fi(X:Arr2 U rk a b){out:Array bZ}{na nb:Nat}(h:HI rk a b out na nb)(hn:na=0):MFin rk a.toList b.toList (a.extract 0 na++b.extract 0 nb++out.reverse).toList:=by
 have f:=OS (h.mi.finBA (B6 X.sa) (B6 X.sb) fun x hx q hq=>by
  subst hn
  rw[cp (by simp)]at hq;cases hq)
 have ea:a.toList.reverse.drop (a.size-na)=(a.toList.take na).reverse:=by rw[<- V9];exact CC _ _ (by simpa using h.la)
 have eb:b.toList.reverse.drop (b.size-nb)=(b.toList.take nb).reverse:=by rw[<- V9];exact CC _ _ (by simpa using h.lb)
 rw[ea,eb]at f
 simp only[eD,eE]at f
 simpa [WT] using f
theorem EY(X:Arr2 U rk a b){out:Array bZ}{na nb:Nat}(h:HI rk a b out na nb)(hn:nb=1):MFin rk a.toList b.toList (b.extract 0 nb++a.extract 0 na++out.reverse).toList:=by
 have ea:a.toList.reverse.drop (a.size-na)=(a.toList.take na).reverse:=by rw[<- V9];exact CC _ _ (by simpa using h.la)
 have eb:b.toList.reverse.drop (b.size-nb)=(b.toList.take nb).reverse:=by rw[<- V9];exact CC _ _ (by simpa using h.lb)
 have f:=OS (h.mi.finAB (B6 X.sa) (B6 X.sb) fun x hx q hq=>by
  rw[eb,eF]at hq
  rw[ea,eF]at hx
  subst hn
  have hb:=X.nb
  have:b.toList.take 1=[b[0]]:=by
   rw[List.take_one]
   simp[List.head?_eq_getElem?]
  rw[this,XQ]at hq
  subst hq
  have:=X.lo b[0] x (dz hb) (eG hx)
  lia)
 rw[ea,eb]at f
 simp only[eD,eE]at f
 simpa [WT] using f
theorem Cx{l:List bZ}{n:Nat}{q:bZ}(h:q∈l.take n):∃ j,j<n/\l[j]?=some q:=by
 obtain⟨j,hj⟩:=db.mp h
 rw[d7]at hj
 split at hj
 .exact⟨j,by assumption,hj⟩
 .cases hj
theorem Sh(X:Arr2 U rk a b){out:Array bZ}{na nb:Nat}(h:HI rk a b out na nb)(h0:1<=na)(h1:1<=nb){x y:bZ}(hx:b[nb-1]?=some x)(hy:a[na-1]?=some y)(hlt:rk x<=rk y):HI rk a b (out.push y) (na-1) nb:=by
 have hla:=h.la
 have hlb:=h.lb
 refine⟨?_,by exact AJ 2 (.l Y0 Y1) (.l (.s Y0 N1) Y1) [_,_] hla,by exact AJ 2 (.l Y0 Y1) (.l Y0 Y1) [_,_] hlb⟩
 rw[Wl,show a.size-(na-1)=a.size-na+1 by exact AL 2 (.l N1 Y0) (.l Y0 Y1) (.e (.s Y1 (.s Y0 N1)) (.a (.s Y1 Y0) N1)) [_,_] h0 hla]
 refine h.mi.takeA (B6 X.sa) ?_ fun q hq=>?_
 .rw[<- V9,Na _ _ h0 (by simpa using h.la),WO];exact hy
 .have eb:b.toList.reverse.drop (b.size-nb)=(b.toList.take nb).reverse:=by rw[<- V9];exact CC _ _ (by simpa using h.lb)
  rw[eb,eF]at hq
  obtain⟨j,hj,e⟩:=Cx hq
  have:=Bx X.sb (i:=j) (j:=nb-1) (by exact AJ 2 (.t Y0 Y1) (.l Y0 (.s Y1 N1)) [_,_] hj) e (by rw[WO];exact hx)
  lia
theorem Tl(X:Arr2 U rk a b){out:Array bZ}{na nb:Nat}(h:HI rk a b out na nb)(h0:1<=na)(h1:1<=nb){x y:bZ}(hx:b[nb-1]?=some x)(hy:a[na-1]?=some y)(hlt:rk y<=rk x):HI rk a b (out.push x) na (nb-1):=by
 have hla:=h.la
 have hlb:=h.lb
 refine⟨?_,by exact AJ 2 (.l Y0 Y1) (.l Y0 Y1) [_,_] hla,by exact AJ 2 (.l Y0 Y1) (.l (.s Y0 N1) Y1) [_,_] hlb⟩
 rw[Wl,show b.size-(nb-1)=b.size-nb+1 by exact AL 2 (.l N1 Y0) (.l Y0 Y1) (.e (.s Y1 (.s Y0 N1)) (.a (.s Y1 Y0) N1)) [_,_] h1 hlb]
 refine h.mi.takeB (B6 X.sb) ?_ fun q hq=>?_
 .rw[<- V9,Na _ _ h1 (by simpa using h.lb),WO];exact hx
 .have ea:a.toList.reverse.drop (a.size-na)=(a.toList.take na).reverse:=by rw[<- V9];exact CC _ _ (by simpa using h.la)
  rw[ea,eF]at hq
  obtain⟨j,hj,e⟩:=Cx hq
  have:=Bx X.sa (i:=j) (j:=na-1) (by exact AJ 2 (.t Y0 Y1) (.l Y0 (.s Y1 N1)) [_,_] hj) e (by rw[WO];exact hy)
  lia
theorem Lj(a:Array bZ)(at_ n:Nat):(a.extract at_ n).reverse.toList=((a.toList.take n).drop at_).reverse:=by
 rw[Array.toList_reverse,Array.toList_extract]
 simp[List.extract_eq_take_drop,List.drop_take]
theorem Hh{l:List bZ}{i n:Nat}{q:bZ}(h:q∈(l.take n).drop i):∃ j,i<=j/\j<n/\l[j]?=some q:=by
 obtain⟨k,hk⟩:=db.mp h
 rw[aB,d7]at hk
 split at hk
 .exact⟨i+k,by exact Bh 2 (.l Y0 (.a Y0 Y1)) [_,_],by assumption,hk⟩
 .cases hk
theorem Tm(X:Arr2 U rk a b){out:Array bZ}{na nb at_:Nat}(h:HI rk a b out na nb)(h1:1<=nb){x:bZ}(hx:b[nb-1]?=some x)(hk:at_<=na)(hle:∀ i,at_<=i->i<na->Bb false (rk x) (Rk rk a (0+i))=false):HI rk a b (out++(a.extract at_ na).reverse) at_ nb:=by
 have hla:=h.la
 have hlb:=h.lb
 refine⟨?_,by exact AL 3 (.l Y0 Y1) (.l Y1 Y2) (.l Y0 Y2) [_,_,_] hk hla,by exact AJ 2 (.l Y0 Y1) (.l Y0 Y1) [_,_] hlb⟩
 have ep:(a.toList.reverse.drop (a.size-na)).take (na-at_)=((a.toList.take na).drop at_).reverse:=by rw[<- V9];exact JL _ _ _ hk (by simpa using h.la)
 rw[WT,Lj,<- ep,show a.size-at_=a.size-na+(na-at_) by exact AL 3 (.l Y0 Y1) (.l Y1 Y2) (.e (.s Y2 Y0) (.a (.s Y2 Y1) (.s Y1 Y0))) [_,_,_] hk hla]
 refine h.mi.takeAs (B6 X.sa) _ (by simp;exact AJ 3 (.l Y0 Y1) (.l (.a (.s Y1 Y0) (.s Y0 Y2)) Y1) [_,_,_] hla) fun p hp q hq=>?_
 rw[ep,eF]at hp
 have eb:b.toList.reverse.drop (b.size-nb)=(b.toList.take nb).reverse:=by rw[<- V9];exact CC _ _ (by simpa using h.lb)
 rw[eb,eF]at hq
 obtain⟨j,hj1,hj2,e⟩:=Hh hp
 obtain⟨j2,hj3,e2⟩:=Cx hq
 have h9:=hle j hj1 hj2
 rw[cE,Cm e]at h9
 have:=Bx X.sb (i:=j2) (j:=nb-1) (by exact AJ 2 (.t Y0 Y1) (.l Y0 (.s Y1 N1)) [_,_] hj3) e2 (by rw[WO];exact hx)
 exact Int.neg_le_neg (VN this (bx (LU h9)))
theorem Tj(X:Arr2 U rk a b){out:Array bZ}{na nb at_:Nat}(h:HI rk a b out na nb)(h1:1<=na){y:bZ}(hy:a[na-1]?=some y)(hk:at_<=nb)(hle:∀ i,at_<=i->i<nb->Bb true (rk y) (Rk rk b (0+i))=false):HI rk a b (out++(b.extract at_ nb).reverse) na at_:=by
 have hla:=h.la
 have hlb:=h.lb
 refine⟨?_,by exact AJ 2 (.l Y0 Y1) (.l Y0 Y1) [_,_] hla,by exact AL 3 (.l Y0 Y1) (.l Y1 Y2) (.l Y0 Y2) [_,_,_] hk hlb⟩
 have ep:(b.toList.reverse.drop (b.size-nb)).take (nb-at_)=((b.toList.take nb).drop at_).reverse:=by rw[<- V9];exact JL _ _ _ hk (by simpa using h.lb)
 rw[WT,Lj,<- ep,show b.size-at_=b.size-nb+(nb-at_) by exact AL 3 (.l Y0 Y1) (.l Y1 Y2) (.e (.s Y2 Y0) (.a (.s Y2 Y1) (.s Y1 Y0))) [_,_,_] hk hlb]
 refine h.mi.takeBs (B6 X.sb) _ (by simp;exact AJ 3 (.l Y0 Y1) (.l (.a (.s Y1 Y0) (.s Y0 Y2)) Y1) [_,_,_] hlb) fun p hp q hq=>?_
 rw[ep,eF]at hp
 have ea:a.toList.reverse.drop (a.size-na)=(a.toList.take na).reverse:=by rw[<- V9];exact CC _ _ (by simpa using h.la)
 rw[ea,eF]at hq
 obtain⟨j,hj1,hj2,e⟩:=Hh hp
 obtain⟨j2,hj3,e2⟩:=Cx hq
 have h9:=hle j hj1 hj2
 rw[cE,Cm e]at h9
 have:=Bx X.sa (i:=j2) (j:=na-1) (by exact AJ 2 (.t Y0 Y1) (.l Y0 (.s Y1 N1)) [_,_] hj3) e2 (by rw[WO];exact hy)
 exact Int.neg_le_neg (VN this (IC h9))
noncomputable def M0(rk:bZ->Int)(a b:Array bZ)(r:Option (Array bZ))(out:Array bZ)(na nb:Nat):Prop:=match r with
 | some r=>MFin rk a.toList b.toList r.toList
 | none=>HI rk a b out na nb/\1<=na/\2<=nb
def PI(rk:bZ->Int)(a b:Array bZ)(st:bb)(x:Nat)(c:PN)(st':bb):Prop:=Same st st'/\∃ na nb out mg,c=(none,na,nb,out,mg)/\M0 rk a b none out na nb/\x+na+nb+1<=a.size+b.size
def PG(rk:bZ->Int)(a b:Array bZ)(st:bb)(c:PN)(st':bb):Prop:=Same st st'/\∃ r na nb out mg,c=(some r,na,nb,out,mg)/\M0 rk a b (some r) out na nb
def PH(rk:bZ->Int)(a b:Array bZ)(st:bb)(m y:Nat)(c:QY)(st':bb):Prop:=Same st st'/\∃ na1 nb1 out1 ac bc,c=(none,na1,nb1,out1,ac,bc)/\M0 rk a b none out1 na1 nb1/\na1+nb1+y<=m
def PF(rk:bZ->Int)(a b:Array bZ)(st:bb)(m:Nat)(c:QY)(st':bb):Prop:=Same st st'/\∃ r na1 nb1 out1 ac bc,c=(r,na1,nb1,out1,ac,bc)/\M0 rk a b r out1 na1 nb1/\na1+nb1+1<=m
def Ip(rk:bZ->Int)(a b:Array bZ)(st:bb)(m:Nat)(c:O7)(st':bb):Prop:=Same st st'/\∃ na2 nb2 out2 mg ac bc,c=(none,na2,nb2,out2,mg,ac,bc)/\M0 rk a b none out2 na2 nb2/\na2+nb2<=m
def Io(rk:bZ->Int)(a b:Array bZ)(st:bb)(m:Nat)(c:O7)(st':bb):Prop:=Same st st'/\∃ r na2 nb2 out2 mg ac bc,c=(r,na2,nb2,out2,mg,ac,bc)/\M0 rk a b r out2 na2 nb2/\na2+nb2<=m
noncomputable def Q9(a b out:Array bZ)(na nb:Nat):Array bZ:=a.extract 0 na++b.extract 0 nb++out.reverse
noncomputable def UM(a b out:Array bZ)(na nb:Nat):Array bZ:=b.extract 0 nb++a.extract 0 na++out.reverse
noncomputable def Tn(a b:Array bZ)(mg:Nat)(na nb:Nat)(out:Array bZ)(ac:Nat):StateT bb Sem (ForInStep QY):=do
 let x <- elem' a (na-1)
 if (na-1==0)=true then pure (.done (some (Q9 a b (out.push x) (na-1) nb),na-1,nb,out.push x,ac+1,0))
 else if ac+1≥mg then pure (.done (none,na-1,nb,out.push x,ac+1,0)) else pure (.yield (none,na-1,nb,out.push x,ac+1,0))
noncomputable def Tp(a b:Array bZ)(mg:Nat)(na nb:Nat)(out:Array bZ)(bc:Nat):StateT bb Sem (ForInStep QY):=do
 let x <- elem' b (nb-1)
 if (nb-1==1)=true then pure (.done (some (UM a b (out.push x) na (nb-1)),na,nb-1,out.push x,0,bc+1))
 else if bc+1≥mg then pure (.done (none,na,nb-1,out.push x,0,bc+1)) else pure (.yield (none,na,nb-1,out.push x,0,bc+1))
noncomputable def Tr(a b:Array bZ)(mg:Nat)(na nb:Nat)(out:Array bZ)(ac bc:Nat):StateT bb Sem (ForInStep QY):=do
 let x <- elem' b (nb-1)
 let y <- elem' a (na-1)
 match (<- lt' x y) with
 | some w=>if w=true then Tn a b mg na nb out ac else Tp a b mg na nb out bc
 | _=>pure (.done (some (Q9 a b out na nb),na,nb,out,ac,bc))
theorem P9(X:Arr2 U rk a b){out:Array bZ}{p:bZ}{m y mg na nb ac:Nat}{st2:bb}(hs2:Same st st2)(hp:a[na-1]?=some p)(m1:HI rk a b (out.push p) (na-1) nb)(ha1:1<=na)(hb1:2<=nb)(hc1:na+nb+y<=m) :
  wpS (model prog w) A E s (Tn a b mg na nb out ac) (BL (PF rk a b st m) (PH rk a b st m (y+1))) st2:=by
 refine bo (BS hp (D5 (fun hz0=>?_) fun hz0=>?_))
 .have he:na-1=0:=eq_of_beq hz0
  exact bq ⟨hs2,some _,_,_,_,_,_,rfl,Fi X m1 he,by exact AL 4 (.l N1 Y0) (.l (.a (.a Y0 Y1) Y2) Y3) (.l (.a (.a (.s Y0 N1) Y1) N1) Y3) [_,_,_,_] ha1 hc1⟩
 .have he:¬na-1=0:=fun q=>hz0 (beq_iff_eq.mpr q)
  exact D5 (fun _=>bq ⟨hs2,none,_,_,_,_,_,rfl,⟨m1,by clear hz0;exact AJ 1 (.no (.e (.s Y0 N1) (.n 0))) (.l N1 (.s Y0 N1)) [_] he,by exact AJ 1 (.l (.n 2) Y0) (.l (.n 2) Y0) [_] hb1⟩,by exact AL 4 (.l N1 Y0) (.l (.a (.a Y0 Y1) Y2) Y3) (.l (.a (.a (.s Y0 N1) Y1) N1) Y3) [_,_,_,_] ha1 hc1⟩) fun _=>bq ⟨hs2,_,_,_,_,_,rfl,⟨m1,by clear hz0;exact AJ 1 (.no (.e (.s Y0 N1) (.n 0))) (.l N1 (.s Y0 N1)) [_] he,by exact AJ 1 (.l (.n 2) Y0) (.l (.n 2) Y0) [_] hb1⟩,by exact AL 4 (.l N1 Y0) (.l (.a (.a Y0 Y1) Y2) Y3) (.l (.a (.a (.s Y0 N1) Y1) (.a Y2 N1)) Y3) [_,_,_,_] ha1 hc1⟩
theorem QA(X:Arr2 U rk a b){out:Array bZ}{p:bZ}{m y mg na nb bc:Nat}{st2:bb}(hs2:Same st st2)(hp:b[nb-1]?=some p)(m1:HI rk a b (out.push p) na (nb-1))(ha1:1<=na)(hb1:2<=nb)(hc1:na+nb+y<=m) :
  wpS (model prog w) A E s (Tp a b mg na nb out bc) (BL (PF rk a b st m) (PH rk a b st m (y+1))) st2:=by
 refine bo (BS hp (D5 (fun hz0=>?_) fun hz0=>?_))
 .have he:nb-1=1:=eq_of_beq hz0
  exact bq ⟨hs2,some _,_,_,_,_,_,rfl,EY X m1 he,by exact AL 4 (.l (.n 2) Y0) (.l (.a (.a Y1 Y0) Y2) Y3) (.l (.a (.a Y1 (.s Y0 N1)) N1) Y3) [_,_,_,_] hb1 hc1⟩
 .have he:¬nb-1=1:=fun q=>hz0 (beq_iff_eq.mpr q)
  exact D5 (fun _=>bq ⟨hs2,none,_,_,_,_,_,rfl,⟨m1,by exact AJ 1 (.l N1 Y0) (.l N1 Y0) [_] ha1,by clear hz0;exact AL 1 (.l (.n 2) Y0) (.no (.e (.s Y0 N1) N1)) (.l (.n 2) (.s Y0 N1)) [_] hb1 he⟩,by exact AL 4 (.l (.n 2) Y0) (.l (.a (.a Y1 Y0) Y2) Y3) (.l (.a (.a Y1 (.s Y0 N1)) N1) Y3) [_,_,_,_] hb1 hc1⟩) fun _=>bq ⟨hs2,_,_,_,_,_,rfl,⟨m1,by exact AJ 1 (.l N1 Y0) (.l N1 Y0) [_] ha1,by clear hz0;exact AL 1 (.l (.n 2) Y0) (.no (.e (.s Y0 N1) N1)) (.l (.n 2) (.s Y0 N1)) [_] hb1 he⟩,by exact AL 4 (.l (.n 2) Y0) (.l (.a (.a Y1 Y0) Y2) Y3) (.l (.a (.a Y1 (.s Y0 N1)) (.a Y2 N1)) Y3) [_,_,_,_] hb1 hc1⟩
theorem OR(L:Bt prog w A E s kd U rk)(X:Arr2 U rk a b)(hk:kindOf st=kd){m y mg:Nat}{c:QY}{st2:bb}(hI:PH rk a b st m y c st2) :
  wpS (model prog w) A E s (Tr a b mg c.2.1 c.2.2.1 c.2.2.2.1 c.2.2.2.2.1 c.2.2.2.2.2) (BL (PF rk a b st m) (PH rk a b st m (y+1))) st2:=by
 refine Gr fun G hG=>?_
 obtain⟨hs2,na1,nb1,out1,ac,bc,rfl,⟨hM1,ha1,hb1⟩,hc1⟩:=hI
 have hla:=hM1.la
 have hlb:=hM1.lb
 obtain⟨p,hp⟩:=BE (a:=b) (i:=nb1-1) (by exact AL 2 (.l (.n 2) Y0) (.l Y0 Y1) (.t (.s Y0 N1) Y1) [_,_] hb1 hlb)
 obtain⟨q,hq⟩:=BE (a:=a) (i:=na1-1) (by exact AL 2 (.l N1 Y0) (.l Y0 Y1) (.t (.s Y0 N1) Y1) [_,_] ha1 hla)
 refine hG (bo (BS hp (bo (BS hq (bo (L p q _ _ (X.mub hp) (X.mu hq) (hs2.k.trans hk) ?_))))))
 by_cases hlt:rk p<rk q
 .exact B4 (by simpa using hlt) (P9 X hs2 hq (Sh X hM1 ha1 (by exact AJ 1 (.l (.n 2) Y0) (.l N1 Y0) [_] hb1) hp hq (bx hlt)) ha1 hb1 hc1)
 .exact Bu (by simpa using hlt) (QA X hs2 hp (Tl X hM1 ha1 (by exact AJ 1 (.l (.n 2) Y0) (.l N1 Y0) [_] hb1) hp hq (aF.mp hlt)) ha1 hb1 hc1)
noncomputable def UN(a b:Array bZ)(mg ac bc na nb:Nat)(out:Array bZ):StateT bb Sem (ForInStep O7):=do
 let x <- elem' a (na-1)
 if (na-1==0)=true then pure (.done (some (Q9 a b (out.push x) (na-1) nb),na-1,nb,out.push x,mg,ac,bc))
 else if (decide (ac<7)&&decide (bc<7))=true then pure (.done (none,na-1,nb,out.push x,mg,ac,bc)) else pure (.yield (none,na-1,nb,out.push x,mg,ac,bc))
noncomputable def Ts(a b:Array bZ)(mg ac bc na nb:Nat)(out:Array bZ):StateT bb Sem (ForInStep O7):=do
 let y <- elem' a (na-1)
 match (<- C1 true y b 0 nb (nb-1)) with
 | some k=>(if nb-k > 0 then
   (if (k==1)=true then pure (.done (some (UM a b (out++(b.extract k nb).reverse) na k),na,k,out++(b.extract k nb).reverse,mg,ac,nb-k))
   else if (k==0)=true then pure (.done (some (Q9 a b (out++(b.extract k nb).reverse) na k),na,k,out++(b.extract k nb).reverse,mg,ac,nb-k))
   else UN a b mg ac (nb-k) na k (out++(b.extract k nb).reverse))
  else UN a b mg ac (nb-k) na nb out)
 | _=>pure (.done (some (Q9 a b out na nb),na,nb,out,mg,ac,bc))
noncomputable def QC(a b:Array bZ)(mg ac bc na nb:Nat)(out:Array bZ):StateT bb Sem (ForInStep O7):=do
 let x <- elem' b (nb-1)
 if (nb-1==1)=true then pure (.done (some (UM a b (out.push x) na (nb-1)),na,nb-1,out.push x,mg,ac,bc))
 else Ts a b mg ac bc na (nb-1) (out.push x)
noncomputable def QD(a b:Array bZ)(mg ac bc na nb:Nat)(out:Array bZ):StateT bb Sem (ForInStep O7):=do
 Bd mg
 let x <- elem' b (nb-1)
 match (<- C1 false x a 0 na (na-1)) with
 | some k=>(if na-k > 0 then
   (if (k==0)=true then pure (.done (some (Q9 a b (out++(a.extract k na).reverse) k nb),k,nb,out++(a.extract k na).reverse,mg,na-k,bc))
   else QC a b mg (na-k) bc k nb (out++(a.extract k na).reverse))
  else QC a b mg (na-k) bc na nb out)
 | _=>pure (.done (some (Q9 a b out na nb),na,nb,out,mg,ac,bc))
noncomputable def Tq(a b:Array bZ)(na nb:Nat)(out:Array bZ)(mg ac bc:Nat):StateT bb Sem (ForInStep O7):=
 if mg > 1 then QD a b (mg-1) ac bc na nb out else QD a b mg ac bc na nb out
theorem Sj(X:Arr2 U rk a b){out:Array bZ}{z:bZ}{m mg ac bc na nb:Nat}{st4:bb}(hs4:Same st st4)(hz:a[na-1]?=some z)(m4:HI rk a b (out.push z) (na-1) nb)(ha:1<=na)(hb:2<=nb)(hc:na+nb<=m) :
  wpS (model prog w) A E s (UN a b mg ac bc na nb out) (BL (Io rk a b st m) (Ip rk a b st m)) st4:=by
 refine bo (BS hz (D5 (fun hz0=>?_) fun hz0=>?_))
 .have he:na-1=0:=eq_of_beq hz0
  exact bq ⟨hs4,some _,_,_,_,_,_,_,rfl,Fi X m4 he,by exact AJ 3 (.l (.a Y0 Y1) Y2) (.l (.a (.s Y0 N1) Y1) Y2) [_,_,_] hc⟩
 .have he:¬na-1=0:=fun q=>hz0 (beq_iff_eq.mpr q)
  exact D5 (fun _=>bq ⟨hs4,none,_,_,_,_,_,_,rfl,⟨m4,by clear hz0;exact AJ 1 (.no (.e (.s Y0 N1) (.n 0))) (.l N1 (.s Y0 N1)) [_] he,hb⟩,by exact AJ 3 (.l (.a Y0 Y1) Y2) (.l (.a (.s Y0 N1) Y1) Y2) [_,_,_] hc⟩) fun _=>bq ⟨hs4,_,_,_,_,_,_,rfl,⟨m4,by clear hz0;exact AJ 1 (.no (.e (.s Y0 N1) (.n 0))) (.l N1 (.s Y0 N1)) [_] he,hb⟩,by exact AJ 3 (.l (.a Y0 Y1) Y2) (.l (.a (.s Y0 N1) Y1) Y2) [_,_,_] hc⟩
theorem QB(L:Bt prog w A E s kd U rk)(X:Arr2 U rk a b)(hk:kindOf st=kd){out:Array bZ}{z:bZ}{m mg ac bc na nb:Nat}{st4:bb}(hs4:Same st st4)(hz:a[na-1]?=some z)(m2:HI rk a b out na nb)(ha:1<=na)(hb:2<=nb)(hc:na+nb<=m) :
  wpS (model prog w) A E s (Ts a b mg ac bc na nb out) (BL (Io rk a b st m) (Ip rk a b st m)) st4:=by
 have hlb:=m2.lb
 refine bo (BS hz (bo (CH L (base:=0) (n:=nb) (r:=fun j=>Rk rk b (0+j)) (hs4.k.trans hk) (X.mu hz) (Ep X.ub 0 nb (by exact AJ 2 (.l Y0 Y1) (.l (.a (.n 0) Y0) Y1) [_,_] hlb)) (Dn X.sb 0 nb (by exact AJ 2 (.l Y0 Y1) (.l (.a (.n 0) Y0) Y1) [_,_] hlb)) (by exact AJ 1 (.l (.n 2) Y0) (.t (.s Y0 N1) Y0) [_] hb) fun k hk1 hk2 hk3=>?_)))
 have hk'1:1<=k:=by
  rcases Zj k with q|q
  .exfalso
   have:=hk3 0 (by exact AJ 1 (.e Y0 (.n 0)) (.l Y0 (.n 0)) [_] q) (by exact AJ 1 (.l (.n 2) Y0) (.t (.n 0) Y0) [_] hb)
   obtain⟨z0,hz0⟩:=BE (a:=b) (i:=0) (by exact AL 2 (.l (.n 2) Y0) (.l Y0 Y1) (.t (.n 0) Y1) [_,_] hb hlb)
   rw[cE,Cm (by rw[WO];exact hz0)]at this
   have h9:=X.lo z0 z hz0 (by rw[<- WO]at hz;exact Zy hz)
   exact aF.mpr (IC this) h9
  .exact q
 have go:∀ i o,HI rk a b o na i->i=k->2<=i->wpS (model prog w) A E s (UN a b mg ac (nb-k) na i o) (BL (Io rk a b st m) (Ip rk a b st m)) st4:=by
  rintro i o mo rfl hi'
  obtain⟨y,hy⟩:=BE (a:=b) (i:=i-1) (by exact Be 3 (.l Y0 Y1) (.l Y2 Y0) (.l (.n 2) Y2) (.t (.s Y2 N1) Y1) [_,_,_] hlb hk1 hi')
  have hyz:rk y<=rk z:=by
   have:=hk2 (i-1) (by exact AJ 1 (.l (.n 2) Y0) (.t (.s Y0 N1) Y0) [_] hi')
   rw[cE,Cm (by rw[WO];exact hy)]at this
   exact bx (Nh this)
  exact Sj X hs4 hz (Sh X mo ha (by exact AJ 1 (.l N1 Y0) (.l N1 Y0) [_] hk'1) hy hz hyz) ha hi' (by exact AL 4 (.l (.a Y0 Y1) Y2) (.l Y3 Y1) (.l (.a Y0 Y3) Y2) [_,_,_,_] hc hk1)
 refine D5 (fun hk0=>?_) fun hk0=>?_
 .have m3:=Tj X m2 (at_:=k) ha hz hk1 hk3
  refine D5 (fun hz0=>?_) fun hz0=>?_
  .have he:k=1:=eq_of_beq hz0
   exact bq ⟨hs4,some _,_,_,_,_,_,_,rfl,EY X m3 he,by clear hz0;exact Be 4 (.l (.n 2) Y0) (.l (.a Y1 Y0) Y2) (.e Y3 N1) (.l (.a Y1 Y3) Y2) [_,_,_,_] hb hc he⟩
  .have he:¬k=1:=fun q=>hz0 (beq_iff_eq.mpr q)
   exact Bu (by have:¬ k=0:=(by exact AJ 1 (.l N1 Y0) (.no (.e Y0 (.n 0))) [_] hk'1);simpa using this) (go _ _ m3 rfl (by clear hz0;exact AL 1 (.l N1 Y0) (.no (.e Y0 N1)) (.l (.n 2) Y0) [_] hk'1 he))
 .have:k=nb:=by exact AL 2 (.l Y0 Y1) (.no (.t (.n 0) (.s Y1 Y0))) (.e Y0 Y1) [_,_] hk1 hk0
  subst this
  exact go _ _ m2 rfl hb
theorem Sk(L:Bt prog w A E s kd U rk)(X:Arr2 U rk a b)(hk:kindOf st=kd){out:Array bZ}{p z:bZ}{m mg ac bc na nb:Nat}{st4:bb}(hs4:Same st st4)(hp:b[nb-1]?=some p)(hz:a[na-1]?=some z)(hzp:rk z<=rk p)(hM:HI rk a b out na nb)(ha:1<=na)(hb:2<=nb)(hc:na+nb<=m) :
  wpS (model prog w) A E s (QC a b mg ac bc na nb out) (BL (Io rk a b st m) (Ip rk a b st m)) st4:=by
 have m2:=Tl X hM ha (by exact AJ 1 (.l (.n 2) Y0) (.l N1 Y0) [_] hb) hp hz hzp
 refine bo (BS hp (D5 (fun hz0=>?_) fun hz0=>?_))
 .have he:nb-1=1:=eq_of_beq hz0
  exact bq ⟨hs4,some _,_,_,_,_,_,_,rfl,EY X m2 he,by exact AJ 3 (.l (.a Y0 Y1) Y2) (.l (.a Y0 (.s Y1 N1)) Y2) [_,_,_] hc⟩
 .have he:¬nb-1=1:=fun q=>hz0 (beq_iff_eq.mpr q)
  exact QB L X hk hs4 hz m2 ha (by exact AL 1 (.l (.n 2) Y0) (.no (.e (.s Y0 N1) N1)) (.l (.n 2) (.s Y0 N1)) [_] hb he) (by exact AJ 3 (.l (.a Y0 Y1) Y2) (.l (.a Y0 (.s Y1 N1)) Y2) [_,_,_] hc)
theorem OT(L:Bt prog w A E s kd U rk)(X:Arr2 U rk a b)(hk:kindOf st=kd){out:Array bZ}{m mg ac bc na nb:Nat}{st3:bb}(hs3:Same st st3)(hM:HI rk a b out na nb)(ha:1<=na)(hb:2<=nb)(hc:na+nb<=m) :
  wpS (model prog w) A E s (QD a b mg ac bc na nb out) (BL (Io rk a b st m) (Ip rk a b st m)) st3:=by
 have hla:=hM.la
 have hlb:=hM.lb
 refine bo (Hx hs3 fun st4 hs4=>?_)
 refine Gr fun G hG=>?_
 obtain⟨p,hp⟩:=BE (a:=b) (i:=nb-1) (by exact AL 2 (.l (.n 2) Y0) (.l Y0 Y1) (.t (.s Y0 N1) Y1) [_,_] hb hlb)
 refine hG (bo (BS hp (bo (CH L (base:=0) (n:=na) (r:=fun j=>Rk rk a (0+j)) (hs4.k.trans hk) (X.mub hp) (Ep X.ua 0 na (by exact AJ 2 (.l Y0 Y1) (.l (.a (.n 0) Y0) Y1) [_,_] hla)) (Dn X.sa 0 na (by exact AJ 2 (.l Y0 Y1) (.l (.a (.n 0) Y0) Y1) [_,_] hla)) (by exact AJ 1 (.l N1 Y0) (.t (.s Y0 N1) Y0) [_] ha) fun k hk1 hk2 hk3=>?_))))
 have go:∀ i o,HI rk a b o i nb->i=k->1<=i->wpS (model prog w) A E s (QC a b mg (na-k) bc i nb o) (BL (Io rk a b st m) (Ip rk a b st m)) st4:=by
  rintro i o mo rfl hi
  obtain⟨z,hz⟩:=BE (a:=a) (i:=i-1) (by exact Be 3 (.l Y0 Y1) (.l Y2 Y0) (.l N1 Y2) (.t (.s Y2 N1) Y1) [_,_,_] hla hk1 hi)
  have hzp:rk z<=rk p:=by
   have:=hk2 (i-1) (by exact AJ 1 (.l N1 Y0) (.t (.s Y0 N1) Y0) [_] hi)
   rw[cE,Cm (by rw[WO];exact hz)]at this
   exact KU this
  exact Sk L X hk hs4 hp hz hzp mo hi hb (by exact AL 4 (.l (.a Y0 Y1) Y2) (.l Y3 Y0) (.l (.a Y3 Y1) Y2) [_,_,_,_] hc hk1)
 refine D5 (fun hk0=>?_) fun hk0=>?_
 .have m1:=Tm X hM (at_:=k) (by exact AJ 1 (.l (.n 2) Y0) (.l N1 Y0) [_] hb) hp hk1 hk3
  refine D5 (fun hz0=>?_) fun hz0=>?_
  .have he:k=0:=eq_of_beq hz0
   exact bq ⟨hs4,some _,_,_,_,_,_,_,rfl,Fi X m1 he,by clear hz0;exact AL 4 (.l (.a Y0 Y1) Y2) (.e Y3 (.n 0)) (.l (.a Y3 Y1) Y2) [_,_,_,_] hc he⟩
  .have he:¬k=0:=fun q=>hz0 (beq_iff_eq.mpr q)
   exact go _ _ m1 rfl (by clear hz0;exact AJ 1 (.no (.e Y0 (.n 0))) (.l N1 Y0) [_] he)
 .have:k=na:=by exact AL 2 (.l Y0 Y1) (.no (.t (.n 0) (.s Y1 Y0))) (.e Y0 Y1) [_,_] hk1 hk0
  subst this
  exact go _ _ hM rfl ha
theorem OQ(L:Bt prog w A E s kd U rk)(X:Arr2 U rk a b)(hk:kindOf st=kd){m:Nat}{c:O7}{st3:bb}(hI:Ip rk a b st m c st3) :
  wpS (model prog w) A E s (Tq a b c.2.1 c.2.2.1 c.2.2.2.1 c.2.2.2.2.1 c.2.2.2.2.2.1 c.2.2.2.2.2.2) (BL (Io rk a b st m) (Ip rk a b st m)) st3:=by
 refine Gr fun G hG=>?_
 obtain⟨hs3,na2,nb2,out2,mg2,ac2,bc2,rfl,⟨hM,ha,hb⟩,hc2⟩:=hI
 exact hG (D5 (fun _=>OT L X hk hs3 hM ha hb hc2) fun _=>OT L X hk hs3 hM ha hb hc2)
noncomputable def Q7(c:O7):StateT bb Sem (ForInStep PN):=match c.1 with
 | some r=>pure (.done (some r,c.2.1,c.2.2.1,c.2.2.2.1,c.2.2.2.2.1))
 | none=>do
  Bd (c.2.2.2.2.1+1)
  pure (.yield (none,c.2.1,c.2.2.1,c.2.2.2.1,c.2.2.2.2.1+1))
noncomputable def Q6(a b:Array bZ)(mg:Nat)(c:QY):StateT bb Sem (ForInStep PN):=match c.1 with
 | some r=>pure (.done (some r,c.2.1,c.2.2.1,c.2.2.2.1,mg))
 | none=>do
  rule "list.sort.gallop"
  let r <- forIn [0:a.size+b.size] ((none,c.2.1,c.2.2.1,c.2.2.2.1,mg+1,c.2.2.2.2.1,c.2.2.2.2.2):O7) fun _ d=>Tq a b d.2.1 d.2.2.1 d.2.2.2.1 d.2.2.2.2.1 d.2.2.2.2.2.1 d.2.2.2.2.2.2
  Q7 r
noncomputable def Q5(a b:Array bZ)(c:PN):StateT bb Sem (ForInStep PN):=do
 let r <- forIn [0:a.size+b.size] ((none,c.2.1,c.2.2.1,c.2.2.2.1,0,0):QY) fun _ d=>Tr a b c.2.2.2.2 d.2.1 d.2.2.1 d.2.2.2.1 d.2.2.2.2.1 d.2.2.2.2.2
 Q6 a b c.2.2.2.2 r
noncomputable def Q8(c:PN):StateT bb Sem (Array bZ):=match c.1 with
 | some r=>pure r
 | none=>Zv "internal:list.sort.merge-bound"
noncomputable def Q4(a b:Array bZ)(x:bZ):StateT bb Sem (Array bZ):=do
 let st <- get
 let r <- forIn [0:a.size+b.size] ((none,a.size-1,b.size,#[x],gallopOf st):PN) fun _ c=>Q5 a b c
 Q8 r
noncomputable def Si(a b:Array bZ):StateT bb Sem (Array bZ):=do
 rule "list.sort.merge-hi"
 let x <- elem' a (a.size-1)
 if (a.size-1==0)=true then pure (Q9 a b #[x] (a.size-1) b.size)
 else if (b.size==1)=true then pure (UM a b #[x] (a.size-1) b.size)
 else Q4 a b x
theorem JW(a b:Array bZ):GU a b=Si a b:=by kernel_rfl
theorem P8{m x:Nat}{c:O7}{st3:bb}(h:Io rk a b st m c st3)(hm:x+1+m+1<=a.size+b.size):wpS (model prog w) A E s (Q7 c) (BL (PG rk a b st) (PI rk a b st (x+1))) st3:=by
 obtain⟨hs3,r,na2,nb2,out2,mg,ac,bc,rfl,hr,hc2⟩:=h
 cases r with
 | some r=>exact bq ⟨hs3,r,_,_,_,_,rfl,hr⟩
 | none=>exact bo (Hx hs3 fun st4 hs4=>bq ⟨hs4,_,_,_,_,rfl,hr,by exact AL 6 (.l (.a (.a (.a Y0 N1) Y1) N1) (.a Y2 Y3)) (.l (.a Y4 Y5) Y1) (.l (.a (.a (.a (.a Y0 N1) Y4) Y5) N1) (.a Y2 Y3)) [_,_,_,_,_,_] hm hc2⟩)
theorem Sf(L:Bt prog w A E s kd U rk)(X:Arr2 U rk a b)(hk:kindOf st=kd){m x mg:Nat}{c:QY}{st2:bb}(h:PF rk a b st m c st2)(hm:x+m+1<=a.size+b.size):wpS (model prog w) A E s (Q6 a b mg c) (BL (PG rk a b st) (PI rk a b st (x+1))) st2:=by
 obtain⟨hs2,r,na1,nb1,out1,ac,bc,rfl,hr,hc1⟩:=h
 cases r with
 | some r=>exact bq ⟨hs2,r,_,_,_,_,rfl,hr⟩
 | none=>
  refine bo (cB (ZH ⟨rfl,?_⟩))
  refine bo (bt (bu (I:=fun _=>Ip rk a b st (na1+nb1)) (Q:=Io rk a b st (na1+nb1)) (fun y c st2 _ hy hI=>OQ L X hk hI) ?_ ⟨hs2,_,_,_,_,_,_,rfl,hr,Vn _⟩) fun c st3 hQ=>P8 hQ (by exact AL 6 (.l (.a (.a Y0 Y1) N1) (.a Y2 Y3)) (.l (.a (.a Y4 Y5) N1) Y1) (.l (.a (.a (.a Y0 N1) (.a Y4 Y5)) N1) (.a Y2 Y3)) [_,_,_,_,_,_] hm hc1))
  rintro c st' ⟨hs,out1,ia1,ib1,mg,ac,bc,rfl,hr,hx⟩
  exact⟨hs,none,out1,ia1,ib1,mg,ac,bc,rfl,hr,hx⟩
theorem Se(L:Bt prog w A E s kd U rk)(X:Arr2 U rk a b)(hk:kindOf st=kd){x:Nat}{c:PN}{st1:bb}(hI:PI rk a b st x c st1):wpS (model prog w) A E s (Q5 a b c) (BL (PG rk a b st) (PI rk a b st (x+1))) st1:=by
 obtain⟨hs1,na,nb,out,mg,rfl,hM,hc⟩:=hI
 refine bo (bt (bu (I:=PH rk a b st (na+nb)) (Q:=PF rk a b st (na+nb)) (fun y c st2 _ hy hI=>OR L X hk hI) ?_ ⟨hs1,_,_,_,_,_,rfl,hM,Vn _⟩) fun c st2 hQ=>Sf L X hk hQ (by rw[<- dd];exact hc))
 rintro c st' ⟨hs,na1,nb1,out1,ac,bc,rfl,hr,hx⟩
 exact⟨hs,none,na1,nb1,out1,ac,bc,rfl,hr,by exact AL 7 (.l (.a (.a (.a Y0 Y1) Y2) N1) (.a Y3 Y4)) (.l (.a (.a Y5 Y6) (.mx (.n 0) (.a Y3 Y4))) (.a Y1 Y2)) (.l (.a (.a Y5 Y6) N1) (.a Y1 Y2)) [_,_,_,_,_,_,_] hc hx⟩
theorem Sg{Q:Array bZ->bb->Prop}(h:∀ r st',Same st st'->MFin rk a.toList b.toList r.toList->Q r st'){c:PN}{st':bb}(hq:PG rk a b st c st'):wpS (model prog w) A E s (Q8 c) Q st':=by
 obtain⟨hs,r,na,nb,out,mg,rfl,hr⟩:=hq
 exact bq (h r st' hs hr)
theorem Sd(L:Bt prog w A E s kd U rk)(X:Arr2 U rk a b){Q:Array bZ->bb->Prop}(hk:kindOf st=kd)(h:∀ r st',Same st st'->MFin rk a.toList b.toList r.toList->Q r st'){p0:bZ}(m0:HI rk a b (#[p0]:Array bZ) (a.size-1) b.size)(h1:1<=a.size-1)(h2:2<=b.size):wpS (model prog w) A E s (Q4 a b p0) Q st:=by
 have hna:=X.na
 refine bo (bp (bo (bt (bu (I:=PI rk a b st) (Q:=PG rk a b st) (fun x c st1 _ hx hI=>Se L X hk hI) ?_ ⟨.refl st,_,_,_,_,rfl,⟨m0,h1,h2⟩,by exact AJ 2 (.l N1 Y0) (.l (.a (.a (.a (.n 0) (.s Y0 N1)) Y1) N1) (.a Y0 Y1)) [_,_] hna⟩) fun c st' hq=>Sg h hq)))
 rintro c st' ⟨hs,na,nb,out,mg,rfl,hr,hx⟩
 exact absurd hr.2.2 (by exact AJ 4 (.l (.a (.a (.a (.mx (.n 0) (.a Y0 Y1)) Y2) Y3) N1) (.a Y0 Y1)) (.no (.l (.n 2) Y3)) [_,_,_,_] hx)
theorem Ix(L:Bt prog w A E s kd U rk)(X:Arr2 U rk a b){Q:Array bZ->bb->Prop}(hk:kindOf st=kd)(h:∀ r st',Same st st'->MFin rk a.toList b.toList r.toList->Q r st'):wpS (model prog w) A E s (GU a b) Q st:=by
 rw[JW]
 refine bo (cB (ZH ⟨rfl,?_⟩))
 have hna:=X.na
 have hnb:=X.nb
 refine Gr fun G hG=>?_
 obtain⟨p0,hp0⟩:=BE (a:=a) (i:=a.size-1) (Nat.sub_lt hna (Vn 1))
 obtain⟨y,hy⟩:=BE (a:=b) (i:=b.size-1) (Nat.sub_lt hnb (Vn 1))
 have h0:HI rk a b (#[]:Array bZ) a.size b.size:=⟨⟨by simp,List.Pairwise.nil,fun p hp=>nomatch hp⟩,Vn _,Vn _⟩
 have m0:HI rk a b (#[p0]:Array bZ) (a.size-1) b.size:=Sh X h0 hna hnb hy hp0 (bx (X.hi p0 y hp0 (by rw[<- WO]at hy;exact Zy hy)))
 refine hG (bo (BS hp0 (D5 (fun hz0=>?_) fun h1=>D5 (fun hz0=>?_) fun h2=>?_)))
 .exact bq (h _ st (.refl st) (Fi X m0 (eq_of_beq hz0)))
 .exact bq (h _ st (.refl st) (EY X m0 (eq_of_beq hz0)))
 .exact Sd L X hk h m0 (Zf fun e=>h1 (beq_iff_eq.mpr e)) (Nat.lt_of_le_of_ne hnb fun e=>h2 (beq_iff_eq.mpr e.symm))
end
end
section
open PySem PyProof.Rows
section
variable{rk:bZ->Int}
theorem Fz{xs:Array bZ}{lo n:Nat}(h:lo+n<=xs.size):CF rk xs lo n↔BN rk ((xs.toList.drop lo).take n):=by
 constructor
 .intro q
  unfold BN
  rw[Yj]
  intro i j hi hj hij
  simp at hi hj
  have:=q i j (by exact AJ 2 (.t Y0 Y1) (.l Y0 Y1) [_,_] hij) (by exact AJ 4 (.t Y0 (.mn Y1 (.s Y2 Y3))) (.t Y0 Y1) [_,_,_,_] hj)
  unfold Rk at this
  have h1:lo+i<xs.size:=by exact AJ 4 (.t Y0 (.mn Y1 (.s Y2 Y3))) (.t (.a Y3 Y0) Y2) [_,_,_,_] hi
  have h2:lo+j<xs.size:=by exact AJ 4 (.t Y0 (.mn Y1 (.s Y2 Y3))) (.t (.a Y3 Y0) Y2) [_,_,_,_] hj
  rw[dz h1,dz h2]at this
  simpa using this
 .intro q i j hij hj
  have h1:lo+i<xs.size:=by exact Be 5 (.l (.a Y0 Y1) Y2) (.l Y3 Y4) (.t Y4 Y1) (.t (.a Y0 Y3) Y2) [_,_,_,_,_] h hij hj
  have h2:lo+j<xs.size:=by exact AL 4 (.l (.a Y0 Y1) Y2) (.t Y3 Y1) (.t (.a Y0 Y3) Y2) [_,_,_,_] h hj
  have e1:((xs.toList.drop lo).take n)[i]?=some xs[lo+i]:=by rw[d7,if_pos (by exact AL 3 (.l Y0 Y1) (.t Y1 Y2) (.t Y0 Y2) [_,_,_] hij hj),aB,WO,dz h1]
  have e2:((xs.toList.drop lo).take n)[j]?=some xs[lo+j]:=by rw[d7,if_pos (by exact AJ 2 (.t Y0 Y1) (.t Y0 Y1) [_,_] hj),aB,WO,dz h2]
  have:=Bx q hij e1 e2
  unfold Rk
  rw[dz h1,dz h2]
  exact this
theorem Ft:∀ (m:List bZ) (arr:Array bZ) (sa k:Nat),sa+k+m.length<=arr.size ->
  ((m.zipIdx k).foldl (fun a (pj:bZ×Nat)=>a.setIfInBounds (sa+pj.2) pj.1) arr).toList=arr.toList.take (sa+k)++m++arr.toList.drop (sa+k+m.length)
 | [],arr,sa,k,h=>by simp
 | p::m,arr,sa,k,h=>by
  rw[List.zipIdx_cons,List.foldl_cons]
  have h':sa+k+(m.length+1)<=arr.size:=by simpa using h
  rw[Ft m _ sa (k+1) (by simp;exact AJ 4 (.l (.a (.a Y0 Y1) (.a Y2 N1)) Y3) (.l (.a (.a Y0 (.a Y1 N1)) Y2) Y3) [_,_,_,_] h')]
  rw[eI]
  have hl:sa+k<arr.toList.length:=by simp;exact AJ 4 (.l (.a (.a Y0 Y1) (.a Y2 N1)) Y3) (.t (.a Y0 Y1) Y3) [_,_,_,_] h'
  have e1:(arr.toList.set (sa+k) p).take (sa+(k+1))=arr.toList.take (sa+k)++[p]:=by
   rw[show sa+(k+1)=sa+k+1 by exact Bh 2 (.e (.a Y0 (.a Y1 N1)) (.a (.a Y0 Y1) N1)) [_,_],cf]
   rw[List.take_set_of_le (by exact Bh 2 (.l (.a Y0 Y1) (.a Y0 Y1)) [_,_]),List.getElem?_set_self hl]
   rfl
  have e2:(arr.toList.set (sa+k) p).drop (sa+(k+1)+m.length)=arr.toList.drop (sa+k+(p::m).length):=by
   rw[List.drop_set_of_lt (by exact Bh 3 (.t (.a Y0 Y1) (.a (.a Y0 (.a Y1 N1)) Y2)) [_,_,_])]
   congr 1
   simp;exact Bh 3 (.e (.a (.a Y0 (.a Y1 N1)) Y2) (.a (.a Y0 Y1) (.a Y2 N1))) [_,_,_]
  rw[e1,e2]
  simp
noncomputable def A0(s:Nat)(l:List (Nat×Nat×Nat))(e:Nat):Prop:=@List.rec (Nat×Nat×Nat) (fun _=>Nat->Prop) (fun s=>s=e) (fun x _ ih s=>x.1=s/\1<=x.2.1/\ih (s+x.2.1)) l s
theorem A0.le{l:List (Nat×Nat×Nat)}{e:Nat}:∀ {s:Nat},A0 s l e->s+l.length<=e:=by
 induction l with
 | nil=>exact fun h=>Z5 h
 | cons x r ih=>intro s h;have h8:=ih h.2.2;have h9:=h.2.1;rw[bT];exact AL 4 (.l (.a (.a Y0 Y1) Y2) Y3) (.l N1 Y1) (.l (.a Y0 (.a Y2 N1)) Y3) [_,_,_,_] h8 h9
theorem A0.app{l r:List (Nat×Nat×Nat)}{e m:Nat}(k:A0 m r e):∀ {s:Nat},A0 s l m->A0 s (l++r) e:=by
 induction l with
 | nil=>exact fun h=>(show _=m from h)▸k
 | cons x l ih=>exact fun h=>⟨h.1,h.2.1,ih h.2.2⟩
theorem A0.snoc{s:Nat}{l:List (Nat×Nat×Nat)}{e n p:Nat}(h:A0 s l e)(hn:1<=n):A0 s (l++[(e,n,p)]) (e+n):=A0.app (show A0 e [(e,n,p)] (e+n) from⟨rfl,hn,rfl⟩) h
theorem A0.parts{l r:List (Nat×Nat×Nat)}{e:Nat}:∀ {s:Nat},A0 s (l++r) e->∃ m,A0 s l m/\A0 m r e:=by
 induction l with
 | nil=>exact fun h=>⟨_,rfl,h⟩
 | cons x l ih=>exact fun h=>(ih h.2.2).elim fun m q=>⟨m,⟨h.1,h.2.1,q.1⟩,q.2⟩
theorem A0.in_{l:List (Nat×Nat×Nat)}{e:Nat}:∀ {s:Nat},A0 s l e->∀ z∈l,s<=z.1/\z.1+z.2.1<=e/\1<=z.2.1:=by
 induction l with
 | nil=>exact fun _ _ hz=>nomatch hz
 | cons a l ih=>
  intro s h z hz
  rcases Vq.mp hz with q|hz
  .have h7:=A0.le h.2.2;have h8:=h.1;have h9:=h.2.1;rw[q];exact Be 5 (.l (.a (.a Y0 Y1) Y2) Y3) (.e Y4 Y0) (.l N1 Y1) (.an (.l Y0 Y4) (.an (.l (.a Y4 Y1) Y3) (.l N1 Y1))) [_,_,_,_,_] h7 h8 h9
  .exact⟨Yi (W5 ..) (ih h.2.2 z hz).1,(ih h.2.2 z hz).2⟩
theorem A0.mid{l1:List (Nat×Nat×Nat)}{s e:Nat}{x y:Nat×Nat×Nat}{l2:List (Nat×Nat×Nat)}(h:A0 s (l1++x::y::l2) e) :
  y.1=x.1+x.2.1/\1<=x.2.1/\1<=y.2.1/\y.1+y.2.1<=e/\(∀ z∈l1,z.1+z.2.1<=x.1)/\(∀ z∈l2,y.1+y.2.1<=z.1/\z.1+z.2.1<=e)/\A0 s (l1++(x.1,x.2.1+y.2.1,x.2.2)::l2) e:=by
 obtain⟨m,c1,rfl,hx,hy,hy1,c2⟩:=A0.parts h
 rw[<- hy]at c2
 have k:A0 x.1 ((x.1,x.2.1+y.2.1,x.2.2)::l2) e:=⟨rfl,Yi hx (W5 ..),(show x.1+(x.2.1+y.2.1)=y.1+y.2.1 by rw[hy,dd])▸c2⟩
 exact⟨hy,hx,hy1,Yi (W5 ..) (A0.le c2),fun z hz=>(A0.in_ c1 z hz).2.1,fun z hz=>⟨(A0.in_ c2 z hz).1,(A0.in_ c2 z hz).2.1⟩,k.app c1⟩
theorem A0.power{pw:Nat}{l:List (Nat×Nat×Nat)}{e:Nat}:∀ {s:Nat} (i:Nat),A0 s l e->A0 s (l.modify i fun x=>(x.1,x.2.1,pw)) e:=by
 induction l with
 | nil=>exact fun i h=>by rw[List.modify_nil];exact h
 | cons a l ih=>
  intro s i h
  cases i with
  | zero=>exact h
  | succ i=>exact⟨h.1,h.2.1,ih i h.2.2⟩
theorem JU{pre S1 X Y Z post M l l':List bZ}(hl:l=pre++(S1++(X++(Y++(Z++post)))))(hl':l'=pre++(S1++(M++(Z++post))))(hM:M.Perm (X++Y))(sM:BN rk M)(s1:BN rk (S1++X))(s2:BN rk (Y++Z))(h1:∀ p∈S1,∀ q∈Y,rk p<=rk q)(h2:∀ p∈X,∀ q∈Z,rk p<=rk q)(h3:∀ p∈S1,∀ q∈Z,rk p<=rk q) :
  l'.Perm l/\BN rk (S1++(M++Z)):=by
 obtain⟨a1,a2,a3⟩:=Yn.mp s1
 obtain⟨b1,b2,b3⟩:=Yn.mp s2
 refine⟨?_,?_⟩
 .rw[hl,hl']
  refine Zi _ (Zi _ ?_)
  rw[<- Wv X]
  exact List.Perm.append_right _ hM
 .refine Yn.mpr ⟨a1,Yn.mpr ⟨sM,b2,fun p hp q hq=>?_⟩,fun p hp q hq=>?_⟩
  .rcases W9.mp (hM.mem_iff.mp hp) with hp|hp
   .exact h2 p hp q hq
   .exact b3 p hp q hq
  .rcases W9.mp hq with hq|hq
   .rcases W9.mp (hM.mem_iff.mp hq) with hq|hq
    .exact a3 p hp q hq
    .exact h1 p hp q hq
   .exact h3 p hp q hq
end
end
section
open PySem PyProof.Rows
set_option maxHeartbeats 0
section
variable{prog:VY}{w:VZ}{A:Va}{E:VX->Vb->Prop}{s:Vb}
variable{kd:ba}{U:bZ->Prop}{rk:bZ->Int}{st:bb}
theorem PR{σ:Type}{x:σ}{M:Wd}{Q:PUnit->σ->Prop}{st:σ}(h:Q ⟨⟩ x):wpS M A E s (set x:StateT σ Sem PUnit) Q st:=by
 unfold wpS;rw[StateT.run_set];exact WM ⟨rfl,h⟩
theorem JQ{l:List bZ}{i n:Nat}{p:bZ}(h:p∈(l.drop i).take n):p∈l:=d6 (eG h)
theorem cut{α:Type}(l:List α)(i n:Nat):l.drop i=(l.drop i).take n++l.drop (i+n):=by rw[<- dh,Ym]
theorem I7{α:Type}(l:List α)(i:Nat){k n:Nat}(h:k<=n):(l.drop i).take n=(l.drop i).take k++(l.drop (i+k)).take (n-k):=by
 have:=dk (l:=l.drop i) (i:=k) (j:=n-k)
 rwa [show k+(n-k)=n by exact AJ 2 (.l Y0 Y1) (.e (.a Y0 (.s Y1 Y0)) Y1) [_,_] h,dh]at this
theorem Ly{xs:Array bZ}{i:Nat}{p:bZ}(h:xs[i]?=some p):Rk rk xs i=rk p:=by unfold Rk;rw[h]
noncomputable def UV(sa:Nat)(r:Array bZ):StateT bb Sem Bool:=do
 modify fun s=>setArr s (r.toList.zipIdx.foldl (fun a (pj:bZ×Nat)=>a.setIfInBounds (sa+pj.2) pj.1) (arrOf s))
 let s <- get
 pure (be s).isNone
noncomputable def Ux(s:bb)(sa na sb nb:Nat):StateT bb Sem Bool:=
 if na<=nb then (do
  let r <- GT ((arrOf s).extract sa sb) ((arrOf s).extract sb (sb+nb))
  UV sa r)
 else (do
  let r <- GU ((arrOf s).extract sa sb) ((arrOf s).extract sb (sb+nb))
  UV sa r)
noncomputable def Uy(s:bb)(sa na sb nb:Nat):StateT bb Sem Bool:=do
 let y <- elem' (arrOf s) (sa+na-1)
 match (<- C1 true y (arrOf s) sb nb (nb-1)) with
 | some nb=>if (nb==0)=true then pure true else Ux s sa na sb nb
 | _=>pure false
noncomputable def Uz(s:bb)(sa na sb nb:Nat):StateT bb Sem Bool:=do
 let x <- elem' (arrOf s) sb
 match (<- C1 false x (arrOf s) sa na 0) with
 | some k=>if (na-k==0)=true then pure true else Uy s (sa+k) (na-k) sb nb
 | _=>pure false
noncomputable def Um(s:bb)(i sa na pw sb nb:Nat):StateT bb Sem Bool:=do
 set (setPending s (((bf s).setIfInBounds i (sa,na+nb,pw)).eraseIdxIfInBounds (i+1)))
 Uz s sa na sb nb
noncomputable def Ri(i:Nat):StateT bb Sem Bool:=do
 let s <- get
 match ((bf s)[i]?,(bf s)[i+1]?) with
 | (some (sa,na,pw),some (sb,nb,_))=>Um s i sa na pw sb nb
 | _=>Zv "internal:list.sort.pending"
theorem JX(i:Nat):mergeAt' i=Ri i:=by kernel_rfl
theorem Iy(L:Bt prog w A E s kd U rk){i:Nat}{l1 l2:List (Nat×Nat×Nat)}{x y:Nat×Nat×Nat}{Q:Bool->bb->Prop}(hp:(bf st).toList=l1++x::y::l2)(hi:l1.length=i)(hyx:y.1=x.1+x.2.1)(hx1:1<=x.2.1)(hy1:1<=y.2.1)(hsz:y.1+y.2.1<=(arrOf st).size)(sx:CF rk (arrOf st) x.1 x.2.1)(sy:CF rk (arrOf st) y.1 y.2.1)(hU:∀ p∈(arrOf st).toList,U p)(hk:kindOf st=kd)(hf:be st=none)(h:∀ st',(arrOf st').Perm (arrOf st)->(∀ j,j<x.1∨y.1+y.2.1<=j->(arrOf st')[j]?=(arrOf st)[j]?)->CF rk (arrOf st') x.1 (x.2.1+y.2.1)->kindOf st'=kd->be st'=none ->
   (bf st').toList=l1++(x.1,x.2.1+y.2.1,x.2.2)::l2->Q true st'):wpS (model prog w) A E s (mergeAt' i) Q st:=by
 obtain⟨sa,na,pw⟩:=x
 obtain⟨sb,nb,pq⟩:=y
 dsimp only at *
 have e1:(bf st)[i]?=some (sa,na,pw):=by rw[<- WO,hp,<- hi];simp
 have e2:(bf st)[i+1]?=some (sb,nb,pq):=by rw[<- WO,hp,<- hi];simp
 have e3:(((bf st).setIfInBounds i (sa,na+nb,pw)).eraseIdxIfInBounds (i+1)).toList=l1++(sa,na+nb,pw)::l2:=by
  rw[Array.eraseIdxIfInBounds_eq]
  have hlt:i+1<((bf st).setIfInBounds i (sa,na+nb,pw)).size:=by
   have:=congrArg YC hp
   simp at this ⊢
   exact AL 4 (.e Y0 Y1) (.e Y2 (.a Y0 (.a (.a Y3 N1) N1))) (.t (.a Y1 N1) Y2) [_,_,_,_] hi this
  rw[dif_pos hlt,Array.toList_eraseIdx,eI,hp,<- hi]
  have:((l1++(sa,na,pw)::(sb,nb,pq)::l2).set l1.length (sa,na+nb,pw))=l1++(sa,na+nb,pw)::(sb,nb,pq)::l2:=by simp
  rw[this,List.eraseIdx_append_of_length_le (by exact Bh 1 (.l Y0 (.a Y0 N1)) [_])]
  simp
 rw[JX]
 refine bo (bp ?_)
 rw[e1,e2]
 show wpS (model prog w) A E s (Um st i sa na pw sb nb) Q st
 refine bo (PR ?_)
 generalize hst1:setPending st (((bf st).setIfInBounds i (sa,na+nb,pw)).eraseIdxIfInBounds (i+1))=st1
 have a1:arrOf st1=arrOf st:=by rw[<- hst1]
 have k1:kindOf st1=kd:=by rw[<- hst1];exact hk
 have f1:be st1=none:=by rw[<- hst1];exact hf
 have p1:(bf st1).toList=l1++(sa,na+nb,pw)::l2:=by rw[<- hst1];exact e3
 clear hst1 e3 e2 e1
 have mu:∀ {i p},(arrOf st)[i]?=some p->U p:=fun {i p} e=>hU p (by rw[<- WO]at e;exact Zy e)
 obtain⟨pb,hpb⟩:=BE (a:=arrOf st) (i:=sb) (by exact AL 3 (.l N1 Y0) (.l (.a Y1 Y0) Y2) (.t Y1 Y2) [_,_,_] hy1 hsz)
 refine bo (BS hpb (bo (CH L (base:=sa) (n:=na) (r:=fun j=>Rk rk (arrOf st) (sa+j)) k1 (mu hpb) (Ep hU sa na (by exact AL 5 (.l (.a Y0 Y1) Y2) (.e Y0 (.a Y3 Y4)) (.l (.a Y3 Y4) Y2) [_,_,_,_,_] hsz hyx)) sx (by exact AJ 1 (.l N1 Y0) (.t (.n 0) Y0) [_] hx1) fun k hk1 hk2 hk3=>?_)))
 dsimp only
 have low:∀ j,j<k->Rk rk (arrOf st) (sa+j)<=rk pb:=fun j hj=>by have:=hk2 j hj;simpa [Bb] using this
 have up:∀ j,k<=j->j<na->rk pb<Rk rk (arrOf st) (sa+j):=fun j hj hj2=>by have:=hk3 j hj hj2;simpa [Bb] using this
 have rb0:Rk rk (arrOf st) sb=rk pb:=Ly hpb
 by_cases hz:na-k=0
 .first|refine B4 (by simpa using hz) ?_|rw[if_pos (by simpa using hz)]
  refine bq (h st1 (by rw[a1]) (fun j _=>by rw[a1]) ?_ k1 f1 p1)
  rw[a1]
  intro u v huv hv
  by_cases hv':v<na
  .exact sx u v huv hv'
  .have q2:=sy (v-na)
   rcases Yp u na with hu|hu
   .have q1:=low u (by exact AL 3 (.e (.s Y0 Y1) (.n 0)) (.t Y2 Y0) (.t Y2 Y1) [_,_,_] hz hu)
    have q3:=sy 0 (v-na) (by exact Bh 2 (.l (.n 0) (.s Y0 Y1)) [_,_]) (by exact AL 3 (.l N1 Y0) (.t Y1 (.a Y2 Y0)) (.t (.s Y1 Y2) Y0) [_,_,_] hy1 hv)
    rw[cA,rb0,show sb+(v-na)=sa+v by exact AL 4 (.e Y0 (.a Y1 Y2)) (.no (.t Y3 Y2)) (.e (.a Y0 (.s Y3 Y2)) (.a Y1 Y3)) [_,_,_,_] hyx hv']at q3
    lia
   .have q3:=sy (u-na) (v-na) (by exact AJ 3 (.l Y0 Y1) (.l (.s Y0 Y2) (.s Y1 Y2)) [_,_,_] huv) (by exact AL 3 (.l N1 Y0) (.t Y1 (.a Y2 Y0)) (.t (.s Y1 Y2) Y0) [_,_,_] hy1 hv)
    rwa [show sb+(u-na)=sa+u by exact AL 4 (.e Y0 (.a Y1 Y2)) (.l Y2 Y3) (.e (.a Y0 (.s Y3 Y2)) (.a Y1 Y3)) [_,_,_,_] hyx hu,show sb+(v-na)=sa+v by exact AL 4 (.e Y0 (.a Y1 Y2)) (.no (.t Y3 Y2)) (.e (.a Y0 (.s Y3 Y2)) (.a Y1 Y3)) [_,_,_,_] hyx hv']at q3
 first|refine Bu (by simpa using hz) ?_|rw[if_neg (by simpa using hz)]
 obtain⟨pa,hpa⟩:=BE (a:=arrOf st) (i:=sa+k+(na-k)-1) (by exact Be 6 (.l (.a Y0 Y1) Y2) (.e Y0 (.a Y3 Y4)) (.no (.e (.s Y4 Y5) (.n 0))) (.t (.s (.a (.a Y3 Y5) (.s Y4 Y5)) N1) Y2) [_,_,_,_,_,_] hsz hyx hz)
 have ra:Rk rk (arrOf st) (sa+(na-1))=rk pa:=by rw[show sa+(na-1)=sa+k+(na-k)-1 by exact AJ 3 (.no (.e (.s Y0 Y1) (.n 0))) (.e (.a Y2 (.s Y0 N1)) (.s (.a (.a Y2 Y1) (.s Y0 Y1)) N1)) [_,_,_] hz];exact Ly hpa
 refine bo (BS hpa (bo (CH L (base:=sb) (n:=nb) (r:=fun j=>Rk rk (arrOf st) (sb+j)) k1 (mu hpa) (Ep hU sb nb (by exact AJ 3 (.l (.a Y0 Y1) Y2) (.l (.a Y0 Y1) Y2) [_,_,_] hsz)) sy (by exact AJ 1 (.l N1 Y0) (.t (.s Y0 N1) Y0) [_] hy1) fun k' hk1' hk2' hk3'=>?_)))
 dsimp only
 have low':∀ j,j<k'->Rk rk (arrOf st) (sb+j)<rk pa:=fun j hj=>by have:=hk2' j hj;simpa [Bb] using this
 have up':∀ j,k'<=j->j<nb->rk pa<=Rk rk (arrOf st) (sb+j):=fun j hj hj2=>by have:=hk3' j hj hj2;simpa [Bb] using this
 by_cases hz':k'=0
 .first|refine B4 (by simpa using hz') ?_|rw[if_pos (by simpa using hz')]
  refine bq (h st1 (by rw[a1]) (fun j _=>by rw[a1]) ?_ k1 f1 p1)
  rw[a1]
  intro u v huv hv
  by_cases hv':v<na
  .exact sx u v huv hv'
  .rcases Yp u na with hu|hu
   .have q1:=sx u (na-1) (by exact AJ 2 (.t Y0 Y1) (.l Y0 (.s Y1 N1)) [_,_] hu) (by exact AJ 1 (.l N1 Y0) (.t (.s Y0 N1) Y0) [_] hx1)
    have q3:=up' (v-na) (by exact AJ 3 (.e Y0 (.n 0)) (.l Y0 (.s Y1 Y2)) [_,_,_] hz') (by exact AL 3 (.l N1 Y0) (.t Y1 (.a Y2 Y0)) (.t (.s Y1 Y2) Y0) [_,_,_] hy1 hv)
    rw[show sb+(v-na)=sa+v by exact AL 4 (.e Y0 (.a Y1 Y2)) (.no (.t Y3 Y2)) (.e (.a Y0 (.s Y3 Y2)) (.a Y1 Y3)) [_,_,_,_] hyx hv']at q3
    lia
   .have q3:=sy (u-na) (v-na) (by exact AJ 3 (.l Y0 Y1) (.l (.s Y0 Y2) (.s Y1 Y2)) [_,_,_] huv) (by exact AL 3 (.l N1 Y0) (.t Y1 (.a Y2 Y0)) (.t (.s Y1 Y2) Y0) [_,_,_] hy1 hv)
    rwa [show sb+(u-na)=sa+u by exact AL 4 (.e Y0 (.a Y1 Y2)) (.l Y2 Y3) (.e (.a Y0 (.s Y3 Y2)) (.a Y1 Y3)) [_,_,_,_] hyx hu,show sb+(v-na)=sa+v by exact AL 4 (.e Y0 (.a Y1 Y2)) (.no (.t Y3 Y2)) (.e (.a Y0 (.s Y3 Y2)) (.a Y1 Y3)) [_,_,_,_] hyx hv']at q3
 first|refine Bu (by simpa using hz') ?_|rw[if_neg (by simpa using hz')]
 -- the two arrays
 have hS:(arrOf st).toList.length=(arrOf st).size:=V9
 have ex:((arrOf st).extract (sa+k) sb).toList=((arrOf st).toList.drop (sa+k)).take (na-k):=by
  have:=Ee (arrOf st) (sa+k) (na-k)
  rwa [show sa+k+(na-k)=sb by exact AL 4 (.e Y0 (.a Y1 Y2)) (.no (.e (.s Y2 Y3) (.n 0))) (.e (.a (.a Y1 Y3) (.s Y2 Y3)) Y0) [_,_,_,_] hyx hz]at this
 have ey:((arrOf st).extract sb (sb+k')).toList=((arrOf st).toList.drop sb).take k':=Ee (arrOf st) sb k'
 have rX:BN rk (((arrOf st).toList.drop sa).take na):=(Fz (by exact AL 5 (.l (.a Y0 Y1) Y2) (.e Y0 (.a Y3 Y4)) (.l (.a Y3 Y4) Y2) [_,_,_,_,_] hsz hyx)).mp sx
 have rY:BN rk (((arrOf st).toList.drop sb).take nb):=(Fz (by exact AJ 3 (.l (.a Y0 Y1) Y2) (.l (.a Y0 Y1) Y2) [_,_,_] hsz)).mp sy
 have c1:((arrOf st).toList.drop sa).take na=((arrOf st).toList.drop sa).take k++((arrOf st).toList.drop (sa+k)).take (na-k):=by
  exact I7 _ _ hk1
 have c2:((arrOf st).toList.drop sb).take nb=((arrOf st).toList.drop sb).take k'++((arrOf st).toList.drop (sb+k')).take (nb-k'):=by
  exact I7 _ _ hk1'
 rw[c1]at rX
 rw[c2]at rY
 obtain⟨rS1,rXX,rS1X⟩:=Yn.mp rX
 obtain⟨rYY,rZ,rYZ⟩:=Yn.mp rY
 have mX:∀ {q},q∈((arrOf st).toList.drop (sa+k)).take (na-k)->rk pb<rk q/\rk q<=rk pa:=fun {q} hq=>by
  obtain⟨j,hj,e⟩:=B7 hq
  have q1:=up (k+j) (by exact Bh 2 (.l Y0 (.a Y0 Y1)) [_,_]) (by exact AJ 3 (.t Y0 (.s Y1 Y2)) (.t (.a Y2 Y0) Y1) [_,_,_] hj)
  have q2:=sx (k+j) (na-1) (by exact AJ 3 (.t Y0 (.s Y1 Y2)) (.l (.a Y2 Y0) (.s Y1 N1)) [_,_,_] hj) (by exact AJ 1 (.l N1 Y0) (.t (.s Y0 N1) Y0) [_] hx1)
  rw[<- dd,Cm e]at q1
  rw[ra,<- dd,Cm e]at q2
  exact⟨q1,q2⟩
 have mY:∀ {q},q∈((arrOf st).toList.drop sb).take k'->rk pb<=rk q/\rk q<rk pa:=fun {q} hq=>by
  obtain⟨j,hj,e⟩:=B7 hq
  have q1:=low' j hj
  have q2:=sy 0 j (by exact Bh 1 (.l (.n 0) Y0) [_]) (by exact AL 3 (.l Y0 Y1) (.t Y2 Y0) (.t Y2 Y1) [_,_,_] hk1' hj)
  rw[cA,rb0]at q2
  rw[Cm e]at q1 q2
  exact⟨q2,q1⟩
 have mS:∀ {q},q∈((arrOf st).toList.drop sa).take k->rk q<=rk pb:=fun {q} hq=>by
  obtain⟨j,hj,e⟩:=B7 hq
  have q1:=low j hj
  rwa [Cm e]at q1
 have mZ:∀ {q},q∈((arrOf st).toList.drop (sb+k')).take (nb-k')->rk pa<=rk q:=fun {q} hq=>by
  obtain⟨j,hj,e⟩:=B7 hq
  have q1:=up' (k'+j) (by exact Bh 2 (.l Y0 (.a Y0 Y1)) [_,_]) (by exact AJ 3 (.t Y0 (.s Y1 Y2)) (.t (.a Y2 Y0) Y1) [_,_,_] hj)
  rwa [<- dd,Cm e]at q1
 have hba:rk pb<rk pa:=by have:=up (na-1) (by exact AJ 2 (.no (.e (.s Y0 Y1) (.n 0))) (.l Y1 (.s Y0 N1)) [_,_] hz) (by exact AJ 1 (.l N1 Y0) (.t (.s Y0 N1) Y0) [_] hx1);rwa [ra]at this
 have X2:Arr2 U rk ((arrOf st).extract (sa+k) sb) ((arrOf st).extract sb (sb+k')):=by
  refine⟨fun p hp=>hU p (JQ (ex▸hp)),fun p hp=>hU p (JQ (ey▸hp)),by rw[ex];exact rXX,by rw[ey];exact rYY,by simp;exact Be 6 (.l (.a Y0 Y1) Y2) (.e Y0 (.a Y3 Y4)) (.no (.e (.s Y4 Y5) (.n 0))) (.l N1 (.s (.mn Y0 Y2) (.a Y3 Y5))) [_,_,_,_,_,_] hsz hyx hz,by simp;exact Be 4 (.l N1 Y0) (.l (.a Y1 Y0) Y2) (.no (.e Y3 (.n 0))) (.l N1 (.s (.mn (.a Y1 Y3) Y2) Y1)) [_,_,_,_] hy1 hsz hz',fun p q hp hq=>?_,fun p q hp hq=>?_⟩
  .rw[<- WO,ey,d7,if_pos (by exact AJ 1 (.no (.e Y0 (.n 0))) (.t (.n 0) Y0) [_] hz'),aB,cA,WO,hpb]at hp
   cases hp
   exact(mX (ex▸hq)).1
  .rw[<- WO,ex,show((arrOf st).extract (sa+k) sb).size=na-k by simp;exact AL 6 (.l (.a Y0 Y1) Y2) (.e Y0 (.a Y3 Y4)) (.e (.s (.mn Y0 Y2) (.a Y3 Y5)) (.s Y4 Y5)) [_,_,_,_,_,_] hsz hyx,d7,if_pos (by exact AJ 2 (.no (.e (.s Y0 Y1) (.n 0))) (.t (.s (.s Y0 Y1) N1) (.s Y0 Y1)) [_,_] hz),aB,WO,show sa+k+(na-k-1)=sa+k+(na-k)-1 by exact AJ 3 (.no (.e (.s Y0 Y1) (.n 0))) (.e (.a (.a Y2 Y1) (.s (.s Y0 Y1) N1)) (.s (.a (.a Y2 Y1) (.s Y0 Y1)) N1)) [_,_,_] hz,hpa]at hp
   cases hp
   exact(mY (ey▸hq)).2
 have fin:∀ (r:Array bZ) (st':bb),Same st1 st'->MFin rk ((arrOf st).extract (sa+k) sb).toList ((arrOf st).extract sb (sb+k')).toList r.toList ->
   wpS (model prog w) A E s (UV (sa+k) r) Q st':=by
  intro r st' hs hr
  refine bo (bw (bo (bp ?_)))
  have hf':be (setArr st' (r.toList.zipIdx.foldl (fun a (pj:bZ×Nat)=>a.setIfInBounds (sa+k+pj.2) pj.1) (arrOf st')))=none:=hs.f.trans f1
  rw[hf']
  have hlen:r.toList.length=(na-k)+k':=by
   have:=hr.perm.length_eq
   rw[this,ex,ey]
   simp
   exact Be 7 (.l (.a Y0 Y1) Y2) (.e Y0 (.a Y3 Y4)) (.l Y5 Y1) (.e (.a (.mn (.s Y4 Y6) (.s Y2 (.a Y3 Y6))) (.mn Y5 (.s Y2 Y0))) (.a (.s Y4 Y6) Y5)) [_,_,_,_,_,_,_] hsz hyx hk1'
  have hw:=Ft r.toList (arrOf st') (sa+k) 0 (by rw[hs.a,a1];exact S6 8 (.l (.a Y0 Y1) Y2) (.e Y0 (.a Y3 Y4)) (.no (.e (.s Y4 Y5) (.n 0))) (.l Y6 Y1) (.e Y7 (.a (.s Y4 Y5) Y6)) (.l (.a (.a (.a Y3 Y5) (.n 0)) Y7) Y2) [_,_,_,_,_,_,_,_] hsz hyx hz hk1' hlen)
  rw[hs.a,a1]at hw
  rw[ex,ey]at hr
  have d1:(arrOf st).toList=(arrOf st).toList.take sa++(((arrOf st).toList.drop sa).take k++(((arrOf st).toList.drop (sa+k)).take (na-k)++(((arrOf st).toList.drop sb).take k'++(((arrOf st).toList.drop (sb+k')).take (nb-k')++(arrOf st).toList.drop (sb+nb))))):=by
   have z1:=cut (arrOf st).toList (sb+k') (nb-k')
   rw[show sb+k'+(nb-k')=sb+nb by exact AJ 3 (.l Y0 Y1) (.e (.a (.a Y2 Y0) (.s Y1 Y0)) (.a Y2 Y1)) [_,_,_] hk1']at z1
   have z3:=cut (arrOf st).toList (sa+k) (na-k)
   rw[show sa+k+(na-k)=sb by exact AL 4 (.e Y0 (.a Y1 Y2)) (.no (.e (.s Y2 Y3) (.n 0))) (.e (.a (.a Y1 Y3) (.s Y2 Y3)) Y0) [_,_,_,_] hyx hz]at z3
   rw[<- z1,<- cut,<- z3,<- cut,Ym]
  have d2:(r.toList.zipIdx.foldl (fun a (pj:bZ×Nat)=>a.setIfInBounds (sa+k+pj.2) pj.1) (arrOf st)).toList=(arrOf st).toList.take sa++(((arrOf st).toList.drop sa).take k++(r.toList++(((arrOf st).toList.drop (sb+k')).take (nb-k')++(arrOf st).toList.drop (sb+nb)))):=by
   rw[hw,hlen]
   have z1:=cut (arrOf st).toList (sb+k') (nb-k')
   rw[show sb+k'+(nb-k')=sb+nb by exact AJ 3 (.l Y0 Y1) (.e (.a (.a Y2 Y0) (.s Y1 Y0)) (.a Y2 Y1)) [_,_,_] hk1']at z1
   rw[<- z1,show sa+k+0+(na-k+k')=sb+k' by exact AL 5 (.e Y0 (.a Y1 Y2)) (.no (.e (.s Y2 Y3) (.n 0))) (.e (.a (.a (.a Y1 Y3) (.n 0)) (.a (.s Y2 Y3) Y4)) (.a Y0 Y4)) [_,_,_,_,_] hyx hz,cA]
   have z2:(arrOf st).toList.take (sa+k)=(arrOf st).toList.take sa++((arrOf st).toList.drop sa).take k:=by
    rw[dk]
   rw[z2]
   simp only[Wv]
  obtain⟨g1,g2⟩:=JU d1 d2 hr.perm hr.so rX rY (fun p hp q hq=>VN (mS hp) (mY hq).1) (fun p hp q hq=>VN (mX hp).2 (mZ hq)) (fun p hp q hq=>VN (mS hp) (VN (bx hba) (mZ hq)))
  have hsz2:(r.toList.zipIdx.foldl (fun a (pj:bZ×Nat)=>a.setIfInBounds (sa+k+pj.2) pj.1) (arrOf st)).size=(arrOf st).size:=by
   rw[<- V9,g1.length_eq];simp
  rw[hs.a,a1]at hf' ⊢
  refine bq (h _ (bg.mpr g1) (fun j hj=>?_) ?_ (hs.k.trans k1) hf' ?_)
  .show(r.toList.zipIdx.foldl (fun a (pj:bZ×Nat)=>a.setIfInBounds (sa+k+pj.2) pj.1) (arrOf st))[j]?=_
   rw[<- WO,<- WO,hw]
   rcases hj with hj|hj
   .rw[Wv,List.getElem?_append_left (by simp;exact Be 7 (.l (.a Y0 Y1) Y2) (.e Y0 (.a Y3 Y4)) (.t Y5 Y3) (.t Y5 (.mn (.a Y3 Y6) Y2)) [_,_,_,_,_,_,_] hsz hyx hj),d7,if_pos (by exact AJ 3 (.t Y0 Y1) (.t Y0 (.a (.a Y1 Y2) (.n 0))) [_,_,_] hj)]
   .rw[List.getElem?_append_right (by simp[hlen];exact PL 8 (.e Y0 (.a Y1 Y2)) (.no (.e (.s Y2 Y3) (.n 0))) (.l Y4 Y5) (.l (.a Y0 Y5) Y6) (.l (.a (.mn (.a Y1 Y3) Y7) (.a (.s Y2 Y3) Y4)) Y6) [_,_,_,_,_,_,_,_] hyx hz hk1' hj),aB]
    congr 1
    simp[hlen]
    exact S6 8 (.l (.a Y0 Y1) Y2) (.e Y0 (.a Y3 Y4)) (.no (.e (.s Y4 Y5) (.n 0))) (.l Y6 Y1) (.l (.a Y0 Y1) Y7) (.e (.a (.a (.a Y3 Y5) (.a (.s Y4 Y5) Y6)) (.s Y7 (.a (.mn (.a Y3 Y5) Y2) (.a (.s Y4 Y5) Y6)))) Y7) [_,_,_,_,_,_,_,_] hsz hyx hz hk1' hj
  .refine(Fz (by show sa+(na+nb)<=(r.toList.zipIdx.foldl (fun a (pj:bZ×Nat)=>a.setIfInBounds (sa+k+pj.2) pj.1) (arrOf st)).size;exact Be 6 (.l (.a Y0 Y1) Y2) (.e Y0 (.a Y3 Y4)) (.e Y5 Y2) (.l (.a Y3 (.a Y4 Y1)) Y5) [_,_,_,_,_,_] hsz hyx hsz2)).mpr ?_
   show BN rk (((r.toList.zipIdx.foldl (fun a (pj:bZ×Nat)=>a.setIfInBounds (sa+k+pj.2) pj.1) (arrOf st)).toList.drop sa).take (na+nb))
   rw[d2,List.drop_left' (by simp;exact AL 5 (.l (.a Y0 Y1) Y2) (.e Y0 (.a Y3 Y4)) (.e (.mn Y3 Y2) Y3) [_,_,_,_,_] hsz hyx)]
   rw[<- Wv r.toList,<- Wv (((arrOf st).toList.drop sa).take k),List.take_left' (by simp[hlen];exact PL 7 (.l (.a Y0 Y1) Y2) (.e Y0 (.a Y3 Y4)) (.no (.e (.s Y4 Y5) (.n 0))) (.l Y6 Y1) (.e (.a (.mn Y5 (.s Y2 Y3)) (.a (.a (.s Y4 Y5) Y6) (.mn (.s Y1 Y6) (.s Y2 (.a Y0 Y6))))) (.a Y4 Y1)) [_,_,_,_,_,_,_] hsz hyx hz hk1')]
   exact g2
  .exact hs.p▸p1
 have hsplit:sa+k+(na-k)=sb:=by exact AL 4 (.e Y0 (.a Y1 Y2)) (.no (.e (.s Y2 Y3) (.n 0))) (.e (.a (.a Y1 Y3) (.s Y2 Y3)) Y0) [_,_,_,_] hyx hz
 by_cases hle:na-k<=k'
 .refine B4 hle ?_
  exact bo (Iw L X2 k1 fun r st' hs hr=>fin r st' hs hr)
 .refine Bu hle ?_
  exact bo (Ix L X2 k1 fun r st' hs hr=>fin r st' hs hr)
end
end
section
open PySem PyProof.Rows
section
variable{prog:VY}{w:VZ}{A:Va}{E:VX->Vb->Prop}{s:Vb}
variable{kd:ba}{U:bZ->Prop}{rk:bZ->Int}{st:bb}{a₀:Array bZ}
structure RJ(kd:ba)(rk:bZ->Int)(a₀:Array bZ)(lo:Nat)(st:bb):Prop where
 perm:(arrOf st).Perm a₀
 kind:kindOf st=kd
 failed:be st=none
 chain:A0 0 (bf st).toList lo
 so:∀ z∈(bf st).toList,CF rk (arrOf st) z.1 z.2.1
theorem Dm{xs ys:Array bZ}{lo n:Nat}(h:∀ j,lo<=j->j<lo+n->ys[j]?=xs[j]?)(q:CF rk xs lo n):CF rk ys lo n:=fun i j hij hj=>by
 rw[Ct (rk:=rk) (h (lo+i) (by exact Bh 2 (.l Y0 (.a Y0 Y1)) [_,_]) (by exact AL 4 (.l Y0 Y1) (.t Y1 Y2) (.t (.a Y3 Y0) (.a Y3 Y2)) [_,_,_,_] hij hj)),Ct (rk:=rk) (h (lo+j) (by exact Bh 2 (.l Y0 (.a Y0 Y1)) [_,_]) (by exact AJ 3 (.t Y0 Y1) (.t (.a Y2 Y0) (.a Y2 Y1)) [_,_,_] hj))]
 exact q i j hij hj
theorem Fu(L:Bt prog w A E s kd U rk){i lo:Nat}{Q:Bool->bb->Prop}(hU:∀ p∈a₀.toList,U p)(J:RJ kd rk a₀ lo st)(hlo:lo<=a₀.size)(hi:i+1<(bf st).size)(h:∀ st',RJ kd rk a₀ lo st'->(∀ j,lo<=j->(arrOf st')[j]?=(arrOf st)[j]?)->(bf st').size+1=(bf st).size->Q true st'):wpS (model prog w) A E s (mergeAt' i) Q st:=by
 have hsz:(arrOf st).size=a₀.size:=J.perm.size_eq
 have hl:i+1<(bf st).toList.length:=by simpa using hi
 have e:(bf st).toList=(bf st).toList.take i++(bf st).toList[i]::(bf st).toList[i+1]::(bf st).toList.drop (i+1+1):=by
  rw[<- aY hl,<- aY (by exact AJ 2 (.t (.a Y0 N1) Y1) (.t Y0 Y1) [_,_] hl),Ym]
 generalize hx:(bf st).toList[i]=x at e
 generalize hy:(bf st).toList[i+1]=y at e
 generalize h1:(bf st).toList.take i=l1 at e
 generalize h2:(bf st).toList.drop (i+1+1)=l2 at e
 have hc:=J.chain
 rw[e]at hc
 obtain⟨c1,c2,c3,c4,c5,c6,c7⟩:=hc.mid
 have so:=J.so
 rw[e]at so
 refine Iy L e (by rw[<- h1];simp;exact AJ 2 (.t (.a Y0 N1) Y1) (.e (.mn Y0 Y1) Y0) [_,_] hi) c1 c2 c3 (by exact Be 5 (.l Y0 Y1) (.e Y2 Y1) (.l (.a Y3 Y4) Y0) (.l (.a Y3 Y4) Y2) [_,_,_,_,_] hlo hsz c4) (so x (by simp)) (so y (by simp)) (fun p hp=>hU p ((bg.mp J.perm).mem_iff.mp hp)) J.kind J.failed fun st' p1 p2 p3 p4 p5 p6=>?_
 refine h st' ⟨p1.trans J.perm,p4,p5,by rw[p6];exact c7,fun z hz=>?_⟩ (fun j hj=>p2 j (.inr (by exact AL 4 (.l (.a Y0 Y1) Y2) (.l Y2 Y3) (.l (.a Y0 Y1) Y3) [_,_,_,_] c4 hj))) ?_
 .rw[p6]at hz
  rcases W9.mp hz with hz|hz
  .have:=c5 z hz
   exact Dm (fun j _ hj=>p2 j (.inl (by exact AL 4 (.l (.a Y0 Y1) Y2) (.t Y3 (.a Y0 Y1)) (.t Y3 Y2) [_,_,_,_] this hj))) (so z (by simp[hz]))
  .rcases Vq.mp hz with rfl|hz
   .exact p3
   .have:=c6 z hz
    exact Dm (fun j hj _=>p2 j (.inr (by exact AL 6 (.an (.l (.a Y0 Y1) Y2) (.l (.a Y2 Y3) Y4)) (.l Y2 Y5) (.l (.a Y0 Y1) Y5) [_,_,_,_,_,_] this hj))) (so z (by simp[hz]))
 .have q1:=congrArg YC p6
  have q2:=congrArg YC e
  simp at q1 q2
  exact AL 4 (.e Y0 (.a Y1 (.a Y2 N1))) (.e Y3 (.a Y1 (.a (.a Y2 N1) N1))) (.e (.a Y0 N1) Y3) [_,_,_,_] q1 q2
theorem Py{c:Prop}[Decidable c]{n:Nat}:(if c then n-1 else n)<=n:=by
 by_cases q:c
 .rw[if_pos q];exact Nat.sub_le _ _
 .rw[if_neg q];exact Vn _
theorem M9(L:Bt prog w A E s kd U rk){Q:Unit->bb->Prop}(hU:∀ p∈a₀.toList,U p)(hp:(arrOf st).Perm a₀)(hk:kindOf st=kd)(hf:be st=none)(hpd:bf st=#[])(h1:1<=a₀.size)(h:∀ st',(arrOf st').Perm a₀->be st'=none->CF rk (arrOf st') 0 a₀.size->Q () st'):wpS (model prog w) A E s sortRuns' Q st:=by
 rw[sortRuns'_eq]
 refine bo (bp ?_)
 have hsz:(arrOf st).size=a₀.size:=hp.size_eq
 (try dsimp -zeta only)
 rw[hsz]
 refine bo (bt (bu
  (I:=fun x c st'=>∃ lo,c=(none,lo)/\RJ kd rk a₀ lo st'/\x<=lo/\lo<=a₀.size)
  (Q:=fun c st'=>c=(none,a₀.size)/\RJ kd rk a₀ a₀.size st') ?step ?fin ⟨0,rfl,⟨hp,hk,hf,by rw[hpd];rfl,fun z hz=>by rw[hpd]at hz;simp at hz⟩,by exact Bh 0 (.l (.n 0) (.n 0)) [],by exact Bh 1 (.l (.n 0) Y0) [_]⟩) ?post)
 case fin=>
  rintro c st' ⟨lo,rfl,J,hx,hlo⟩
  have:lo=a₀.size:=by exact AL 2 (.l (.mx (.n 0) Y0) Y1) (.l Y1 Y0) (.e Y1 Y0) [_,_] hx hlo
  subst this
  exact⟨rfl,J⟩
 case step=>
  rintro x c st' _ hx ⟨lo,rfl,J,hxl,hlo⟩
  have hsz':(arrOf st').size=a₀.size:=J.perm.size_eq
  by_cases hge:lo≥a₀.size
  .first|refine B4 hge ?_|rw[if_pos hge]
   have:lo=a₀.size:=by exact AL 2 (.l Y0 Y1) (.l Y1 Y0) (.e Y0 Y1) [_,_] hlo hge
   subst this
   exact bq ⟨rfl,J⟩
  first|refine Bu hge ?_|rw[if_neg hge]
  have hU':∀ p,p∈(arrOf st').toList->U p:=fun p hp=>hU p ((bg.mp J.perm).mem_iff.mp hp)
  refine bo (L4 L (a₀:=arrOf st') (lo:=lo) (nrem:=a₀.size-lo) (pd:=bf st') (by exact AL 3 (.e Y0 Y1) (.no (.l Y1 Y2)) (.l (.a Y2 (.s Y1 Y2)) Y0) [_,_,_] hsz' hge) (by exact AJ 2 (.no (.l Y0 Y1)) (.l N1 (.s Y0 Y1)) [_,_] hge) ⟨.refl _,fun _ _=>rfl,J.kind,J.failed,rfl,hU'⟩ fun m st2 B2 hm1 hm2 so2=>?_)
  (try dsimp -zeta only)
  extract_lets n0 jp force n1
  -- behind the run's end
  have hjp:∀ n st3,SB kd U (arrOf st') lo (bf st') st3->1<=n->lo+n<=a₀.size->CF rk (arrOf st3) lo n->wpS (model prog w) A E s (jp () n)
    (BL (fun c st'=>c=(none,a₀.size)/\RJ kd rk a₀ a₀.size st') (fun c st'=>∃ lo,c=(none,lo)/\RJ kd rk a₀ lo st'/\x+1<=lo/\lo<=a₀.size)) st3:=by
   intro n st3 B3 hn1 hn2 so3
   have J3:RJ kd rk a₀ lo st3:=by
    refine⟨B3.perm.trans J.perm,B3.kind,B3.failed,by rw[B3.pend];exact J.chain,fun z hz=>?_⟩
    rw[B3.pend]at hz
    have:=J.chain.in_ z hz
    exact Dm (fun j _ hj=>B3.pre j (by exact AL 4 (.an (.l (.n 0) Y0) (.an (.l (.a Y0 Y1) Y2) (.l N1 Y1))) (.t Y3 (.a Y0 Y1)) (.t Y3 Y2) [_,_,_,_] this hj)) (J.so z hz)
   clear B3 so2 B2
   refine bo (bp ?_)
   have fin3:∀ st4,RJ kd rk a₀ lo st4->CF rk (arrOf st4) lo n->wpS (model prog w) A E s (do
     modify fun s=>setPending s ((bf s).push (lo,n,0))
     pure (XH ((none,lo+n):Option Unit×Nat)))
     (BL (fun c st'=>c=(none,a₀.size)/\RJ kd rk a₀ a₀.size st') (fun c st'=>∃ lo,c=(none,lo)/\RJ kd rk a₀ lo st'/\x+1<=lo/\lo<=a₀.size)) st4:=by
    intro st4 J4 so4
    refine bo (bw (bq ⟨lo+n,rfl,⟨J4.perm,J4.kind,J4.failed,?_,fun z hz=>?_⟩,by exact AL 3 (.l Y0 Y1) (.l N1 Y2) (.l (.a Y0 N1) (.a Y1 Y2)) [_,_,_] hxl hn1,hn2⟩))
    .show A0 0 ((bf st4).push (lo,n,0)).toList (lo+n)
     rw[Wl]
     exact J4.chain.snoc hn1
    .have hz':z∈((bf st4).push (lo,n,0)).toList:=hz
     rw[Wl]at hz'
     rcases W9.mp hz' with hz'|hz'
     .exact J4.so z hz'
     .rw[XQ]at hz'
      subst hz'
      exact so4
   cases hb:(bf st3).back? with
   | none=>exact fin3 st3 J3 so3
   | some last=>
    obtain⟨s1,n1',p1⟩:=last
    (try dsimp -zeta only)
    refine bo (bt (bu (I:=fun y c st4=>c=(none,())/\RJ kd rk a₀ lo st4/\CF rk (arrOf st4) lo n)
     (Q:=fun c st4=>c=(none,())/\RJ kd rk a₀ lo st4/\CF rk (arrOf st4) lo n) ?mstep (fun c st' hh=>hh) ⟨rfl,J3,so3⟩) ?mpost)
    case mpost=>
     rintro c st4 ⟨rfl,J4,so4⟩
     (try dsimp -zeta only)
     refine bo (bw ?_)
     refine fin3 _ ⟨J4.perm,J4.kind,J4.failed,?_,fun z hz=>?_⟩ so4
     .show A0 0 ((bf st4).modify _ _).toList lo
      rw[eK]
      exact J4.chain.power _
     .have hz':z∈((bf st4).modify ((bf st4).size-1) fun x=>(x.1,x.2.1,power' a₀.size (2 * s1+n1') (2 * s1+n1'+n1'+n) a₀.size)).toList:=hz
      rw[eK]at hz'
      obtain⟨j,hj⟩:=db.mp hz'
      rw[List.getElem?_modify]at hj
      cases hq:(bf st4).toList[j]? with
      | none=>rw[hq]at hj;cases hj
      | some z0=>
       rw[hq]at hj
       have s0:=J4.so z0 (Zy hq)
       simp only[Option.map_eq_map,YE,Yy]at hj
       subst hj
       split
       .exact s0
       .exact s0
    case mstep=>
     rintro y c st4 _ hy ⟨rfl,J4,so4⟩
     refine bo (bp ?_)
     (try dsimp only)
     by_cases hgt:(bf st4).size > 1
     .first|refine B4 hgt ?_|rw[if_pos hgt]
      obtain⟨⟨q1,q2,q3⟩,hq⟩:∃ z,(bf st4)[(bf st4).size-2]?=some z:=⟨_,dz (by exact AJ 1 (.t N1 Y0) (.t (.s Y0 (.n 2)) Y0) [_] hgt)⟩
      rw[hq]
      (try dsimp only)
      split
      .exact bq ⟨rfl,J4,so4⟩
      .refine bo (Fu L hU J4 hlo (by exact AJ 1 (.t N1 Y0) (.t (.a (.s Y0 (.n 2)) N1) Y0) [_] hgt) fun st5 J5 h5 _=>?_)
       exact bq ⟨rfl,J5,Dm (fun j hj _=>h5 j hj) so4⟩
     .first|refine Bu hgt ?_|rw[if_neg hgt]
      exact bq ⟨rfl,J4,so4⟩
  by_cases hlt:m<minRun' a₀.size a₀.size 0
  .first|refine B4 hlt ?_|rw[if_pos hlt]
   refine bo (cB (ZH ⟨rfl,?_⟩))
   refine bo (PS L (by rw[hsz'];show lo+min (a₀.size-lo) (minRun' a₀.size a₀.size 0)<=_;exact AL 4 (.l N1 Y0) (.l Y0 (.s Y1 Y2)) (.l (.a Y2 (.mn (.s Y1 Y2) Y3)) Y1) [_,_,_,_] hm1 hm2) (by show m<=min (a₀.size-lo) (minRun' a₀.size a₀.size 0);exact AL 4 (.l Y0 (.s Y1 Y2)) (.t Y0 Y3) (.l Y0 (.mn (.s Y1 Y2) Y3)) [_,_,_,_] hm2 hlt) B2 so2 fun st3 B3 so3=>?_)
   exact hjp _ _ B3 (by show 1<=min (a₀.size-lo) (minRun' a₀.size a₀.size 0);exact Be 4 (.l N1 Y0) (.l Y0 (.s Y1 Y2)) (.t Y0 Y3) (.l N1 (.mn (.s Y1 Y2) Y3)) [_,_,_,_] hm1 hm2 hlt) (by show lo+min (a₀.size-lo) (minRun' a₀.size a₀.size 0)<=_;exact AL 4 (.l N1 Y0) (.l Y0 (.s Y1 Y2)) (.l (.a Y2 (.mn (.s Y1 Y2) Y3)) Y1) [_,_,_,_] hm1 hm2) so3
  .first|refine Bu hlt ?_|rw[if_neg hlt]
   exact hjp _ _ B2 hm1 (by exact AL 3 (.l N1 Y0) (.l Y0 (.s Y1 Y2)) (.l (.a Y2 Y0) Y1) [_,_,_] hm1 hm2) so2
 case post=>
  rintro c st' ⟨rfl,J⟩
  (try dsimp only)
  refine bo (bt (bu (I:=fun x c st4=>c=(none,())/\RJ kd rk a₀ a₀.size st4/\(bf st4).size<=max 1 (a₀.size-x))
   (Q:=fun c st4=>c=(none,())/\RJ kd rk a₀ a₀.size st4/\(bf st4).size<=1) ?fstep ?ffin ⟨rfl,J,by have:=J.chain.le;simp at this;exact AJ 2 (.l Y0 Y1) (.l Y0 (.mx N1 (.s Y1 (.n 0)))) [_,_] this⟩) ?fpost)
  case ffin=>
   rintro c st4 ⟨rfl,J4,hs4⟩
   exact⟨rfl,J4,by exact AJ 2 (.l Y0 (.mx N1 (.s Y1 (.mx (.n 0) Y1)))) (.l Y0 N1) [_,_] hs4⟩
  case fpost=>
   rintro c st4 ⟨rfl,J4,hs4⟩
   refine bq (h st4 J4.perm J4.failed ?_)
   have hc:=J4.chain
   have so:=J4.so
   have hl:(bf st4).toList.length<=1:=by simpa using hs4
   match hq:(bf st4).toList,hc,so,hl with
   | [],hc,_,_=>
    have q0:(0:Nat)=a₀.size:=hc
    exfalso;exact AL 1 (.l N1 Y0) (.e (.n 0) Y0) .f [_] h1 q0
   | [z],hc,so,_=>
    have q1:=hc.1
    have q2:0+z.2.1=a₀.size:=hc.2.2
    have:=so z (by simp)
    rw[q1]at this
    rwa [show z.2.1=a₀.size by exact AJ 2 (.e (.a (.n 0) Y0) Y1) (.e Y0 Y1) [_,_] q2]at this
   | _::_::_,_,_,hl=>simp at hl
  case fstep=>
   rintro x c st4 _ hx ⟨rfl,J4,hs4⟩
   refine bo (bp ?_)
   (try dsimp only)
   by_cases hle:(bf st4).size<=1
   .first|refine B4 hle ?_|rw[if_pos hle]
    exact bq ⟨rfl,J4,hle⟩
   first|refine Bu hle ?_|rw[if_neg hle]
   refine bo (Fu L hU J4 (Vn _) ?_ fun st5 J5 h5 h6=>?_)
   .have hgt:=Nat.not_le.mp hle
    refine W4 (XT (m:=(bf st4).size-2) ?_) (by exact AJ 1 (.t N1 Y0) (.t (.a (.s Y0 (.n 2)) N1) Y0) [_] hgt)
    exact Py
   .exact bq ⟨rfl,J5,by exact AL 4 (.l Y0 (.mx N1 (.s Y1 Y2))) (.e (.a Y3 N1) Y0) (.l Y3 (.mx N1 (.s Y1 (.a Y2 N1)))) [_,_,_,_] hs4 h6⟩
end
end
noncomputable def RS(x:Tri):List At:=[.int (x.1:Nat),.int (x.2.1:Nat),.int (x.2.2:Nat)]
noncomputable def Ca(h:Heap)(C:Addr)(x:Tri)(v:VX):Prop:=(V.tup (some C) (RS x)).rep h v
section
variable{prog:VY}{w:VZ}{A:Va}{E:VX->Vb->Prop}{s:Vb}{C:Addr}
theorem C0{h':Heap}{x:Tri}{v:VX}(h:Ca h' C x v):∃ a o n t u r,v=.ref a/\h'.get? a=some o/\o.cls=.ref C/\o.data=.seq #[.int x.1 t,.int x.2.1 u,.int x.2.2 r] n:=by
 obtain⟨a,items,rfl,⟨o,n,ho,hc,hd⟩,hr⟩:=h
 obtain⟨v1,r1,e1,⟨t,rfl⟩,hr⟩:=hr
 obtain⟨v2,r2,e2,⟨u,rfl⟩,hr⟩:=hr
 obtain⟨v3,r3,e3,⟨r,rfl⟩,hr⟩:=hr
 cases (hr:r3=[])
 subst e3 e2
 refine⟨a,o,n,t,u,r,rfl,ho,hc,?_⟩
 have:items=#[.int x.1 t,.int x.2.1 u,.int x.2.2 r]:=Array.toList_inj.mp e1
 rw[hd,this]
theorem Pf{a b:Int}{t u:Tok}{Q:VX->Vb->Prop}(h:Q (.bool (decide (a<b))) s):Vc (model prog w) A (richCompare .Lt (.int a t) (.int b u)) Q E s:=
 wpAny_richCompare_same (Xk s a t) (Xk s b u) slot_int_lt (call_int_lt ⟨nofun,h⟩)
theorem RQ{x y:Tri}{v u:VX}{P:Fin->Vb->Prop}(T:TupX (model prog w) s.heap C)(hx:Ca s.heap C x v)(hy:Ca s.heap C y u)(hd:x.1=y.1->x=y)(h:P (.done (.ret (.bool (decide (x.1<y.1))))) s) :
  Vc (model prog w) A (Wm.«tuple.__lt__» ⟨[v,u],[]⟩) P E s:=by
 obtain⟨a,o,n,t1,u1,r1,rfl,ho,hc,hdat⟩:=C0 hx
 obtain⟨b,o',n',t2,u2,r2,rfl,ho',hc',hdat'⟩:=C0 hy
 have hty:Bg s.heap (some C) b _:=⟨o',n',ho',hc',hdat'⟩
 unfold Wm.«tuple.__lt__»
 refine Ve (m:=slotArgs "__lt__" 1 ⟨[.ref a,.ref b],[]⟩) (WM ?_)
 dsimp only
 refine Ve ((I3 hty T).here ?_)
 rw[if_neg (by decide)]
 unfold cF
 refine Ve (Ve (Zs ho hdat (WM ?_)))
 refine Ve (Ve (Zs ho' hdat' (WM ?_)))
 by_cases e:x.1=y.1
 .have:=hd e
  subst this
  rw[show decide (x.1<x.1)=false by simp]at h
  refine Ve ?_
  show Vc _ _ (forIn [(cG (x.1:Nat) t1,cG (x.1:Nat) t2),(.int (x.2.1:Nat) u1,.int (x.2.1:Nat) u2),(.int (x.2.2:Nat) r1,.int (x.2.2:Nat) r2)] _ _) _ _ _
  refine Dy (p:=fun _=>true) (d:=(none,())) (fun z hz Q' q=>?_) ?_
  .rw[if_pos rfl]at q
   have:∃ k t u,z=(cG k t,cG k u):=by
    rcases Vq.mp hz with rfl|hz
    .exact⟨_,_,_,rfl⟩
    rcases Vq.mp hz with rfl|hz
    .exact⟨_,_,_,rfl⟩
    rcases Vq.mp hz with rfl|hz
    .exact⟨_,_,_,rfl⟩
    cases hz
   obtain⟨k,t,u,rfl⟩:=this
   refine Ve (Vg ?_)
   rw[if_neg (by simp)]
   exact WM q
  .exact WM h
 .refine Ve ?_
  show Vc _ _ (forIn (_::[(_,_),(_,_)]) _ _) _ _ _
  rw[XK]
  refine Ve (Ve (Vg ?_))
  rw[if_pos (by simpa using fun q=>e (VW.mp q))]
  refine Ve (ZH (Ve (Pf ?_)))
  refine Ve (WM (WM (WM (WM ?_))))
  rw[show decide ((x.1:Int)<(y.1:Nat))=decide (x.1<y.1) by simp]
  exact h
noncomputable def Uh(h:Heap)(C:Addr)(L:List Tri)(p:bZ):Prop:=∃ x∈L,Ca h C x p.1
noncomputable def LK(h:Heap)(C:Addr)(L:List Tri)(p:bZ):Int:=open Classical in if e:∃ x∈L,Ca h C x p.1 then (e.choose.1:Nat) else 0
theorem Gb{h:Heap}{x y:Tri}{v:VX}(hx:Ca h C x v)(hy:Ca h C y v):x=y:=by
 obtain⟨a,o,n,t1,u1,r1,rfl,ho,_,hd⟩:=C0 hx
 obtain⟨b,o',n',t2,u2,r2,e,ho',_,hd'⟩:=C0 hy
 cases e
 rw[ho]at ho';cases ho'
 rw[hd]at hd'
 injection hd' with e1 _
 have e2:=congrArg Array.toList e1
 simp at e2
 obtain⟨⟨a1,_⟩,⟨a2,_⟩,a3,_⟩:=e2
 obtain⟨x1,x2,x3⟩:=x
 obtain⟨y1,y2,y3⟩:=y
 simp at a1 a2 a3
 have b1:=VW.mp a1
 have b2:=VW.mp a2
 have b3:=VW.mp a3
 rw[b1,b2,b3]
theorem EN{h:Heap}{L:List Tri}{x:Tri}{p:bZ}(hm:x∈L)(hx:Ca h C x p.1):LK h C L p=(x.1:Nat):=by
 unfold LK
 have e:∃ x∈L,Ca h C x p.1:=⟨x,hm,hx⟩
 rw[dif_pos e,Gb e.choose_spec.2 hx]
theorem N6{L:List Tri}(T:TupX (model prog w) s.heap C)(hu:A.units<cLine)(hL:∀ x∈L,∀ y∈L,x.1=y.1->x=y):Bt prog w A E s oneType' (Uh s.heap C L) (LK s.heap C L):=fun p q st Q hp hq hk h=>by
 obtain⟨x,hx,hxp⟩:=hp
 obtain⟨y,hy,hyq⟩:=hq
 rw[EN hx hxp,EN hy hyq,show decide (((x.1:Nat):Int)<(y.1:Nat))=decide (x.1<y.1) by simp]at h
 obtain⟨p1,p2⟩:=p
 obtain⟨q1,q2⟩:=q
 dsimp only at hxp hyq
 rw[lt'_eq]
 refine bo (bp ?_)
 rw[hk,keyLt'_oneType,oneLt'_eq]
 refine bo (cB (Zo ?_))
 obtain⟨a,items,rfl,ht,hr⟩:=id hxp
 rw[if_pos rfl]
 refine Ve (wpAny_cRoomFor hu (Ve (L5 (Bi ht T.lt) F.slot_tuple_lt (EM ht T PV NI F.slot_tuple_lt.plain (F.args_tuple_lt_2 _ _) F.entry_tuple_lt (RQ T hxp hyq (hL x hx y hy) ⟨_,rfl,?_⟩)))))
 exact Vf ⟨rfl,bq h⟩
end
section
variable{prog:VY}{w:VZ}{A:Va}{E:VX->Vb->Prop}{s:Vb}
noncomputable abbrev Sc(h:Heap)(a:Addr)(vs:List VX):Heap:=((h.update a (Wg fun _=>#[])).push (seqObj "tuple" vs.toArray 0)).push (seqObj "list" #[] 0)
theorem HW{a:Addr}{vs:List VX}{n:Nat}{P:Fin->Vb->Prop}{U:bZ->Prop}{rk:bZ->Int}(ho:s.heap.get? a=some (seqObj "list" vs.toArray n))(hz:vs.length<=1000000)(hkk:2<=vs.length->∀ Q:ba->Vb->Prop,Q oneType' { s with heap:=Sc s.heap a vs }->Vc (model prog w) A (keyKind' vs.toArray) Q E { s with heap:=Sc s.heap a vs })(hL:Bt prog w A E { s with heap:=Sc s.heap a vs } oneType' U rk)(hU:∀ p∈(cM vs).toList,U p)(key:∀ xs:Array bZ,xs.Perm (cM vs)->(2<=vs.length->CF rk xs 0 xs.size)->P (.done (.ret .none)) { s with heap:=cH s.heap a vs (xs.map (·.2)) }) :
  Vc (model prog w) A (Wm.«list.sort» ⟨[.ref a],[]⟩) P E s:=by
 rw[list_sort_plain]
 have hsl:WS=16777216:=rfl
 refine Ve (listItems_at ho rfl (Ve (cI ho rfl ?_ (by rw[List.size_toArray];exact AL 2 (.l Y0 (.n 1000000)) (.e Y1 (.n 16777216)) (.l Y0 Y1) [_,_] hz hsl) (by simp))))
 obtain⟨e1,ho1⟩:∃ e1,(s.heap.update a (Wg fun _=>#[])).get? a=some (seqObj "list" #[] e1):=⟨_,get?_update_seq ho (fun _=>#[])⟩
 refine Ve (cJ ho1 rfl (Ve (wpAny_newTuple (Ve (wpAny_newList (Vd ?_)) )) ))
 have ho6:(Sc s.heap a vs).get? a=some (seqObj "list" #[] e1):=AH _ _ (AH _ _ ho1)
 show Vc (model prog w) A _ P E { s with heap:=Sc s.heap a vs }
 dsimp only
 by_cases h2:vs.toArray.size<2
 .rw[if_pos h2,if_pos h2]
  refine Ve (WM ?_)
  rw[StateT.run_pure]
  refine Ve (WM ?_)
  dsimp only
  refine Ve (cJ ho6 rfl ?_)
  refine Ve (cI ho6 rfl ?_ (by simp) (by rw[cO];show(cM vs).size<=_;rw[cP];exact AL 2 (.l Y0 (.n 1000000)) (.e Y1 (.n 16777216)) (.l Y0 (.a Y1 N1)) [_,_] hz hsl))
  simp only[bne_self_eq_false,bv,if_false]
  exact WM (key (cM vs) (cR _) fun g=>absurd g (Nat.not_le.mpr h2))
 .rw[if_neg h2,if_neg h2]
  have h2':2<=vs.length:=WL.mp h2
  refine Ve (hkk h2' _ ?_)
  refine Ve (Vv (M9 hL (a₀:=cM vs) (st:=SortSt.mk' oneType' (vs.toArray.zip vs.toArray) #[] 7 none)
   (Q:=fun _ st'=>(arrOf st').Perm (cM vs)/\be st'=none/\CF rk (arrOf st') 0 (cM vs).size)
   hU (cR _) rfl rfl rfl (by rw[cP];exact Yi (Vo 1) h2') fun st' a1 a2 a3=>⟨a1,a2,a3⟩) ?_ fun _ _ e=>e)
  rintro⟨⟨⟩,st'⟩ s' ⟨rfl,hp,hf,hs⟩
  dsimp only
  refine Ve (cJ ho6 rfl ?_)
  refine Ve (cI ho6 rfl ?_ (by simp) (by rw[cO,hp.size_eq,cP];exact AL 2 (.l Y0 (.n 1000000)) (.e Y1 (.n 16777216)) (.l Y0 (.a Y1 N1)) [_,_] hz hsl))
  rw[hf]
  simp only[bne_self_eq_false,bv,if_false]
  exact WM (key _ hp fun _=>by rw[hp.size_eq];exact hs)
end
noncomputable abbrev BZ(C:Addr)(x:Tri):V:=.tup (some C) (RS x)
noncomputable def E7(h:Heap)(C:Addr)(v:VX):Tri:=open Classical in if e:∃ x,Ca h C x v then e.choose else (0,0,0)
theorem EO{h:Heap}{C:Addr}{x:Tri}{v:VX}(q:Ca h C x v):E7 h C v=x:=by
 unfold E7
 have e:∃ x,Ca h C x v:=⟨x,q⟩
 rw[dif_pos e]
 exact Gb e.choose_spec q
theorem E6{h:Heap}{C:Addr}:∀ {L:List Tri} {vs:List VX},AS h (L.map (BZ C)) vs->vs.map (E7 h C)=L/\∀ v∈vs,∃ x∈L,Ca h C x v
 | [],_,e=>by cases (e:_=[]);exact⟨rfl,fun _ q=>nomatch q⟩
 | x::L,_,⟨v,r,e,hv,hr⟩=>by
  subst e
  obtain⟨h1,h2⟩:=E6 hr
  refine⟨by rw[Vu,h1,EO hv],fun u hu=>?_⟩
  rcases Vq.mp hu with rfl|hu
  .exact⟨x,.head _,hv⟩
  .obtain⟨y,hy,q⟩:=h2 u hu;exact⟨y,.tail _ hy,q⟩
theorem Fw{h:Heap}{C:Addr}:∀ {vs:List VX},(∀ v∈vs,∃ x,Ca h C x v)->AS h ((vs.map (E7 h C)).map (BZ C)) vs
 | [],_=>rfl
 | v::vs,q=>by
  obtain⟨x,hx⟩:=q v (.head _)
  refine⟨v,vs,rfl,?_,Fw fun u hu=>q u (.tail _ hu)⟩
  rw[EO hx];exact hx
theorem MD{rk:bZ->Int}{xs:Array bZ}(h:CF rk xs 0 xs.size):xs.toList.Pairwise fun p q=>rk p<=rk q:=by
 rw[Yj]
 intro i j hi hj hij
 have:=h i j (W7 hij) (by simpa using hj)
 rw[cE,cE]at this
 unfold Rk at this
 rw[show xs[i]?=some xs.toList[i] by simp at hi ⊢,show xs[j]?=some xs.toList[j] by simp at hj ⊢]at this
 exact this
theorem Ni{α:Type}{R:α->α->Prop}:∀ {l:List α},l.length<2->l.Pairwise R
 | [],_=>.nil
 | [x],_=>List.pairwise_singleton _ x
 | _::_::_,h=>absurd h (by simp)
theorem PP{vs:List VX}:(vs.zip vs).map (·.2)=vs:=by induction vs with
 | nil=>rfl
 | cons v vs ih=>rw[List.zip_cons_cons,Vu,ih]
section
variable{prog:VY}{w:VZ}{A:Va}{E:VX->Vb->Prop}{s:Vb}{C:Addr}
theorem Cz{h h':Heap}{a:Addr}{e:Nat}{xs:Array VX}{x:Tri}{v:VX}(ho:h.get? a=some (seqObj "list" xs e))(hk:∀ b o,b≠a->h.get? b=some o->h'.get? b=some o)(q:Ca h C x v):Ca h' C x v:=by
 obtain⟨b,items,rfl,⟨o,n,hb,hc,hd⟩,hr⟩:=q
 refine⟨b,items,rfl,⟨o,n,hk b o (fun e=>?_) hb,hc,hd⟩,hr⟩
 subst e
 rw[ho]at hb
 cases hb
 cases hc
theorem NR{a:Addr}{vs:List VX}{L:List Tri}{n:Nat}{P:Fin->Vb->Prop}(ho:s.heap.get? a=some (seqObj "list" vs.toArray n))(hv:AS s.heap (L.map (BZ C)) vs)(hz:vs.length<64)(hu:A.units<cLine)(hT:∀ h':Heap,(∀ b o,b≠a->s.heap.get? b=some o->h'.get? b=some o)->TupX (model prog w) h' C)(hL:∀ x∈L,∀ y∈L,x.1=y.1->x=y)(h:∀ (out:Array VX) (L':List Tri),AS s.heap (L'.map (BZ C)) out.toList->L'.Perm L->L'.Pairwise (fun x y=>x.1<=y.1)->P (.done (.ret .none)) { s with heap:=cH s.heap a vs out }) :
  Vc (model prog w) A (Wm.«list.sort» ⟨[.ref a],[]⟩) P E s:=by
 obtain⟨hm1,hm2⟩:=E6 hv
 have hk6:∀ b o,b≠a->s.heap.get? b=some o->(Sc s.heap a vs).get? b=some o:=fun b o hb e=>AH _ _ (AH _ _ (DY b o hb e))
 have key:∀ xs:Array bZ,xs.Perm (cM vs)->(2<=vs.length->CF (LK (Sc s.heap a vs) C L) xs 0 xs.size)->P (.done (.ret .none)) { s with heap:=cH s.heap a vs (xs.map (·.2)) }:=fun xs hp hs=>by
  have hl:xs.toList.Perm (vs.zip vs):=by rw[<- pairsOf_toList];exact bg.mp hp
  have hmem:∀ p∈xs.toList,p.1=p.2/\p.1∈vs:=fun p hp'=>mem_zip_self (hl.mem_iff.mp hp')
  have hl2:(xs.map (·.2)).toList.Perm vs:=by have:=hl.map (·.2);rw[PP]at this;rw[Array.toList_map];exact this
  refine h _ ((xs.map (·.2)).toList.map (E7 s.heap C)) (Fw fun v hv'=>?_) (by rw[<- hm1];exact hl2.map _) ?_
  .obtain⟨x,_,q⟩:=hm2 v (hl2.mem_iff.mp hv');exact⟨x,q⟩
  .rcases Yp vs.length 2 with g|g
   .have:((xs.map (·.2)).toList.map (E7 s.heap C)).length<2:=by rw[V8,hl2.length_eq];exact g
    exact Ni this
   .rw[Array.toList_map,XC,XD]
    refine(MD (hs g)).imp_of_mem fun {p q} hp' hq' le=>?_
    obtain⟨p1,p2⟩:=hmem p hp'
    obtain⟨q1,q2⟩:=hmem q hq'
    obtain⟨x,hx,hxp⟩:=hm2 _ p2
    obtain⟨y,hy,hyq⟩:=hm2 _ q2
    rw[EN hx (Cz ho hk6 hxp),EN hy (Cz ho hk6 hyq)]at le
    show(E7 s.heap C p.2).1<=(E7 s.heap C q.2).1
    rw[<- p1,<- q1,EO hxp,EO hyq]
    exact VP.mp le
 refine HW ho (Yi (W7 hz) (by decide)) (fun h2' Q hq=>kas_kind (T:=.ref C) h2' (fun v hv'=>?_) rfl (by simp) hq) (N6 (L:=L) (hT _ hk6) hu hL) (fun p hp=>?_) key
 .obtain⟨x,_,q⟩:=hm2 v hv'
  obtain⟨b,items,rfl,ht,_⟩:=Cz ho hk6 q
  exact FW ht
 .rw[pairsOf_toList]at hp
  obtain⟨x,hx,q⟩:=hm2 p.1 (mem_zip_self hp).2
  exact⟨x,hx,Cz ho hk6 q⟩
end
section
variable{c:Ctx}{m:Lo}{H:Hp}{pos:Pos}{K:Frag}{Q:V->Lo->Hp->Prop}
theorem Ke{C a:Addr}{L:List Tri}{F:O->Hp}(hT:∀ h,K.In h->TupX (model c.prog c.w) h C)(B:Base c K)(sp:DF a (.list (L.map (BZ C))) H F)(hz:L.length<64)(hL:∀ x∈L,∀ y∈L,x.1=y.1->x=y)(h:∀ L':List Tri,L'.Perm L->L'.Pairwise (fun x y=>x.1<=y.1)->Q .none m (F (.list (L'.map (BZ C))))):Ck c (.bi "list.sort") [.ref a] m H Q:=fun s vf vvs R rf rv P k=>by
 cases (rf:vf=_)
 obtain⟨va,rfl,ra⟩:=rv.sole
 cases (ra:va=_)
 obtain⟨items,n,hl,hr⟩:=O.list_get (R.obj _ _ (sp.upd (.list [])).mem)
 have hlen:items.toList.length<64:=by rw[hr.length,V8];exact hz
 have hap:c.G a=.none:=(R.apart a (Vm.mpr ⟨_,(sp.upd (.list [])).mem,rfl⟩)).2
 have hl':s.heap.get? a=some (seqObj "list" items.toList.toArray n):=by simpa using hl
 refine YX slot_list_sort ⟨_,hl,rfl⟩ entry_list_sort (NR hl' hr hlen c.hu1 (fun h' hk=>hT h' (B.kin h' fun b o e=>hk b o (fun q=>by subst q;rw[hap]at e;cases e) (R.keep b o e))) hL fun out L' a1 a2 a3=>⟨_,rfl,?_⟩) (args_list_sort _)
 obtain⟨e,he⟩:=sortedHeap_at (out:=out) hl'
 have hs:∀ b ob,b≠a->s.heap.get? b=some ob->(cH s.heap a items.toList out).get? b=some ob:=fun b ob hb q=>(sortedHeap_old hb (WB q)).trans q
 have up:=sp.upd (.list (L'.map (BZ C)))
 have Fp':Fp c.env.locals H (F (.list (L'.map (BZ C)))) s.heap (cH s.heap a items.toList out):=.upd up hs ⟨_,he⟩
 exact k .none .none m _ _ (Bq s s.toks) (R.upd (Bq s s.toks) up hs ⟨_,he⟩ fun F=>O.list_mk he (R.liftL F a1)) Fp' rfl (h L' a2 a3)
end
theorem LW:mroOf (.type "map")=pure [.type "map",.type "object"]:=by rw[mroOf_type];kernel_rfl
theorem GY:Z0 (.type "map") "__new__" = pure (some (.builtin "map.__new__")):=by rw[Za,Zb];kernel_rfl
theorem PY:aa (.type "map") (.type "map")=pure true:=by rw[Zc];kernel_rfl
theorem HB:Slot "map" "__init__" "object.__init__":=
 .of (owner:="object") (n:="__init__") (by rw[Za,Zb];kernel_rfl) (by decide +kernel) (by decide +kernel) (by decide +kernel) (.inl (by decide +kernel)) (by rw[Zc];kernel_rfl)
theorem Dz:Slot "map" "__iter__" "map.__iter__":=
 .of (owner:="map") (n:="__iter__") (by rw[Za,Zb];kernel_rfl) (by decide +kernel) (by decide +kernel) (by decide +kernel) (.inl (by decide +kernel)) (by rw[Zc];kernel_rfl)
theorem Bw:Slot "map" "__next__" "map.__next__":=
 .of (owner:="map") (n:="__next__") (by rw[Za,Zb];kernel_rfl) (by decide +kernel) (by decide +kernel) (by decide +kernel) (.inl (by decide +kernel)) (by rw[Zc];kernel_rfl)
theorem Kv:TypeCalled "map" "map.__new__" "object.__init__":=
 ⟨by decide +kernel,by decide +kernel,⟨_,_,LW⟩,madeBy_type LW GY (by decide +kernel),by decide +kernel,by rw[Zc];kernel_rfl,HB⟩
theorem Fv(a b:VX):checkTypeCall "map" ⟨[a,b],[]⟩=pure ():=by kernel_rfl
theorem HE(a b:VX):ZK "map.__new__" ⟨[.type "map",a,b],[]⟩=pure ():=by kernel_rfl
theorem HM:YT table "map.__new__" = some Wm.«map.__new__»:=Zd (by kernel_rfl)
theorem De:YT table "map.__next__" = some Wm.«map.__next__»:=Zd (by kernel_rfl)
theorem Kb:Z0 (.type "map") "__len__" = pure none:=by rw[Za,Zb];kernel_rfl
theorem Ja:Z0 (.type "map") "__length_hint__" = pure none:=by rw[Za,Zb];kernel_rfl
theorem D4(a:VX):Ze "map.__next__" ⟨[a],[]⟩:=by unfold Ze;kernel_rfl
theorem HU(a:VX):Ze "map.__iter__" ⟨[a],[]⟩:=by unfold Ze;kernel_rfl
theorem KC(a b c:VX):Ze "object.__init__" ⟨[a,b,c],[]⟩:=by unfold Ze;kernel_rfl
theorem Gn:YT table "map.__iter__" = some Wm.«dict_keyiterator.__iter__»:=YU (id':="dict_keyiterator.__iter__") (by kernel_rfl) rfl (by decide +kernel) (by kernel_rfl)
section
open AutoSeq1 (wpAny_loadPart')
noncomputable abbrev GX(t:Addr)(f:VX):Obj:={ cls:=.type "map",data:=.fields #[.ref t,f] }
noncomputable abbrev Db(i:Addr):Obj:={ cls:=.type "tuple",data:=.seq #[.ref i] }
noncomputable abbrev CN(l:Addr):Obj:={ cls:=.type "list_iterator",data:=.fields #[.ref l,.int 0 0] }
set_option maxHeartbeats 1000000 in
theorem HG(f:VX)(l:Addr)(items:Array VX)(n:Nat)(dct:Option Addr)(sl:Array (Option VX)) :
  Meets (Wm.«map.__new__» ⟨[.type "map",f,.ref l],[]⟩) (fun _ R s=>s.heap.get? l=some { cls:=.type "list",dict:=dct,data:=.seq items n,slots:=sl } /\
   R (.ok (.ret (.ref ((s.heap.push (CN l)).push (Db s.heap.objs.size)).objs.size)))
    { s with heap:=((s.heap.push (CN l)).push (Db s.heap.objs.size)).push (GX (s.heap.push (CN l)).objs.size f) }):=
 .of_wp fun prog w A R s h=>by
  obtain⟨hp,g,d,tk,os⟩:=s;obtain⟨hl,h⟩:=h
  have hsub:=PY
  have hL:Heap.IsList (Shared.heap ⟨hp,g,d,tk,os⟩) l items:=⟨_,hl,rfl,n,rfl⟩
  unfold Wm.«map.__new__» Builtin.SmallTypes.newClass cV Builtin.SmallTypes.iterAll Builtin.SmallTypes.newRecord
  wp_walk using wpAny_loadPart' hl,WP hL
  exact⟨_,rfl,h⟩
structure MapAt(h:Heap)(M T I l:Addr)(f:VX)(i:Nat):Prop where
 map:h.get? M=some (GX T f)
 tup:h.get? T=some (Db I)
 it:h.IsListIter I l i
 mt:M≠I
 ti:T≠I
section
variable{prog:VY}{w:VZ}{A:Va}{E:VX->Vb->Prop}{s:Vb}
theorem Ou{l:Addr}{items:Array VX}{f:VX}{Q:VX->Vb->Prop}(hL:s.heap.IsList l items)(h:∀ h',MapAt h' (s.heap.objs.size+2) (s.heap.objs.size+1) s.heap.objs.size l f 0->(∀ b o,s.heap.get? b=some o->h'.get? b=some o)->h'.objs.size=s.heap.objs.size+3->Q (.ref (s.heap.objs.size+2)) { s with heap:=h' }) :
  Vc (model prog w) A (call (.type "map") [f,.ref l]) Q E s:=by
 obtain⟨⟨c,dct,dt,sl⟩,hl,hc,n,hd⟩:=hL
 replace hc:c=.type "list":=hc
 replace hd:dt=.seq items n:=hd
 subst hc hd
 refine callType_new Kv (by decide) (Fv _ _) (HE _ _) (fun obj=>KC obj _ _) HM (HG f l items n dct sl) ⟨hl,?_⟩
 have z1:(s.heap.push (CN l)).objs.size=s.heap.objs.size+1:=cW ..
 have z2:((s.heap.push (CN l)).push (Db s.heap.objs.size)).objs.size=s.heap.objs.size+2:=by rw[cW,z1]
 have z3:(((s.heap.push (CN l)).push (Db s.heap.objs.size)).push (GX (s.heap.objs.size+1) f)).objs.size=s.heap.objs.size+3:=by rw[cW,z2]
 show _/\_
 rw[z2,z1]
 have a1:(s.heap.push (CN l)).get? s.heap.objs.size=some (CN l):=WR _ rfl
 have a2:((s.heap.push (CN l)).push (Db s.heap.objs.size)).get? (s.heap.objs.size+1)=some (Db s.heap.objs.size):=by rw[<- z1];exact WR _ rfl
 have a3:(((s.heap.push (CN l)).push (Db s.heap.objs.size)).push (GX (s.heap.objs.size+1) f)).get? (s.heap.objs.size+2)=some (GX (s.heap.objs.size+1) f):=by rw[<- z2];exact WR _ rfl
 refine⟨⟨_,a3,rfl⟩,h _ ⟨a3,AH _ _ a2,⟨_,AH _ _ (AH _ _ a1),rfl,rfl⟩,XE (Ye (Z3 _)),XE (Z3 _)⟩ (fun b o x=>AH _ _ (AH _ _ (AH _ _ x))) z3⟩
theorem Nx{M T I l:Addr}{f x:VX}{i:Nat}{items:Array VX}{Q:Option VX->Vb->Prop}(a:MapAt s.heap M T I l f i)(hl:s.heap.IsList l items)(hx:items[i]?=some x)(hc:∀ h',MapAt h' M T I l f (i+1)->Vs I s.heap h'->Vc (model prog w) A.in1 (call f [x]) (fun v s'=>Q (some v) s') (fun _ _=>False) { s with heap:=h' }):Vc (model prog w) A (pyNext (.ref M)) Q E s:=by
 have hT:s.TypeIs (.ref M) "map":=⟨_,a.map,rfl⟩
 unfold pyNext
 refine Ve (Zo (YO (name:=YP "__next__") hT Bw (YX Bw hT De ?_ (D4 _))))
 show Vc _ _ (field (.ref M) 0 >>= _) _ _ s
 refine Ve (bI a.map rfl (x:=.ref T) rfl ?_)
 refine Ve (Zs a.tup rfl ?_)
 dsimp only
 refine Ve ?_
 show Vc _ _ (forIn #[Zz I] (#[]:Array VX) fun it __s=>do
      let __do_lift <- V2 __s.toList (cX it)
      pure (XH (__s.push __do_lift))) _ _ _
 rw[<- cY]
 show Vc _ _ (forIn [Zz I] (#[]:Array VX) fun it __s=>do
      let __do_lift <- V2 __s.toList (cX it)
      pure (XH (__s.push __do_lift))) _ _ _
 rw[XK]
 refine Ve (Ve (Vd (wpAny_nextOf_list_item a.it hl hx fun h' hit hs=>?_)))
 refine WM ?_
 dsimp only
 rw[List.forIn_nil]
 refine WM ?_
 have a':MapAt h' M T I l f (i+1):=⟨(hs.2 M a.mt).trans a.map,(hs.2 T a.ti).trans a.tup,hit,a.mt,a.ti⟩
 refine Ve (bI a'.map rfl (x:=f) rfl ?_)
 refine Ve (Vd (Vv (hc h' a' hs) (fun v s' q=>?_) fun _ _ q=>q.elim))
 exact Ve (wpAny_letGo (WM ⟨v,rfl,WM q⟩))
theorem Po{M T I l:Addr}{f:VX}{i:Nat}{items:Array VX}{Q:Option VX->Vb->Prop}(hh:A.handled=.none)(a:MapAt s.heap M T I l f i)(hl:s.heap.IsList l items)(hx:items[i]?=.none)(hQ:∀ h',bH I s.heap h'->Q none { s with heap:=h' }):Vc (model prog w) A (pyNext (.ref M)) Q E s:=by
 have hT:s.TypeIs (.ref M) "map":=⟨_,a.map,rfl⟩
 unfold pyNext
 refine Ve (Zo (YO (name:=YP "__next__") hT Bw (YX Bw hT De ?_ (D4 _))))
 show Vc _ _ (field (.ref M) 0 >>= _) _ _ s
 refine Ve (bI a.map rfl (x:=.ref T) rfl ?_)
 refine Ve (Zs a.tup rfl ?_)
 dsimp only
 refine Ve ?_
 show Vc _ _ (forIn #[Zz I] (#[]:Array VX) fun it __s=>do
      let __do_lift <- V2 __s.toList (cX it)
      pure (XH (__s.push __do_lift))) _ _ _
 rw[<- cY]
 show Vc _ _ (forIn [Zz I] (#[]:Array VX) fun it __s=>do
      let __do_lift <- V2 __s.toList (cX it)
      pure (XH (__s.push __do_lift))) _ _ _
 rw[XK]
 refine Ve (Ve (Vd (wpAny_nextOf_list_end hh a.it hl hx fun h' e he ho=>?_)))
 refine Ve (Zm (T:="StopIteration") (b:=true) (ho.elim fun o t9=>t9.elim fun ho hc=>⟨o,ho,hc⟩) Zn ?_)
 exact WM (hQ h' he)
end
section
variable{c:Ctx}{m:Lo}{H:Hp}
theorem Ctx.deeper(c:Ctx){k:Nat}(hf:c.fuel=k+1)(A':Va)(h1:A'.handled=c.A.handled)(h2:A'.depth=c.A.depth)(h3:A'.units<=c.A.units+30):∃ c2:Ctx,Made c c2/\c2.fuel=k/\c2.A=A':=
 ⟨⟨c.prog,c.w,A',c.env,c.G,k,h1.trans c.hh,by have:=c.hd;rw[hf]at this;rw[h2];exact AJ 3 (.t (.a Y0 (.a Y1 N1)) Y2) (.t (.a Y0 Y1) Y2) [_,_,_] this,by have:=c.hu;rw[hf]at this;exact AL 4 (.l Y0 (.a Y1 (.n 30))) (.t (.a (.a Y1 (.m 40 (.a Y2 N1))) (.n 400)) Y3) (.t (.a (.a Y0 (.m 40 Y2)) (.n 400)) Y3) [_,_,_,_] h3 this,c.hk⟩,⟨rfl,rfl,hf,rfl,rfl⟩,rfl,rfl⟩
noncomputable def It(c:Ctx)(H:Hp)(l:List Addr):Prop:=∀ b∈l,b∉dom H/\b≠c.env.locals/\c.G b=.none
structure ExtJ(c:Ctx)(m:Lo)(H:Hp)(S M T I l:Addr)(f:VX)(ys:List V)(h0:Heap)(s0:Vb)(i:Nat)(s:Vb):Prop where
 st:∃ h tk,s=sw s0 h tk
 rel:Rel c ⟨m,H⟩ s
 fp:Fp c.env.locals H H h0 s.heap
 map:MapAt s.heap M T I l f i
 lst:∃ acc e,s.heap.get? S=some { cls:=.type "list",dict:=none,data:=.seq acc e,slots:=#[] }/\AS s.heap (ys.take i) acc.toList
theorem E2{h:Heap}{l:List Addr}{b:Addr}{o:Obj}(ap:It c H l)(hb:b∈l)(ho:h.get? b=some o)(nt:E5 o):Aj c H h [b]:=fun x hx=>by
 rw[XQ]at hx
 subst hx
 obtain⟨a1,a2,a3⟩:=ap x hb
 exact⟨a1,a2,a3,o,ho,nt⟩
theorem IT{k:Nat}(hf:c.fuel=k+1){S M T I l:Addr}{F:At}{f:VX}{xs:List V}{g:V->V}{h0:Heap}{s0:Vb}{R:XF->Vb->Prop}{A:Va}(hA1:A.handled=c.A.handled)(hA2:A.depth=c.A.depth)(hA3:A.units<=c.A.units+20)(ap:It c H [S,M,T,I])(hnew:∀ b∈[S,M,T,I],h0.get? b=.none)(hSI:S≠I)(hSM:S≠M)(hST:S≠T)(hx:AK c H l (.list xs))(hz:xs.length<=1000)(hF:F.rep f)(hcall:∀ c2,Made c c2->c2.fuel=k->∀ u∈xs,∀ Q:V->Lo->Hp->Prop,Q (g u) m H->Ck c2 (.at F) [u] m H Q)(fin:∀ s',(∃ h tk,s'=sw s0 h tk)->Rel c ⟨m,H⟩ s'->Fp c.env.locals H H h0 s'.heap->(∃ acc e,s'.heap.get? S=some { cls:=.type "list",dict:=none,data:=.seq acc e,slots:=#[] }/\AS s'.heap (xs.map g) acc.toList)->R (.ok (.ret .none)) s') :
  ∀ n i s,xs.length-i=n->i<=xs.length->ExtJ c m H S M T I l f (xs.map g) h0 s0 i s->Wq (model c.prog c.w) A (.builtin "list.extend.loop" ⟨[.ref S,.ref M,.none],[]⟩) R s:=by
 intro n
 induction n with
 | zero=>
  intro i s hn hi J
  have hin:i=xs.length:=by exact AL 2 (.e (.s Y0 Y1) (.n 0)) (.l Y1 Y0) (.e Y1 Y0) [_,_] hn hi
  subst hin
  obtain⟨acc,e,hS,hr⟩:=J.lst
  obtain⟨items,nl,hl,hrx⟩:=O.list_get (hx m s J.rel)
  have hlen:items.size=xs.length:=by rw[<- V9,hrx.length]
  refine ZP cZ ?_
  rw[ZQ ca _]
  show Vc _ A.in1 (pyNext (.ref M) >>= _) _ _ s
  refine Ve (Po (hA1.trans c.hh) J.map (IsL.isList hl) (by simp[hlen]) fun h' he=>?_)
  obtain⟨oi,hoi,hci,hdi⟩:=J.map.it
  have aI:Aj c H s.heap [I]:=E2 ap (by simp) hoi (fun k items n q=>by rw[hdi]at q;cases q.2)
  have hk:∀ b o,b∉[I]->s.heap.get? b=some o->h'.get? b=some o:=fun b o hb q=>he b o (fun e=>hb (by rw[e];simp)) q
  refine WM (fin _ (by obtain⟨h1,tk1,e1⟩:=J.st;exact⟨h',tk1,by rw[e1]⟩) (J.rel.off2 (Bq s s.toks) aI hk) ?_ ⟨acc,e,hk S _ (by simpa using hSI) hS,?_⟩)
  .exact J.fp.off (fp:=[I]) (fun b hb=>hnew b (by simp at hb;simp[hb])) hk
  .rw[aH (by simp)]at hr
   exact Br aI hk hr
 | succ n ih=>
  intro i s hn hi J
  have hlt:i<xs.length:=by exact AJ 3 (.e (.s Y0 Y1) (.a Y2 N1)) (.t Y1 Y0) [_,_,_] hn
  obtain⟨acc,e,hS,hr⟩:=J.lst
  obtain⟨items,nl,hl,hrx⟩:=O.list_get (hx m s J.rel)
  have hlen:items.size=xs.length:=by rw[<- V9,hrx.length]
  obtain⟨v,hv,rv⟩:=hrx.get (show xs[i]?=some xs[i] by simp[hlt])
  rw[WO]at hv
  obtain⟨oi,hoi,hci,hdi⟩:=J.map.it
  have aI:Aj c H s.heap [I]:=E2 ap (by simp) hoi (fun k items n q=>by rw[hdi]at q;cases q.2)
  refine ZP cZ ?_
  rw[ZQ ca _]
  show Vc _ A.in1 (pyNext (.ref M) >>= _) _ _ s
  refine Ve (Nx J.map (IsL.isList hl) hv fun h' mp hs=>?_)
  have hk:∀ b o,b∉[I]->s.heap.get? b=some o->h'.get? b=some o:=fun b o hb q=>(hs.2 b (by simpa using hb)).trans q
  have R1:Rel c ⟨m,H⟩ { s with heap:=h' }:=J.rel.off2 (Bq s s.toks) aI hk
  have F1:Fp c.env.locals H H h0 h':=J.fp.off (fp:=[I]) (fun b hb=>hnew b (by simp at hb;simp[hb])) hk
  have hS1:h'.get? S=some { cls:=.type "list",dict:=none,data:=.seq acc e,slots:=#[] }:=hk S _ (by simpa using hSI) hS
  have hr1:AS h' ((xs.map g).take i) acc.toList:=Br aI hk hr
  have rv1:(xs[i]).rep h' v:=CT aI hk rv
  obtain⟨c2,M2,hk2,hA⟩:=c.deeper hf A.in1.in1 hA1 hA2 (by show A.units+1+1<=_;exact AJ 2 (.l Y0 (.a Y1 (.n 20))) (.l (.a (.a Y0 N1) N1) (.a Y1 (.n 30))) [_,_] hA3)
  have run:=hcall c2 M2 hk2 xs[i] (ZJ hlt) (fun v' m' H'=>v'=g xs[i]/\m'=m/\H'=H) ⟨rfl,rfl,rfl⟩ _ f [v] (M2.rel.mp R1) hF (.one rv1)
  have run':=run (fun v' s'=>∃ h2 tk2,s'=sw { s with heap:=h' } h2 tk2/\Rel c ⟨m,H⟩ s'/\Fp c.env.locals H H h' h2/\(g xs[i]).rep h2 v') fun b v' m' H' h2 tk2 R2 F2 r2 q2=>by
   obtain⟨rfl,rfl,rfl⟩:=q2
   exact⟨h2,tk2,rfl,M2.rel.mpr R2,by have:=F2;rw[M2.env]at this;exact this,r2⟩
  have run2:Vc (model c.prog c.w) A.in1.in1 (call f [v]) (fun v' s'=>∃ h2 tk2,s'=sw { s with heap:=h' } h2 tk2/\Rel c ⟨m,H⟩ s'/\Fp c.env.locals H H h' h2/\(g xs[i]).rep h2 v') (fun _ _=>False) { s with heap:=h' }:=by
   have:=run'
   unfold Ctx.wp at this
   rw[M2.prog,M2.w,hA]at this
   exact this
  refine Vv run2 (fun v' s' q=>?_) fun _ _ q=>q
  obtain⟨h2,tk2,rfl,R2,F2,r2⟩:=q
  obtain⟨p1,p2,_⟩:=ap S (by simp)
  obtain⟨q1,q2,_⟩:=ap M (by simp)
  obtain⟨t1,t2,_⟩:=ap T (by simp)
  obtain⟨i1,i2,_⟩:=ap I (by simp)
  have hS2:h2.get? S=some { cls:=.type "list",dict:=none,data:=.seq acc e,slots:=#[] }:=F2.keep _ _ p1 p2 hS1
  have hr2:AS h2 ((xs.map g).take i) acc.toList:=R1.liftL F2 hr1
  have mp2:MapAt h2 M T I l f (i+1):=⟨F2.keep _ _ q1 q2 mp.map,F2.keep _ _ t1 t2 mp.tup,mp.it.elim fun o t9=>t9.elim fun ho z=>⟨o,F2.keep _ _ i1 i2 ho,z⟩,mp.mt,mp.ti⟩
  have aS:Aj c H h2 [S]:=E2 ap (by simp) hS2 (fun k items n q=>by cases k<;>exact absurd q.1 (by unfold Ef;simp))
  have hk3:∀ b o,b∉[S]->h2.get? b=some o->(h2.update S (Wg (·.push v'))).get? b=some o:=fun b o hb q=>DY b o (by simpa using hb) q
  have hacc:acc.size=i:=by rw[<- V9,hr.length,cb,V8];exact AJ 2 (.t Y0 Y1) (.e (.mn Y0 Y1) Y0) [_,_] hlt
  have hsl:WS=16777216:=rfl
  show Vc _ A.in1 (updateSeq S (·.push v') >>= _) _ _ _
  refine Ve (ce hS2 rfl (WM ⟨ZN ca _,ih (i+1) _ (by exact AJ 3 (.e (.s Y0 Y1) (.a Y2 N1)) (.e (.s Y0 (.a Y1 N1)) Y2) [_,_,_] hn) hlt ⟨?_,?_,?_,?_,?_⟩⟩) (by exact PL 4 (.l Y0 (.n 1000)) (.t Y1 Y0) (.e Y2 Y1) (.e Y3 (.n 16777216)) (.l Y2 Y3) [_,_,_,_] hz hlt hacc hsl) (by rw[Array.size_push];exact PL 4 (.l Y0 (.n 1000)) (.t Y1 Y0) (.e Y2 Y1) (.e Y3 (.n 16777216)) (.l (.a Y2 N1) (.a Y3 N1)) [_,_,_,_] hz hlt hacc hsl))
  .obtain⟨h1,tk1,e1⟩:=J.st;exact⟨_,tk2,by rw[e1]⟩
  .exact R2.off2 ⟨tk2.toks,tk2.drawn,tk2.gens⟩ aS hk3
  .exact(F1.trans R1.hasL F2).off (fp:=[S]) (fun b hb=>hnew b (by simp at hb;simp[hb])) hk3
  .exact⟨hk3 M _ (by simpa using Wf hSM) mp2.map,hk3 T _ (by simpa using Wf hST) mp2.tup,mp2.it.elim fun o t9=>t9.elim fun ho z=>⟨o,hk3 I _ (by simpa using Wf hSI) ho,z⟩,mp2.mt,mp2.ti⟩
  .refine⟨acc.push v',_,ZD _ hS2 rfl,?_⟩
   rw[Wl]
   have e1:(xs.map g).take (i+1)=(xs.map g).take i++[g xs[i]]:=by rw[cf];simp[hlt]
   rw[e1]
   exact(Br aS hk3 hr2).append (.one (CT aS hk3 r2))
end
end
section
variable{c:Ctx}{m:Lo}{H:Hp}{pos:Pos}
theorem TF{s s0:Vb}(st:∃ h tk,s=sw s0 h tk)(h':Heap)(tk':Tk):∃ h tk,sw s h' tk'=sw s0 h tk:=by obtain⟨h,tk,rfl⟩:=st;exact⟨h',tk',rfl⟩
theorem HR{k:Nat}(hf:c.fuel=k+1){M T I l:Addr}{F:At}{f:VX}{xs:List V}{g:V->V}{h0:Heap}{s s0:Vb}{P:VX->Vb->Prop}(st:∃ h tk,s=sw s0 h tk)(R:Rel c ⟨m,H⟩ s)(F0:Fp c.env.locals H H h0 s.heap)(mp:MapAt s.heap M T I l f 0)(ap:It c H [M,T,I])(hnew:∀ b∈[M,T,I],h0.get? b=.none)(h0s:∀ b,h0.get? b≠.none->s.heap.get? b≠.none)(hx:AK c H l (.list xs))(hz:xs.length<=1000)(hF:F.rep f)(hcall:∀ c2,Made c c2->c2.fuel=k->∀ u∈xs,∀ Q:V->Lo->Hp->Prop,Q (g u) m H->Ck c2 (.at F) [u] m H Q)(fin:∀ S s',(∃ h tk,s'=sw s0 h tk)->Rel c ⟨m,H⟩ s'->Fp c.env.locals H H h0 s'.heap->h0.get? S=.none->S∉dom H/\S≠c.env.locals/\c.G S=.none->(∃ acc e,s'.heap.get? S=some { cls:=.type "list",dict:=none,data:=.seq acc e,slots:=#[] }/\AS s'.heap (xs.map g) acc.toList)->P (.ref S) s') :
  Vc (model c.prog c.w) c.A (call (.type "list") [.ref M]) P (fun _ _=>False) s:=by
 have hS0:s.heap.get? s.heap.objs.size=.none:=AR _
 have hSn:h0.get? s.heap.objs.size=.none:=by
  cases q:h0.get? s.heap.objs.size with
  | none=>rfl
  | some o=>exact absurd hS0 (h0s _ (by rw[q];exact fun e=>nomatch e))
 have apS:=R.fresh hS0
 have ap4:It c H [s.heap.objs.size,M,T,I]:=fun b hb=>by
  rcases Vq.mp hb with rfl|hb
  .exact apS
  .exact ap b hb
 have hnew4:∀ b∈[s.heap.objs.size,M,T,I],h0.get? b=.none:=fun b hb=>by
  rcases Vq.mp hb with rfl|hb
  .exact hSn
  .exact hnew b hb
 have lt:∀ {b:Addr} {o:Obj},s.heap.get? b=some o->s.heap.objs.size≠b:=fun e=>XE (WB e)
 have nM:=lt mp.map
 have nT:=lt mp.tup
 have nI:s.heap.objs.size≠I:=by obtain⟨o,ho,_⟩:=mp.it;exact lt ho
 have g1:∀ b o,s.heap.get? b=some o->(s.heap.push { cls:=.type "list",data:=.seq #[] }).get? b=some o:=AH
 refine callType_codes (Q₁:=fun obj s₁=>obj=.ref s.heap.objs.size/\s₁={ s with heap:=s.heap.push { cls:=.type "list",data:=.seq #[] } }) PySem.F.called_list (PySem.F.typeCall_list_1 _) PySem.F.entry_list_init (code_list_new _ ⟨rfl,rfl⟩) fun obj s₁ h₁=>?_
 obtain⟨rfl,rfl⟩:=h₁
 have hS:(s.heap.push { cls:=.type "list",data:=.seq #[] }).get? s.heap.objs.size=some { cls:=.type "list",data:=.seq #[] }:=WR _ rfl
 refine⟨⟨_,hS,rfl⟩,PySem.F.args_list_init_2 _ _,?_⟩
 show Vc _ c.A.in1.in1 (do let old <- cg (.ref s.heap.objs.size);Builtin.List.listUpdate (.ref s.heap.objs.size) (fun _=>#[]);letGo old.toList.reverse;ch (.ref s.heap.objs.size) (.ref M) .none) _ _ _
 refine Ve ?_
 unfold cg
 refine Ve (Zs hS rfl (WM ?_))
 refine Ve ?_
 show Vc _ _ (updateSeq s.heap.objs.size fun _=>#[]) _ _ _
 refine ce hS rfl ?_
 have hS2:=ZD (Wg (fun _=>(#[]:Array VX))) hS rfl
 refine Ve (wpAny_letGo ?_)
 have k2:∀ b o,b≠s.heap.objs.size->s.heap.get? b=some o->((s.heap.push { cls:=.type "list",data:=.seq #[] }).update s.heap.objs.size (Wg fun _=>#[])).get? b=some o:=fun b o hb e=>DY b o hb (g1 b o e)
 have m2:=k2 M _ nM.symm mp.map
 have hTy:ZU { s with heap:=(s.heap.push { cls:=.type "list",data:=.seq #[] }).update s.heap.objs.size (Wg fun _=>#[]) } (.ref M) "map":=⟨_,m2,rfl⟩
 unfold ch
 refine Ve (wpAny_typeOf hTy ?_)
 have q1:ci (.ref s.heap.objs.size) (.ref M)=false:=by simp[ci,nM]
 have q2:(az "map" == az "list")=false:=by decide
 have q3:(az "map" == az "tuple")=false:=by decide
 repeat (first|rw[q1]|rw[q2]|rw[q3]|rw[Bool.or_false]|rw[Bool.false_or]|rw[if_neg ab])
 refine Ve (YV hTy Dz (YX Dz hTy Gn ?_ (HU _)))
 show Vc _ _ (ret (.ref M)) _ _ _
 refine WM ⟨_,rfl,"map",_,hTy,Bw.lookup,?_⟩
 refine Ve (Vd ?_)
 unfold Builtin.List.listLengthHint
 refine Ve (aU hTy Kb ?_)
 show Vc _ _ (av (Zz M) (YP "__length_hint__") >>= _) _ _ _
 refine Ve (aU hTy Ja ?_)
 refine WM ?_
 show Vc _ _ (rule "list.extend.makes-room" >>= fun _=>Builtin.List.listTouch (.ref s.heap.objs.size) >>= fun _=>again (.builtin "list.extend.loop" ⟨[.ref s.heap.objs.size,.ref M,.none],[]⟩)) _ _ _
 refine Ve (ZH (Ve ?_))
 show Vc _ _ (updateSeq s.heap.objs.size (·.push .none) >>= fun _=>updateSeq s.heap.objs.size (·.pop)) _ _ _
 refine Ve (ce hS2 rfl ?_)
 have hS3:=ZD (Wg (·.push ZZ)) hS2 rfl
 refine ce (hz:=by seq_fits) hS3 rfl ?_
 have hS4:=ZD (Wg (·.pop)) hS3 rfl
 have k4:∀ b o,s.heap.get? b=some o->((((s.heap.push { cls:=.type "list",data:=.seq #[] }).update s.heap.objs.size (Wg fun _=>#[])).update s.heap.objs.size (Wg (·.push ZZ))).update s.heap.objs.size (Wg (·.pop))).get? b=some o:=fun b o e=>
  have nb:b≠s.heap.objs.size:=(lt e).symm
  DY b o nb (DY b o nb (k2 b o nb e))
 refine WM ⟨ZN ca _,?_⟩
 refine IT (c:=c) (m:=m) (H:=H) hf (S:=s.heap.objs.size) (M:=M) (T:=T) (I:=I) (l:=l) (F:=F) (f:=f) (xs:=xs) (g:=g) (h0:=h0) (s0:=s0) (A:=c.A.in1) rfl rfl (by show c.A.units+1<=_;exact Bh 1 (.l (.a Y0 N1) (.a Y0 (.n 20))) [_]) ap4 hnew4 nI nM nT hx hz hF hcall (fun s' st' R' F' hl=>?_) xs.length 0 _ rfl (WJ _) ⟨TF st _ (Bq s s.toks),R.grow (Bq s s.toks) k4,F0.trans R.hasL (.grow k4),⟨k4 _ _ mp.map,k4 _ _ mp.tup,mp.it.elim fun o t9=>t9.elim fun ho z=>⟨o,k4 _ _ ho,z⟩,mp.mt,mp.ti⟩,⟨_,_,hS4,?_⟩⟩
 .exact⟨rfl,fin _ s' st' R' F' hSn apS hl⟩
 .show AS _ [] _
  exact(rfl:([]:List VX)=[])
theorem Kp{k:Nat}(hf:c.fuel=k+1)(gl:An c "list" (.ty "list"))(gm:An c "map" (.ty "map")){p1 p2 p3:Pos}{fe xe:Expr}{Q:V->Lo->Hp->Prop}(h:Af c fe m H fun F m1 H1=>Af c xe m1 H1 fun u m2 H2=>∃ Fa l xs g,F=.at Fa/\u=.ref l/\AK c H2 l (.list xs)/\xs.length<=1000/\(∀ c2,Made c c2->c2.fuel=k->∀ v∈xs,∀ Q:V->Lo->Hp->Prop,Q (g v) m2 H2->Ck c2 (.at Fa) [v] m2 H2 Q)/\∀ a,Q (.ref a) m2 ((a,.list (xs.map g))::H2))(he1:autoParam (V3 [.Call (.Name ("map":Str) p2) [fe,xe] [] p3] c.env=[(false,eval (.Call (.Name ("map":Str) p2) [fe,xe] [] p3) c.env)]) AV)(he2:autoParam (V3 [fe,xe] c.env=[(false,eval fe c.env),(false,eval xe c.env)]) AV) :
  Af c (.Call (.Name ("list":Str) p1) [.Call (.Name ("map":Str) p2) [fe,xe] [] p3] [] pos) m H Q:=fun s R P kont=>by
 refine Call_Name1 (Vz c.hk gl.1 (gl.2 s.heap R.keep s _ rfl fun vf hvf=>?_) (by decide)) he1
 cases (hvf:vf=_)
 refine Ya rfl (Yb (Yc ?_))
 refine Call_Name2 (Vz c.hk gm.1 (gm.2 s.heap R.keep s _ rfl fun vf hvf=>?_) (by decide)) he2
 cases (hvf:vf=_)
 refine Ya rfl (Yb (Yc (h s R _ fun F vF m1 H1 h1 tk1 R1 F1 r1 q1=>Yc (q1 _ R1 _ fun u vu m2 H2 h2 tk2 R2 F2 r2 q2=>Yd ?_))))
 obtain⟨Fa,l,xs,g,rfl,rfl,hx,hz,hcall,q⟩:=q2
 have rF:Fa.rep vF:=r1
 cases (r2:vu=_)
 obtain⟨items,n,hl,hr⟩:=O.list_get (hx m2 _ R2)
 refine Ou (IsL.isList hl) fun h3 mp hg hsz=>Yd ?_
 have sz:∀ b,h2.objs.size<=b->h2.get? b=.none:=fun b hb=>Bk hb
 have R3:Rel c ⟨m2,H2⟩ (sw s h3 tk2):=R2.grow tk2 hg
 have F3:Fp c.env.locals H2 H2 h2 h3:=.grow hg
 refine HR hf (h0:=h2) (s0:=s) ⟨h3,tk2,rfl⟩ R3 F3 mp (fun b hb=>?_) (fun b hb=>?_) (fun b hb=>?_) hx hz rF hcall fun S s' st4 R4 F4 hSn apS hlst=>?_
 .refine R2.fresh (sz b ?_)
  rcases Vq.mp hb with rfl|hb
  .show h2.objs.size<=h2.objs.size+2;exact Bh 1 (.l Y0 (.a Y0 (.n 2))) [_]
  rcases Vq.mp hb with rfl|hb
  .show h2.objs.size<=h2.objs.size+1;exact Bh 1 (.l Y0 (.a Y0 N1)) [_]
  rw[XQ.mp hb]
  exact Vn _
 .refine sz b ?_
  rcases Vq.mp hb with rfl|hb
  .show h2.objs.size<=h2.objs.size+2;exact Bh 1 (.l Y0 (.a Y0 (.n 2))) [_]
  rcases Vq.mp hb with rfl|hb
  .show h2.objs.size<=h2.objs.size+1;exact Bh 1 (.l Y0 (.a Y0 N1)) [_]
  rw[XQ.mp hb]
  exact Vn _
 .cases q:h2.get? b with
  | none=>exact absurd q hb
  | some o=>rw[show(sw s h3 tk2).heap.get? b=some o from hg b o q];exact fun e=>nomatch e
 .obtain⟨acc,e,hS,hra⟩:=hlst
  obtain⟨h4,tk4,rfl⟩:=st4
  have F24:Fp c.env.locals H2 ((S,.list (xs.map g))::H2) h2 h4:=⟨F4.keep,fun b hb=>(by
   rcases Vq.mp hb with e|e
   .exact .inr (by rw[show b=S from e];exact hSn)
   .exact .inl e),F4.alive⟩
  exact kont (.ref S) _ m2 _ h4 tk4 (R4.adopt (o:=.list (xs.map g)) apS.1 apS.2.1 apS.2.2 ⟨acc,⟨_,hS,rfl,e,rfl⟩,⟨_,hS,rfl,rfl⟩,hra⟩) ((F1.trans R1.hasL F2).trans R2.hasL F24) rfl (q S)
end
section
variable{prog:VY}{w:VZ}{A:Va}{E:VX->Vb->Prop}{s:Vb}{C t:Addr}{items:Array VX}
theorem En{T id:String}{name:Str}{args:List VX}{Q:Option VX->Vb->Prop}{v:VX}(hl:Wc (model prog w) s.heap (av v name) (some (.builtin id)))(hb:Slot T name id)(hc:Vc (model prog w) A (call (.builtin id) (v::args)) (fun v=>Q (some v)) E s):Vc (model prog w) A (ay v name args) Q E s:=by
 unfold ay
 refine Ve (hl.here ?_)
 dsimp only
 rw[hb.bind]
 refine Vd (Ve (WM ?_))
 exact Ve (Vv hc (fun v s' h'=>WM h') fun _ _ h'=>h')
theorem OB{Q:VX->Vb->Prop}(ht:Bg s.heap (some C) t items)(T:TupX (model prog w) s.heap C)(hz:items.size<=1000)(h:∀ u k,Q (.int items.size u) { s with toks:=k }):Vc (model prog w) A (call (.builtin "len") [.ref t]) Q E s:=by
 obtain⟨o,n,ho,hc,hd⟩:=id ht
 refine call_function_entry kind_len plain_len entry_len (args_len1 _) ?_
 unfold Wm.«len»
 refine Ve (m:=oneArg "len" _) (WM ?_)
 refine Ve (m:=ay (.ref t) (YP "__len__")) (En (Bi ht T.len) ck (EM ht T NH L6 ck.plain (PySem.F.args_tuple_len_1 _) PySem.F.entry_tuple_len ?_))
 unfold Wm.«tuple.__len__» cF
 refine Ve (m:=slotArgs "__len__" 0 _) (WM ?_)
 refine Ve (Ve (Zs ho hd (WM ?_)))
 refine Ve (wpAny_mkInt (WM ⟨_,rfl,?_⟩))
 dsimp only
 refine Ve (Vd (WM ?_))
 refine Ve (wpAny_letGo ?_)
 rw[if_neg (aF.mpr (VO _)),if_neg (Int.not_le.mpr (ON (Yi hz (by decide))))]
 exact Ve (wpAny_mkInt (WM ⟨_,rfl,h _ _⟩))
end
section
variable{c:Ctx}{m:Lo}{H:Hp}{pos:Pos}{K:Frag}{Q:V->Lo->Hp->Prop}
theorem O5{C p fa:Addr}{mc:VX}{name:Str}{rest:List VX}(B:Base c K)(hr:readsIn K C mc=true)(e:aw K (.ref C) mc name=some (.get (.builtin "classmethod.__get__") (.ref p) .none (.ref C)))(hp:recIn K p "classmethod" = some (.ref fa::rest))(h:∀ f,Q (.ref f) m ((f,.obj (methodObj (.ref fa) (.ref C)))::H)):PJ c (.ref C) name m H Q:=fun s va R r=>by
 cases (r:va=_)
 refine .new R h fun P k=>cls_bind (B.kin _ R.keep) hr e (Wr (cm_get (s:={ s with toks:=s.toks+1 }) (B.kin _ R.keep) hp (handed_on rfl ?_)))
 exact k s.heap.objs.size _ (s.heap.push (methodObj (.ref fa) (.ref C))) (s.toks+1) AH (AR _) ⟨WR _ rfl,trivial⟩ rfl
theorem Ov{f fa C:Addr}{vs:List V}(hf:AK c H f (.obj (methodObj (.ref fa) (.ref C))))(h:Ao c (.ref fa) (.ref C::vs) m H Q):Ao c (.ref f) vs m H Q:=fun s vf vvs R rf rv P k=>by
 cases (rf:vf=_)
 obtain⟨ho,_⟩:=hf m s R
 exact method_call ho (h s _ _ R rfl (.cons rfl rv) P k)
theorem Kf{C:Addr}{xs:List At}(hT:∀ h,K.In h->TupX (model c.prog c.w) h C)(B:Base c K)(hz:xs.length<=1000)(h:Q (.int xs.length) m H):Ck c (.bi "len") [.tup (some C) xs] m H Q:=fun s vf vvs R rf rv=>by
 cases (rf:vf=_)
 obtain⟨va,rfl,ra⟩:=rv.sole
 obtain⟨a,items,rfl,ht,hr⟩:=ra
 have hl:items.size=xs.length:=by rw[<- V9,hr.length]
 exact .val R h fun P k=>OB ht (hT _ (B.kin _ R.keep)) (by rw[hl];exact hz) fun u t=>k _ t ⟨u,by rw[hl]⟩
end
section
variable{c:Ctx}{m:Lo}{H:Hp}{pos:Pos}
theorem ND{a:Addr}{xs:List V}{Q:Bool->Lo->Hp->Prop}(ha:AK c H a (.list xs))(hz:xs.length<=1000000)(h:Q (!xs.isEmpty) m H):RL c (.ref a) m H Q:=fun s va R r=>by
 cases (r:va=_)
 obtain⟨items,n,hl,hr⟩:=O.list_get (ha m s R)
 have hlen:items.size=xs.length:=by rw[<- V9,hr.length]
 have he:items.isEmpty=xs.isEmpty:=by
  unfold Array.isEmpty
  rw[hlen]
  cases xs<;>simp
 exact .val R h fun P k=>wpAny_truthy_list (IsL.isList hl) (ON (Yi (Z5 hlen) hz)) (k _ _ (by rw[he];rfl))
theorem Tc{a:Addr}{xs:List V}{x:V}{H':Hp}{Q:V->Lo->Hp->Prop}(up:Cd a (.list (xs++[x])) (.list xs) H H')(hz:xs.length<=1000000)(h:Q x m H'):Ck c (.bi "list.pop") [.ref a] m H Q:=fun s vf vvs R rf rv=>by
 cases (rf:vf=_)
 obtain⟨va,rfl,ra⟩:=rv.sole
 cases (ra:va=_)
 obtain⟨items,n,hl,hr⟩:=O.list_get (R.obj _ _ up.mem)
 have hlen:items.size=xs.length+1:=by rw[<- V9,hr.length,XS];rfl
 obtain⟨y,hy,ry⟩:=hr.get (show(xs++[x])[items.size-1]?=some x by rw[hlen];simp)
 rw[WO]at hy
 have hsl:WS=16777216:=rfl
 refine FE R up hl (f:=fun xs=>xs.eraseIdxIfInBounds (items.size-1)) (u:=x) (v:=y) (fun h' F=>?_) (fun h' F=>R.lift F ry) h fun P p=>Wh cn ⟨_,hl,rfl⟩ PySem.F.entry_list_pop (PySem.F.args_list_pop_1 _) (MeetsSeq.list_pop_last a items n y hy (by exact Be 3 (.l Y0 (.n 1000000)) (.e Y1 (.a Y0 N1)) (.e Y2 (.n 16777216)) (.l Y1 Y2) [_,_,_] hz hlen hsl)) ⟨hl,p⟩
 have e:(items.eraseIdxIfInBounds (items.size-1)).toList=items.toList.take xs.length:=by
  rw[Array.toList_eraseIdxIfInBounds,hlen,Nat.add_sub_cancel]
  have hl2:items.toList.length=xs.length+1:=by rw[V9,hlen]
  rw[List.eraseIdx_eq_take_drop_succ,cp (by exact AJ 2 (.e Y0 (.a Y1 N1)) (.l Y0 (.a Y1 N1)) [_,_] hl2),W8]
 rw[e]
 have r2:=(R.liftL F hr).take xs.length
 rw[List.take_append_of_le_length (Vn _),aO]at r2
 exact r2
theorem RV{t u v e:Expr}{Q:Fl->Lo->Hp->Prop}(h:Af c e m H fun x m1 H1=>Fs c t x m1 H1 fun m2 H2=>Fs c u x m2 H2 fun m3 H3=>Fs c v x m3 H3 (Q .next))(ha:autoParam (V7 [t,u,v] c.env=[(false,assign t c.env),(false,assign u c.env),(false,assign v c.env)]) AV)(hs:autoParam (WE [t,u,v] e pos.line c.env=pure false) AV)(hw:autoParam (WF [t,u,v] e c.env=pure .none) AV):DX c (.Assign [t,u,v] e pos) m H Q:=fun s R P k=>by
 rw[exec_Assign]
 refine Ve (XJ ?_)
 rw[hs]
 refine Ve (WM ?_)
 rw[if_neg (by decide)]
 refine Ve (h s R _ fun a va m1 H1 h1 tk1 R1 F1 r1 q1=>?_)
 rw[hw,ha]
 refine Ve (WM ?_)
 show Vc _ _ ((V2 [va] (assign t c.env va) >>= fun _=>V2 [va] (assign u c.env va) >>= fun _=>assign v c.env va) >>= fun _=>pure Flow.next) _ _ _
 refine Ve (Ve (Vd (q1 _ va R1 r1 _ fun _ _ m3 H3 h3 tk3 R3 F3 _ q3=>Ve (Vd (q3 _ va R3 (R1.lift F3 r1) _ fun _ _ m4 H4 h4 tk4 R4 F4 _ q4=>?_)))))
 exact q4 _ va R4 (R3.lift F4 (R1.lift F3 r1)) _ fun _ _ m5 H5 h5 tk5 R5 F5 _ q5=>WM (k .next _ m5 H5 h5 tk5 R5 (((F1.trans R1.hasL F3).trans R3.hasL F4).trans R4.hasL F5) rfl q5)
theorem C5.and2{t1 t2:Expr}{b1 b2:Bool}(h1:C5 c t1 m H b1)(h2:b1=true->C5 c t2 m H b2):C5 c (.BoolOp .And [t1,t2] pos) m H (b1&&b2):=fun Q h=>KL (Dw (h1 _ (by
 cases b1
 .exact h
 refine Dw (h2 rfl _ ?_)
 cases b2
 .exact h
 exact FG h)))
end
section
variable{c:Ctx}{m:Lo}{H:Hp}{pos:Pos}
noncomputable def My(c:Ctx)(pos:Pos)(es:List Expr)(m:Lo)(H:Hp)(vs:List V):Prop:=∀ Q:List V->Lo->Hp->Prop,Q vs m H->BJ c pos es m H Q
theorem My.nil:My c pos [] m H []:=fun _ h=>AC h
theorem My.cons{e:Expr}{r:List Expr}{v:V}{vs:List V}(h1:Pu c e m H v)(h2:My c pos r m H vs)(he:autoParam (V3 (e::r) c.env=(false,eval e c.env)::V3 r c.env) AV):My c pos (e::r) m H (v::vs):=
 fun _ h=>AA (h1 _ (h2 _ h)) he
theorem Pu.tup{es:List Expr}{k0:Nat}{xs:List At}(h:My c pos es m H (xs.map .at))(hz:xs.length<=1000):Pu c (.Tuple es k0 pos) m H (.tup .none xs):=
 fun _ q=>Du (h _ ⟨xs,rfl,by rw[V8];have:WS=16777216:=rfl;exact AL 2 (.l Y0 (.n 1000)) (.e Y1 (.n 16777216)) (.l Y0 Y1) [_,_] hz this,q⟩)
theorem B5{l:Expr}{e:Expr}{apos:Pos}{a:Addr}{xs:List V}{x:V}{H':Hp}{Q:Fl->Lo->Hp->Prop}(h1:Pu c l m H (.ref a))(h2:Pu c e m H x)(ha:AK c H a (.list xs))(up:Cd a (.list xs) (.list (xs++[x])) H H')(hz:xs.length<=1000000)(h:Q .next m H')(hE:∀ Q,(Af c l m H fun u m0 H0=>∃ f first,GM c u "append" f first H0/\BJ c pos [e] m0 H0 fun vs m1 H1=>Ba c f H1/\Ck c f (first++vs) m1 H1 Q)->Af c (.Call (.Attribute l "append" apos) [e] [] pos) m H Q){spos:Pos}(he:autoParam (V3 [e] c.env=(false,eval e c.env)::V3 [] c.env) AV)(hs:autoParam (WD (.Call (.Attribute l "append" apos) [e] [] pos) .none spos.line c.env=pure false) AV):DX c (.Expr (.Call (.Attribute l "append" apos) [e] [] pos) spos) m H Q:=
 Ad (hE _ (h1 _ ⟨_,_,EZ ha PySem.F.slot_list_append PySem.F.type_list_append,AA (h2 _ (AC ⟨Av,Jh up h (by have:WS=16777216:=rfl;exact AL 2 (.l Y0 (.n 1000000)) (.e Y1 (.n 16777216)) (.l Y0 Y1) [_,_] hz this)⟩)) he⟩)) hs
end
theorem AI.set{m m':Lo}{H H':Hp}{x:Str}{u:V}(l:AI m H m' H')(hx:m'.lookup x=.none):AI ((x,u)::m) H m' H':=by
 refine⟨fun y v e=>?_,l.2⟩
 rw[Vt]
 cases h:y==x with
 | true=>rw[beq_iff_eq.mp h,hx]at e;cases e
 | false=>exact l.1 y v e
theorem JO{G:GL}{P:IS×Addr×List Int->Bool}{i:Nat}{g:IS×Addr×List Int}(nd:(G.map (·.1)).Nodup)(hg:G[i]?=some g):(if P g then D6 (((G.take i).filter P).map (·.1)) g.1 else ((G.take i).filter P).map (·.1))=((G.take (i+1)).filter P).map (·.1):=by
 rw[cf,hg,aV,XA]
 cases h:P g with
 | false=>simp[h]
 | true=>
  have e:(List.filter P (some g).toList).map (·.1)=[g.1]:=by simp[h]
  rw[e,if_pos rfl]
  unfold D6
  rw[if_neg]
  intro hm
  obtain⟨e,he,ee⟩:=Vm.mp hm
  refine I6 nd (i:=i) (k:=g.1) (by rw[Zu,hg];rfl) ?_
  rw[<- cq]
  exact ee▸Vm.mpr ⟨e,(cr.mp he).1,rfl⟩
section
variable{c:Ctx}{m m':Lo}{H:Hp}{p0 p1 p2 p3 p4 p5 p6 p7 p8 p9 p10 p11:Pos}{k0 k1:Nat}{Q:Fl->Lo->Hp->Prop}
noncomputable def LD(c:Ctx)(o:Expr)(name:Str)(apos:Pos)(args:List Expr)(pos:Pos):Prop:=∀ (m:Lo) (H:Hp) (Q:V->Lo->Hp->Prop),(Af c o m H fun u m0 H0=>∃ f first,GM c u name f first H0/\BJ c pos args m0 H0 fun vs m1 H1=>Ba c f H1/\Ck c f (first++vs) m1 H1 Q)->Af c (.Call (.Attribute o name apos) args [] pos) m H Q
theorem Qc{t:Expr}{s x:Str}{S:Addr}{z:C8}{ks:List IS}{k:IS}{b:Bool}(ls:Lc c s)(lx:Lc c x)(ht:C5 c t m ((S,.set z ks)::H) b)(hs:m.lookup s=some (.ref S))(hx:m.lookup x=some k.v)(hz:ks.length<=1000)(hE:LD c (.Name s p1) "add" p2 [.Name x p3] p4)(h:∀ z',Q .next m ((S,.set z' (if b then D6 ks k else ks))::H)):AW c [.If t [.Expr (.Call (.Attribute (.Name s p1) "add" p2) [.Name x p3] [] p4) p5] [] p6] m ((S,.set z ks)::H) Q:=by
 refine AB (BU ht (fun hb=>?_) (fun hb=>?_))
 .subst hb
  exact AB (Ad (hE _ _ _ (Pu.nm ls hs _ ⟨_,_,Sm (AK.mem mS) ZW PySem.F.type_set_add,AA (Pu.nm lx hx _ (AC ⟨Av,Tg (.head _) hz fun z'=>AX (AX (h z'))⟩))⟩)))
 .subst hb
  exact AX (AX (h z))
theorem JH{x y d:Str}{S D:Addr}{z:C8}{ks:List IS}{ep:Nat}{es:List (IS×V)}(lx:Lc c x)(ly:Lc c y)(ld:Lc c d)(hy:m.lookup y=some (.ref S))(hl:AI m ((S,.set z ks)::(D,.dict ep es)::H) m' ((S,.set z ks)::(D,.dict ep es)::H))(hx:m'.lookup x=.none)(hd:m'.lookup d=some (.ref D))(hn:ks.Nodup)(hs:∀ k∈ks,k∈es.map (·.1))(hz:es.length<=1000000)(h:∀ σ ep' m2 H2,ZA σ ks->AI m2 H2 m' ((S,.set z ks)::(D,.dict ep' (es.filter fun e=>decide (e.1∉σ)))::H)->Q .next m2 H2) :
  DX c (.For (.Name x p1) (.Name y p2) [.Delete [.Subscript (.Name d p3) (.Name x p4) p5] p6] [] p7) m ((S,.set z ks)::(D,.dict ep es)::H) Q:=by
 have hdx:(d==x)=false:=by
  cases e:d==x with
  | false=>rfl
  | true=>rw[beq_iff_eq.mp e,hx]at hd;cases hd
 refine KQ (Pu.nm ly hy _ ⟨S,z,ks,rfl,.mem mS,fun σ hσ=>⟨fun i m3 H3=>∃ ep',AI m3 H3 m' ((S,.set z ks)::(D,.dict ep' (es.filter fun e=>decide (e.1∉σ.take i)))::H),⟨ep,?_⟩,?_,?_⟩⟩) (by intro _;rfl)
 .have e0:(es.filter fun e=>decide (e.1∉σ.take 0))=es:=by rw[ct];intro e _;simp
  rw[e0]
  exact hl
 .rintro i k m3 H3 hk ⟨ep',hl⟩
  refine⟨AK.less hl mS,FU.less hl (AP (AE lx.1 ?_))⟩
  obtain⟨u,hu⟩:=Kr (es:=es.filter fun e=>decide (e.1∉σ.take i)) (k:=k) (by
   obtain⟨e,he,ek⟩:=Vm.mp (hs k (hσ.mem_iff.mp (Zy hk)))
   exact Vm.mpr ⟨e,cr.mpr ⟨he,by rw[ek];exact decide_eq_true (I6 (hσ.nodup_iff.mpr hn) hk)⟩,ek⟩)
  refine AB (RW (Pu.nm ld (u:=.ref D) (by rw[AN hdx];exact hd) _ (Pu.nm lx List.lookup_cons_self _ (Oo (.tail (.head _)) hu (fun ep2=>AX ⟨ep2,?_⟩) (Yi (aX _ _) hz)))))
  have e0:C3 (es.filter fun e=>decide (e.1∉σ.take i)) k=es.filter fun e=>decide (e.1∉σ.take (i+1)):=by
   unfold C3
   rw[List.filter_filter,cf,hk]
   apply cu
   intro e _
   simp[and_comm]
  rw[e0]
  exact AI.set (AI.refl _ _) hx
 .rintro m3 H3 ⟨ep',hl⟩
  rw[aO]at hl
  exact⟨AK.less hl mS,h σ ep' m3 H3 hσ hl⟩
theorem Sw(lE:Lc c "elt")(lI:Lc c "i")(lD:Lc c "b2j")(lX:Lc c "indices"){D:Addr}{P1 P2:Addr×O}{G:GL}{ep i:Nat}{bs:List IS}{k:IS}(hm:m.lookup ("b2j":Str)=some (.ref D))(hG:gP G=Bf bs i)(hk:bs[i]?=some k)(hbz:bs.length<=1000)(e1:LD c (.Name "b2j" p2) "setdefault" p3 [.Name "elt" p4,.List [] p5] p6)(e2:LD c (.Name "indices" p8) "append" p9 [.Name "i" p10] p11)(hQ:∀ G' ep' u H',gP G'=Bf bs (i+1)->AI m H' m ((D,.dict ep' (gD G'))::P1::P2::(gL G'++H))->Q .next (("indices",u)::("elt",k.v)::("i",.int i)::m) H') :
  AW c [.Assign [.Name "indices" p1] (.Call (.Attribute (.Name "b2j" p2) "setdefault" p3) [.Name "elt" p4,.List [] p5] [] p6) p7,.Expr (.Call (.Attribute (.Name "indices" p8) "append" p9) [.Name "i" p10] [] p11) p0] (("elt",k.v)::("i",.int i)::m) ((D,.dict ep (gD G))::P1::P2::(gL G++H)) Q:=by
 obtain⟨hi',-⟩:=WX.mp hk
 have gi:=Gc bs i (W7 hi')
 have hGn:=Ez bs i
 have hsucc:=Kj hk
 rw[<- hG]at gi hGn hsucc
 rw[OW,<- Gg]at hGn
 have hz:(gD G).length<=1000000:=by exact Be 3 (.l Y0 (.n 1000)) (.t Y1 Y0) (.l Y2 Y1) (.l Y2 (.n 1000000)) [_,_,_] hbz hi' hGn
 refine AB (Ac (e1 _ _ _ (Pu.nm lD (u:=.ref D) (by rw[AN (by decide),AN (by decide)];exact hm) _ ?_)))
 refine⟨_,_,Ea (.mem mS) YG PySem.F.type_dict_setdefault,AA ((Pu.n lE) _ (AA (Bn (AC ⟨bB rfl,fun y1=>AC ?_⟩))))⟩
 by_cases hm:k∈G.map (·.1)
 .obtain⟨G1,a,ps,G2,rfl,h1⟩:=HV hm
  refine⟨Av,Ew (.mem (mT mS)) (D1 h1) (AE lX.1 ?_) hz⟩
  have nd:=gi.nd
  rw[Ds,XA,Vu]at nd
  have h2:=(Vr.mp (XB.mp nd).2.1).1
  have hps:ps.length<=i:=by
   have:=gi.at_ (k,ps) (Vm.mpr ⟨(k,a,ps),XN _ mS,rfl⟩)
   dsimp only at this
   rw[this]
   exact EV bs i k
  rw[Kn]
  refine AB (B5 (xs:=ps.map .int) (Pu.n lX) (Pu.n lI) (.mem (mT (mT (mT (mT (XN _ mS)))))) (.tail (.tail (.tail (.tail (Cd.mid _))))) (by rw[V8];exact Be 3 (.l Y0 (.n 1000)) (.t Y1 Y0) (.l Y2 Y1) (.l Y2 (.n 1000000)) [_,_,_] hbz hi' hps) (AX (hQ (G1++(k,a,ps++[(i:Int)])::G2) ep _ _ ?_ ?_)) (hE:=fun _ h=>e2 _ _ _ h))
  .rw[hsucc,K7 h1 h2]
  .have e1:gD (G1++(k,a,ps++[(i:Int)])::G2)=gD (G1++(k,a,ps)::G2):=by unfold gD;simp
   rw[Kn,e1]
   dsimp only
   rw[XA,Vu,List.map_nil]
   exact AI.heap (cx _ (bA _))
 .refine⟨Av,Ex (.tail (.head _)) (Dg hm) (fun ep'=>AE lX.1 ?_) hz⟩
  refine AB (B5 (xs:=[]) (Pu.n lX) (Pu.n lI) (.mem mS) (.head _) (WJ _) (AX (hQ (G++[(k,y1,[(i:Int)])]) ep' _ _ ?_ ?_)) (hE:=fun _ h=>e2 _ _ _ h))
  .rw[hsucc,K6 hm]
  .have e1:gD (G++[(k,y1,[(i:Int)])])=gD G++[(k,.ref y1)]:=by unfold gD;simp
   rw[Kn,e1]
   exact AI.perm (bW (l₁:=(D,_)::P1::P2::gL G))
end
end Mine.Internal
end
section
open PySem PySem.W PyProof.Rows PySem.Calls
set_option maxRecDepth 100000
set_option maxHeartbeats 8000000
namespace Mine
noncomputable abbrev AnyTy := (as : Array Nat) → (Nat → Bool) → Nat → Nat → Bool
noncomputable def newF : AnyTy → Builtin := by
  refine (?G : (F : AnyTy → Builtin) → F (@Array.any Nat) = PySem.W.Fast.tw4202317264376624991 → (AnyTy → Builtin)) ?F ?h
  case G => exact fun F _ => F
  case h =>
    delta PySem.W.Fast.tw4202317264376624991
    generalize @Array.any Nat = g
    exact Eq.refl _
theorem newF_eq : newF (@Array.any Nat) = PySem.W.Fast.tw4202317264376624991 := by kernel_rfl
noncomputable def fastAny : AnyTy := fun as p i j => match Nat.beq i 0 with
  | true => (match Nat.beq j as.size with | true => as.toList.any p | false => as.any p i j)
  | false => as.any p i j
theorem fastAny_eq : fastAny = @Array.any Nat := by
  funext as p i j
  unfold fastAny
  cases h : Nat.beq i 0 with
  | false => rfl
  | true =>
    cases h2 : Nat.beq j as.size with
    | false => rfl
    | true =>
      have e1 := Nat.eq_of_beq_eq_true h
      have e2 := Nat.eq_of_beq_eq_true h2
      subst e1 e2
      exact Array.any_toList
theorem new_eq : PySem.W.Fast.tw4202317264376624991 = newF fastAny := by
  rw [fastAny_eq, newF_eq]
end Mine
end
section
open PySem PySem.W PyProof.Rows PySem.Calls
set_option maxRecDepth 100000
set_option maxHeartbeats 8000000
namespace Mine
theorem of_list (s : String) : Str.ofString s = Str.mk (Array.mk (s.toList.map Char.toNat)) := by
  rw [Str.ofString_eq_byList]; rfl
noncomputable def cS : String := by
  refine (?G : (S : String) → (a b c d e : Stmt) → (n : Str) → (bs : List Expr) → (ks : List Keyword) → (k : Nat) → (p q : Pos) → (r t : List Stmt) → (ds : List Expr) → (tp : List TypeParam) → (sc : Scope) → (tsc : Option Scope) → (bi : Str) → (sa : List Str) → (ps : Pos) → PySem.Challenge.pw_dm0051_04.main.body = a :: b :: c :: d :: e :: .ClassDef n bs ks (.Expr (.Constant (.str (Str.ofString S)) k p) q :: r) ds tp sc tsc bi sa ps :: t → String) ?S ?a ?b ?c ?d ?e ?n ?bs ?ks ?k ?p ?q ?r ?t ?ds ?tp ?sc ?tsc ?bi ?sa ?ps ?h
  case G => exact fun S _ _ _ _ _ _ _ _ _ _ _ _ _ _ _ _ _ _ _ _ _ => S
  case h =>
    delta PySem.Challenge.pw_dm0051_04
    exact Eq.refl _
noncomputable def cL : List Char := by
  refine (?G : (L : List Char) → cS.toList = L → List Char) ?L ?h
  case G => exact fun L _ => L
  case h =>
    delta cS
    show String.toList _ = _
    simp only [String.reduceToList]
    exact Eq.refl _
noncomputable def fd (s : String) : Str := Str.ofString s
theorem of_doc (s : String) (k : Nat) (p q : Pos) : Stmt.Expr (Expr.Constant (Const.str (Str.ofString s)) k p) q = Stmt.Expr (Expr.Constant (Const.str (fd s)) k p) q := rfl
noncomputable def P2 : Str → Program := by
  refine (?G : (F : Str → Program) → (∀ x, Str.ofString cS = x → PySem.Challenge.pw_dm0051_04 = F x) → (Str → Program)) ?F ?h
  case G => exact fun F _ => F
  case h =>
    intro x hx
    delta cS at hx
    replace hx : Str.ofString _ = x := hx
    delta PySem.Challenge.pw_dm0051_04
    show _ = _
    simp only [hx]
    simp only [of_doc]
    simp only [of_list, String.reduceToList, List.map_cons, List.map_nil, Char.reduceToNat]
    exact Eq.refl _
theorem P2_of : PySem.Challenge.pw_dm0051_04 = P2 (Str.ofString cS) := by kernel_rfl
theorem cS_list : cS = String.ofList cL := by kernel_rfl
noncomputable def mapN (l : List Char) : List Nat := List.rec (motive := fun _ => List Nat) [] (fun c _ ih => c.toNat :: ih) l
theorem mapN_eq : ∀ l : List Char, mapN l = l.map Char.toNat
  | [] => rfl
  | c :: l => by
    show c.toNat :: mapN l = c.toNat :: l.map Char.toNat
    rw [mapN_eq l]
noncomputable def fz (l : List Char) : Str := Str.mk (Array.mk (mapN l))
theorem of_cS : Str.ofString cS = fz cL := by
  unfold fz
  rw [of_list, cS_list, String.toList_ofList, mapN_eq]
noncomputable def cD : Str := fz cL
noncomputable def P1 : Program := by
  refine (?G : (F : Program) → F = P2 cD → Program) ?F ?h
  case G => exact fun F _ => F
  case h =>
    delta P2
    show _ = _
    exact Eq.refl _
theorem P1_two : P2 cD = P1 := by kernel_rfl
theorem P1_eq : PySem.Challenge.pw_dm0051_04 = P1 := by
  rw [P2_of, of_cS]; exact P1_two
end Mine
end
section
open PySem PySem.W PyProof.Rows PySem.Calls
set_option maxRecDepth 100000
set_option maxHeartbeats 8000000
namespace Mine
noncomputable def oA1 : Params → Obj := fun _ => { cls := Value.type "tuple", data := Data.seq #[] }
noncomputable def oA2 : Params → Obj := fun _ => { cls := Value.none, data := Data.fields #[] }
noncomputable def oA3 : Params → Obj := fun _ => { cls := Value.type "code", data := Data.fields #[Value.str (Str.ofString "<module>") 182, Value.str (Str.ofString "<module>") 183, Value.str (Str.ofString "/claim/cut.py") 184, Value.int 1 0, Value.int 0 0, Value.int 0 0, Value.int 0 0, Value.int 0 0, Value.ref 11, Value.bool false, Value.int 181 0, Value.ref 12, Value.none, Value.none, Value.none, Value.none, Value.int 185 0, Value.int 1 0, Value.str (Str.ofString "/claim/cut.py") 186] }
noncomputable def oA4 : Params → Obj := fun _ => { cls := Value.type "frame", slots := #[some (Value.ref 13), some (Value.ref 3), some (Value.ref 3), none, some (Value.str (Str.ofString "__main__") 164), none, some (Value.ref 0)] }
noncomputable def treeA : Params → BT := fun P =>
  BT.node (boot_o_0 P) (BT.node (boot_o_1 P) (BT.node (boot_o_3 P) (BT.node (boot_o_7 P) BT.nil BT.nil) (BT.node (oA1 P) BT.nil BT.nil)) (BT.node (boot_o_5 P) (BT.node (boot_o_9 P) BT.nil BT.nil) (BT.node (oA3 P) BT.nil BT.nil)))
    (BT.node (boot_o_2 P) (BT.node (boot_o_4 P) (BT.node (boot_o_8 P) BT.nil BT.nil) (BT.node (oA2 P) BT.nil BT.nil)) (BT.node (boot_o_6 P) (BT.node (boot_o_10 P) BT.nil BT.nil) (BT.node (oA4 P) BT.nil BT.nil)))
theorem treeA_self : treeA = treeA := rfl
end Mine
name_quick twTreeA for Mine.treeA by Mine.treeA_self
namespace Mine
noncomputable def envA : Env := { scope := PySem.Challenge.pw_dm0051_04.main.scope, locals := mainNs, globals := mainNs, cells := [], code := .ref 13, frame := some 14 }
noncomputable def envQ : Env := { scope := P1.main.scope, locals := mainNs, globals := mainNs, cells := [], code := .ref 13, frame := some 14 }
theorem envA_eq : envA = envQ := congrArg (fun p : Program => ({ scope := p.main.scope, locals := mainNs, globals := mainNs, cells := [], code := .ref 13, frame := some 14 } : Env)) P1_eq
noncomputable def annA : Option Value := some (.ref 6)
noncomputable def B0 : List Frame := [topFrame ⟨0, 0, 0, 0⟩]
noncomputable abbrev P0q : Program := P1
theorem P0q_eq : PySem.Challenge.pw_dm0051_04 = P0q := P1_eq
noncomputable def bQ : List Stmt := behindTheImports P0q
noncomputable def S1 (w : World) (os : OsState) : SharedT := ⟨PySem.W.Fast.twTreeA w.params, 15, {}, ⟨[]⟩, {}, 187, os⟩
noncomputable def T0 (b : List Stmt) : Thread := piecesOf bQ envQ (Code.body b envQ) ⟨0, 0, 0, 0⟩ B0
noncomputable def r2 (p : Program) (b : List Stmt) (w : World) (os : OsState) : Option (SharedT × Thread) :=
  PySem.W.Fast.tw10295753902157049106 PySem.W.Fast.tw14364793385576792824 p w 11 annA 1 1968 (S1 w os) (T0 b)
noncomputable def sh2 (p : Program) (b : List Stmt) (w : World) (os : OsState) : SharedT := match r2 p b w os with
  | some (s, _) => s
  | none => S1 w os
noncomputable def th2 (p : Program) (b : List Stmt) (w : World) (os : OsState) : Thread := match r2 p b w os with
  | some (_, t) => t
  | none => T0 b
theorem r2_some (p : Program) (b : List Stmt) (w : World) (os : OsState) : r2 p b w os = some (sh2 p b w os, th2 p b w os) := by kernel_rfl
noncomputable def argsOf (c : Code) : Args := @Code.casesOn (fun _ => Args) c (fun _ _ => {}) (fun _ a => a) (fun _ _ => {}) (fun _ _ => {}) (fun _ _ _ => {}) (fun _ _ _ _ _ => {}) (fun _ _ => {}) (fun _ _ => {}) (fun _ _ _ _ => {}) (fun _ _ _ _ _ => {}) (fun _ _ _ _ _ => {}) (fun _ _ _ _ _ => {}) (fun _ _ _ _ _ => {})
theorem th2_eq (p : Program) (b : List Stmt) (w : World) (os : OsState) : th2 p b w os =
    ⟨PySem.W.Fast.tw4202317264376624991 (argsOf (th2 p b w os).code), (th2 p b w os).code, (th2 p b w os).pos, (th2 p b w os).stack⟩ := by kernel_rfl
noncomputable def th2' (p : Program) (b : List Stmt) (w : World) (os : OsState) : Thread :=
  ⟨newF fastAny (argsOf (th2 p b w os).code), (th2 p b w os).code, (th2 p b w os).pos, (th2 p b w os).stack⟩
theorem th2_eq' (p : Program) (b : List Stmt) (w : World) (os : OsState) : th2 p b w os = th2' p b w os := by
  unfold th2'
  rw [← new_eq]
  exact th2_eq p b w os
noncomputable def r4v (p : Program) (b : List Stmt) (w : World) (os : OsState) : Option (Flow × SharedT × Code × Pos) :=
  PySem.W.Fast.tw10110043849684766642 PySem.W.Fast.tw14364793385576792824 p w 11 annA 1 163 (sh2 p b w os) (th2' p b w os)
noncomputable def worldOf (P : Params) : World := ⟨fun _ _ => 0, P⟩
noncomputable def osZ : OsState := {}
noncomputable def tree4 (P : Params) : BT := match r4v P0q bQ (worldOf P) osZ with
  | some (_, s, _, _) => s.1
  | none => PySem.W.Fast.twTreeA P
noncomputable def S4 (w : World) (os : OsState) : SharedT := ⟨tree4 w.params, 252, {}, ⟨[]⟩, {}, 593, os⟩
theorem r4 (w : World) (os : OsState) : r4v P0q bQ w os = some (.next, S4 w os, Code.body bQ envQ, ⟨445, 0, 470, 49⟩) := by kernel_rfl
theorem r5 (p : Program) (b : List Stmt) (w : World) (os : OsState) :
    PySem.W.Fast.tw14082659384304107361 PySem.W.Fast.tw14364793385576792824 p w 11 annA 2 (S4 w os).abs ⟨doneF .next, Code.body b envQ, ⟨445, 0, 470, 49⟩, B0⟩ = some (S4 w os).abs := by kernel_rfl
noncomputable def Sb (w : World) (os : OsState) : SharedT := ⟨PySem.W.Fast.twTreeA w.params, 15, {}, ⟨[]⟩, {}, 187, os⟩
theorem r0 (w : World) (os : OsState) :
    PySem.W.Fast.tw15667345088766844465 PySem.W.Fast.tw14364793385576792824 P0q w 11 annA 12 ⟨boot_heap w.params, ⟨[]⟩, boot_drawn, boot_toks, os⟩ (topStub P0q) =
      some ((Sb w os).abs, ⟨PySem.W.Fast.tw11892475500146522536 PySem.W.Fast.tw14364793385576792824 (Code.body bQ envQ), Code.body bQ envQ, ⟨0, 0, 0, 0⟩, B0⟩) := by kernel_rfl
theorem rB (p : Program) (w : World) (os : OsState) :
    PySem.W.Fast.tw14374325043358763698 PySem.W.Fast.tw14364793385576792824 p w 11 annA 1 1 (Sb w os).abs (blockOf bQ envQ (Code.body bQ envQ) ⟨0, 0, 0, 0⟩ B0) =
      some (.next, (Sb w os).abs, Code.body bQ envQ, ⟨0, 0, 0, 0⟩) := by kernel_rfl
theorem hsize (w : World) : ((boot_heap w.params).isNs mainGlobals && (⟨[]⟩ : Array GenState).size == 0, (boot_heap w.params).objs.size, (boot_heap w.params).nsMap mainGlobals "__annotations__") = (true, 11, annA) := by kernel_rfl
theorem hopen (N : Nat) (le : Nat.ble 600 N = true) : ∀ w : World, Option.map (fun s => (s.heap, s.gens, s.drawn, s.toks)) (fencedOpening treeTable PySem.Challenge.pw_dm0051_04 w N) = some (boot_heap w.params, ⟨[]⟩, boot_drawn, boot_toks) :=
  boot_open (by kernel_rfl) le (fun _ => by kernel_rfl)
open PySem.W.Fast in
theorem r0' (w : World) (os : OsState) : topGo treeTable PySem.Challenge.pw_dm0051_04 w 11 annA 12 ⟨boot_heap w.params, ⟨[]⟩, boot_drawn, boot_toks, os⟩ (topStub PySem.Challenge.pw_dm0051_04) =
      some ((⟨treeA w.params, 15, {}, ⟨[]⟩, {}, 187, os⟩ : SharedT).abs, ⟨denote treeTable (Code.body (behindTheImports PySem.Challenge.pw_dm0051_04) envA), Code.body (behindTheImports PySem.Challenge.pw_dm0051_04) envA, ⟨0, 0, 0, 0⟩, B0⟩) := by
  rw [te15667345088766844465, te14364793385576792824, P0q_eq, envA_eq, twTreeA_eq, te11892475500146522536]
  exact r0 w os
open PySem.W.Fast in
theorem rB' (p : Program) (w : World) (os : OsState) :
    segRun treeTable p w 11 annA 1 1 (⟨treeA w.params, 15, {}, ⟨[]⟩, {}, 187, os⟩ : SharedT).abs (blockOf (behindTheImports PySem.Challenge.pw_dm0051_04) envA (Code.body (behindTheImports PySem.Challenge.pw_dm0051_04) envA) ⟨0, 0, 0, 0⟩ B0) =
      some (.next, (⟨treeA w.params, 15, {}, ⟨[]⟩, {}, 187, os⟩ : SharedT).abs, Code.body (behindTheImports PySem.Challenge.pw_dm0051_04) envA, ⟨0, 0, 0, 0⟩) := by
  rw [te14374325043358763698, te14364793385576792824, P0q_eq, envA_eq, twTreeA_eq]
  exact rB p w os
open PySem.W.Fast in
theorem rAll (w : World) (os : OsState) :
    segRun treeTable PySem.Challenge.pw_dm0051_04 w 11 annA 1 (1968 + 163) (⟨treeA w.params, 15, {}, ⟨[]⟩, {}, 187, os⟩ : SharedT).abs (piecesOf (behindTheImports PySem.Challenge.pw_dm0051_04) envA (Code.body (behindTheImports PySem.Challenge.pw_dm0051_04) envA) ⟨0, 0, 0, 0⟩ B0) =
      some (.next, (S4 w os).abs, Code.body (behindTheImports PySem.Challenge.pw_dm0051_04) envA, ⟨445, 0, 470, 49⟩) := by
  have h2 := r2_some P0q bQ w os
  have h3 := r4 w os
  rw [th2_eq'] at h2
  unfold r2 at h2
  unfold r4v at h3
  rw [← te10295753902157049106, ← te14364793385576792824] at h2
  rw [← te10110043849684766642, ← te14364793385576792824] at h3
  have k := seg_go (segGo_of h2) (segRun_of h3)
  rw [P0q_eq, envA_eq, twTreeA_eq]
  exact k
open PySem.W.Fast in
theorem rF (p : Program) (b : List Stmt) (w : World) (os : OsState) :
    topRun treeTable p w 11 annA 2 (S4 w os).abs (restOf [] envA (Code.body b envA) ⟨445, 0, 470, 49⟩ B0) = some (S4 w os).abs := by
  refine piece_nil ?_
  rw [te14082659384304107361, te14364793385576792824, envA_eq]
  exact r5 p b w os
theorem runTop (w : World) (os : OsState) : topRun treeTable PySem.Challenge.pw_dm0051_04 w 11 annA (12 + (1 + ((1968 + 163) + 2))) ⟨boot_heap w.params, ⟨[]⟩, boot_drawn, boot_toks, os⟩ (topStub PySem.Challenge.pw_dm0051_04) =
    some (S4 w os).abs := by
  refine go_top (r0' w os) ?_
  refine piece_block (rB' _ w os) ?_
  have k := piece_app (rest := []) (rAll w os) (rF PySem.Challenge.pw_dm0051_04 (behindTheImports PySem.Challenge.pw_dm0051_04) w os)
  rw [List.append_nil] at k
  exact k
noncomputable def atB (p : Program) (i : Nat) : Stmt := p.main.body.getD i (.Pass ⟨0,0,0,0⟩)
noncomputable def qOf (p : Program) : Program := { p with main := { p.main with body := [atB p 0, atB p 2, atB p 3, atB p 4, atB p 5, atB p 7] } }
noncomputable def atV (i : Nat) : Stmt := PySem.Challenge.pw_dm0051_04.main.body.getD i (.Pass ⟨0,0,0,0⟩)
noncomputable def qV : Program := { PySem.Challenge.pw_dm0051_04 with main := { PySem.Challenge.pw_dm0051_04.main with body := [atV 0, atV 2, atV 3, atV 4, atV 5, atV 7] } }
noncomputable def qQ : Program := qOf P1
theorem qV_eq : qV = qQ := (show qV = qOf PySem.Challenge.pw_dm0051_04 by kernel_rfl).trans (congrArg qOf P1_eq)
noncomputable def looseN : List Str := [Str.ofString "_tuplegetter", Str.ofString "Match", Str.ofString "SequenceMatcher"]
noncomputable def XtOf (q : Program) : Shared → Bool := fun s => xlAt q [] s && recOk [] s
noncomputable def XtV : Shared → Bool := fun s => xlAt qV [] s && recOk (RowW.records PySem.Challenge.rw_dm0051_04.row.toRowW) s
theorem XtV_eq : XtV = XtOf qV := by kernel_rfl
theorem looseN_self : looseN = looseN := rfl
theorem XtOf_self : XtOf = XtOf := rfl
end Mine
lay_quick Mine.looseN Mine.XtOf
name_quick twLoose for Mine.looseN by Mine.looseN_self
name_quick twXt for Mine.XtOf by Mine.XtOf_self
namespace Mine
theorem look1 (w : World) (os : OsState) : (staticsOk (importedModules P0q.main.body) (boot_heap w.params) (S4 w os).abs.heap && namesBound P0q (S4 w os).abs.heap && gensDone (S4 w os).abs && laidKept (boot_heap w.params) (S4 w os).abs.heap) = true := by kernel_rfl
theorem look2 (w : World) (os : OsState) : PySem.W.Fast.tw4187177175401517315 qQ PySem.W.Fast.twLoose (PySem.W.Fast.tw5923862056798008813 P0q.main.body) (PySem.W.Fast.twXt qQ) true (S4 w os).abs = openGood qQ PySem.W.Fast.twLoose := by kernel_rfl
noncomputable def topHeap (P : Params) : Heap := absHeap (tree4 P) 252 {}
open PySem.W.Fast in
theorem looks (w : World) : (fun os => ((staticsOk (importedModules PySem.Challenge.pw_dm0051_04.main.body) (boot_heap w.params) (topHeap w.params) && namesBound PySem.Challenge.pw_dm0051_04 (topHeap w.params) && gensDone ⟨topHeap w.params, ⟨[]⟩, {}, 593, os⟩ && laidKept (boot_heap w.params) (topHeap w.params)),
        openSeen qV looseN (importedModules PySem.Challenge.pw_dm0051_04.main.body) XtV true ⟨topHeap w.params, ⟨[]⟩, {}, 593, os⟩, (fun s : Shared => s.heap) ⟨topHeap w.params, ⟨[]⟩, {}, 593, os⟩)) = fun _ : OsState => (true, openGood qV looseN, topHeap w.params) := by
  funext os
  have a := look1 w os
  have b := look2 w os
  rw [← P0q_eq] at a b
  rw [← te4187177175401517315, ← qV_eq, ← twLoose_eq, ← te5923862056798008813, ← twXt_eq, ← XtV_eq] at b
  exact Prod.ext a (Prod.ext b rfl)
theorem left : LeftO PySem.Challenge.pw_dm0051_04 qV looseN XtV (fun s => s.heap) (fun w => topHeap w.params) 5000 :=
  LeftO.of_pieces (H₀ := boot_heap) (H₁ := topHeap) (gs₀ := ⟨[]⟩) (gs₁ := ⟨[]⟩) (d₀ := boot_drawn) (d₁ := {}) (k₀ := boot_toks) (k₁ := 593) (m₀ := 11) (ann := annA)
    (M := 12 + (1 + ((1968 + 163) + 2)))
    (hopen 5000 (by decide)) hsize (fun w os => runTop w os) (by decide) looks
open PySem.W.Fast in
theorem leftH (H : Hook) (e : ∀ (w : World) (os : OsState), H.obs ⟨topHeap w.params, ⟨[]⟩, {}, 593, os⟩ = H.val w) : LeftO PySem.Challenge.pw_dm0051_04 qV looseN XtV H.obs H.val 5000 :=
  LeftO.of_pieces (H₀ := boot_heap) (H₁ := topHeap) (gs₀ := ⟨[]⟩) (gs₁ := ⟨[]⟩) (d₀ := boot_drawn) (d₁ := {}) (k₀ := boot_toks) (k₁ := 593) (m₀ := 11) (ann := annA)
    (M := 12 + (1 + ((1968 + 163) + 2)))
    (hopen 5000 (by decide)) hsize (fun w os => runTop w os) (by decide) (fun w => by
      have q := looks w
      funext os
      have q' := congrFun q os
      rw [Prod.mk.injEq, Prod.mk.injEq] at q'
      have e' := e w os
      exact Prod.ext q'.1 (Prod.ext q'.2.1 e'))
end Mine
end
section
open PySem PySem.W PyProof.Rows PySem.Calls
set_option maxRecDepth 100000
set_option maxHeartbeats 8000000

namespace Mine
noncomputable def nL : Str := Str.mk (Array.mk [108, 97, 119])
noncomputable def rwQ : OpenLaw := { PySem.Challenge.rw_dm0051_04 with prog := P1, name := nL, about := [Str.mk (Array.mk [83, 101, 113, 117, 101, 110, 99, 101, 77, 97, 116, 99, 104, 101, 114]), Str.mk (Array.mk [113, 117, 105, 99, 107, 95, 114, 97, 116, 105, 111])] }
theorem rwQ_eq : PySem.Challenge.rw_dm0051_04 = rwQ := (show PySem.Challenge.rw_dm0051_04 = { PySem.Challenge.rw_dm0051_04 with prog := PySem.Challenge.pw_dm0051_04, name := nL, about := [Str.mk (Array.mk [83, 101, 113, 117, 101, 110, 99, 101, 77, 97, 116, 99, 104, 101, 114]), Str.mk (Array.mk [113, 117, 105, 99, 107, 95, 114, 97, 116, 105, 111])] } by kernel_rfl).trans (congrArg (fun p => ({ PySem.Challenge.rw_dm0051_04 with prog := p, name := nL, about := [Str.mk (Array.mk [83, 101, 113, 117, 101, 110, 99, 101, 77, 97, 116, 99, 104, 101, 114]), Str.mk (Array.mk [113, 117, 105, 99, 107, 95, 114, 97, 116, 105, 111])] } : OpenLaw)) P1_eq)
theorem said_self : OpenLaw.wellSaid = OpenLaw.wellSaid := rfl
end Mine
name_quick twSaid for PySem.W.OpenLaw.wellSaid by Mine.said_self
namespace Mine
theorem said1 : PySem.W.Fast.twSaid rwQ = true := by kernel_rfl
theorem saidK : OpenLaw.wellSaid PySem.Challenge.rw_dm0051_04 = true := (congrFun PySem.W.Fast.twSaid_eq _).trans ((congrArg PySem.W.Fast.twSaid rwQ_eq).trans said1)
end Mine
section
local macro_rules | `(tactic| o_head $_) => return Lean.mkNullNode
theorem Mine.dumK (h : PySem.Challenge.rw_dm0051_04.row.Holds) : PySem.Challenge.rw_dm0051_04.Holds := by
  w_on
  refine holds_law Mine.saidK fun _ => ?_
  k_head
  exact h
end
theorem Mine.dumK_self : Mine.dumK.heap_1 = Mine.dumK.heap_1 := rfl
namespace Mine
noncomputable def K2 : Str → Params → Frag := by
  refine (?G : (F : Str → Params → Frag) → (∀ x, Str.ofString cS = x → Mine.dumK.heap_1 = F x) → (Str → Params → Frag)) ?F ?h
  case G => exact fun F _ => F
  case h =>
    intro x hx
    delta cS at hx
    replace hx : Str.ofString _ = x := hx
    delta Mine.dumK.heap_1
    show _ = _
    simp only [hx]
    exact Eq.refl _
theorem K2_of : Mine.dumK.heap_1 = K2 (Str.ofString cS) := by kernel_rfl
theorem K2_eq : Mine.dumK.heap_1 = K2 cD := by
  rw [K2_of, of_cS]; rfl
end Mine
namespace Mine
theorem eH_turn {K K' : Params → Frag} (hK : K = K') {as ts : List Addr} {h0 : Heap} {P : Params} (e : (as.map h0.get?, ts.map h0.get?) = ((K' P).map fun p => some p.2, ts.map fun _ => some (tabObj #[]))) :
    (as.map h0.get?, ts.map h0.get?) = ((K P).map fun p => some p.2, ts.map fun _ => some (tabObj #[])) := by rw [hK]; exact e
end Mine
namespace Mine
noncomputable def tokH (H : Hook) : Hook := ⟨H.α × Bool, fun s => (H.obs s, decide (0 < s.toks)), fun w => (H.val w, true), H.says, fun w s e => H.of w s (congrArg Prod.fst e), H.keeps⟩
abbrev WalkT (q : Program) (loose : List Str) (XP : (Str → Option Value) → Heap → Prop) (H : Hook) (r : RowW) (d : DefRec) (kwd : List (Str × Expr)) : Prop :=
  ∀ (w : World) (s₀ s₁ : Shared) (mg mb : Str → Option Value), Ground q loose r.records XP w s₀ mg mb s₁.heap → H.says w s₁.heap → 0 < s₁.toks → ∀ (a : Addr) (o : Obj) (pm cd doc dV kV : Value), s₁.heap.get? a = some o →
    o.data = .func { docDef d.name d.params d.body d.scope pm cd doc with defaults := dV, kwdefaults := kV } → s₁.heap.CodeRec cd d.name → Dflts mg s₁.heap d.params kwd dV kV → mg d.name = some (.ref a) → s₁.gens = #[] →
    ∀ (args : List WData) (vals : List Value) (as : List Addr), r.claim.pre args = true → WData.layableAll args = true → ReadsAllW r.records (classAt s₀.heap) s₁.heap vals args as → WellAll w.params s₁.heap vals args → (∀ a ∈ as, (a == sysModules) = false) →
      wpAny (model r.prog w) callerA (PySem.call (.ref a) vals) (fun v s' => GoodWG r.claim (classAt s₀.heap) (ExcName.means s₀.heap) args s₁ (.ok (.ret v)) s')
        (fun e s' => GoodWG r.claim (classAt s₀.heap) (ExcName.means s₀.heap) args s₁ (.error e) s') s₁
theorem toks_laid {R : WRecords} {w : World} {s₀ s₁ : Shared} {args : List WData} {vs : List Value} {as : List Addr} (L : Laid R w s₀ s₁ args vs as) : s₀.toks ≤ s₁.toks := by
  obtain ⟨ord, _, h⟩ := L.laid
  exact (layAllW_grows _ _ _ h).toks
theorem holds_openT {r : OpenRow} {q : Program} {loose : List Str} {Xt : Shared → Bool} {XP : (Str → Option Value) → Heap → Prop} (H : Hook) {d : DefRec} {kwd : List (Str × Expr)} {N : Nat}
    (left : LeftO r.prog q loose Xt (tokH H).obs (tokH H).val N)
    (hX : ∀ s, Xt s = true → XP (s.heap.nsMap mainGlobals) s.heap) (hXk : ∀ mg h h', XP mg h → (∀ b o, h.get? b = some o → h'.get? b = some o) → XP mg h')
    (hdef : defOf q r.name = some (d, kwd)) (hp : r.prog.theDef r.name = some (d.params, d.body, d.scope)) (hk : kwWritten? d.params.kwonlyargs d.params.kw_defaults = some kwd) (hRf : ∀ s, Xt s = true → RecFacts r.records s.heap) (hwr : (!r.writes || r.records.isEmpty) = true)
    (k1 : r.wellSaid = true) (ok : (chainsOk q && opensWell r.prog && (frees r.toRowW && r.within.isEmpty)) = true) (hb : r.prog.bare) (hw : r.toRowW.promised)
    (call : WalkT q loose XP H r.toRowW d kwd) : r.Holds :=
  holds_openX left hX hXk hdef hp hk hRf hwr k1 ok hb hw fun w s₀ s₁ mg mb G y a o pm cd doc dV kV h1 h2 h3 h4 h5 h6 args vals as L h7 h8 h9 h10 h11 =>
    call w s₀ s₁ mg mb G (H.keeps w _ _ (H.of w s₀ (congrArg Prod.fst y)) L.keeps) (Nat.lt_of_lt_of_le (of_decide_eq_true (congrArg Prod.snd y)) (toks_laid L)) a o pm cd doc dV kV h1 h2 h3 h4 h5 h6 args vals as h7 h8 h9 h10 h11
end Mine
namespace Mine
noncomputable def headT (said : PySem.Challenge.rw_dm0051_04.row.wellSaid = true) (H : Hook) (eH : ∀ (w : World) (os : OsState), H.obs ⟨topHeap w.params, ⟨[]⟩, {}, 593, os⟩ = H.val w) (hw) (hc) :=
  holds_openT (r := PySem.Challenge.rw_dm0051_04.row) (q := qV) (loose := looseN) (Xt := XtV) (XP := XL qV []) H (N := 5000) (leftH (tokH H) fun w os => Prod.ext (eH w os) rfl)
    (fun s e => xl_of s (Bool.and_eq_true_iff.mp e).1) XL.keeps (by rfl) (by rfl) (by rfl) (fun s e => recFacts_of (Bool.and_eq_true_iff.mp e).2) (by rfl) said (by decide +kernel) ⟨rfl, rfl, rfl, rfl, rfl, by decide +kernel⟩ hw hc
noncomputable def hdL (hc) := holds_law Mine.saidK fun said => Mine.headT said (kmHook Mine.dumK.heap_1 [2, 3, 15, 17, 18, 20, 21, 29, 31, 32, 34, 35, 36, 37, 39, 40, 42, 43, 44, 46, 47, 49, 50, 51, 53, 54, 56, 57, 58, 59, 60, 61, 62, 65, 68, 73, 74, 75, 76, 78, 79, 81, 82, 83, 85, 86, 88, 89, 90, 91, 92, 93, 94, 96, 97, 99, 100, 101, 103, 104, 106, 107, 108, 110, 111, 113, 114, 115, 117, 118, 120, 121, 122, 123, 124, 126, 127, 129, 130, 132, 134, 135, 136, 139, 141, 142, 144, 145, 153, 154, 156, 157, 159, 160, 161, 163, 164, 166, 167, 168, 170, 171, 173, 174, 175, 177, 178, 180, 181, 182, 184, 185, 187, 188, 189, 190, 192, 193, 195, 196, 197, 199, 200, 202, 203, 204, 206, 207, 209, 210, 211, 212, 214, 215, 217, 218, 219, 221, 222, 224, 225, 226, 228, 229, 231, 232, 233, 235, 236, 238, 239, 240, 241, 242, 243, 244, 247, 250, 251] (fun _ => by kernel_rfl) [220, 248]) (fun _ _ => Mine.eH_turn Mine.K2_eq (by kernel_rfl)) (by w_witness2) hc
end Mine
end
section
open List renaming mem_cons_of_mem->VM,mem_map->Vm,mem_cons->Vq,nodup_cons->Vr,lookup_cons->Vt,map_cons->Vu,length_map->V8,getD->WN,getElem?_eq_some_iff->WX,filter_cons->Wu,append_assoc->Wv,nil_append->Ww,append_nil->W8,mem_append->W9,map_append->XA,map_map->XC,mem_append_right->XN,mem_singleton->XQ,mem_append_left->XR,length_append->XS,replicate->Xd,replicate_succ->Xe,flatten_cons->Xf,map_congr_left->Xm,range->Xn,range_succ->Xo,mem_erase_of_ne->Xq,length_erase_of_mem->Xr,length_pos_of_mem->Xs,nodup_nil->X4,all_eq_true->X7,pairwise_iff_getElem->Yj,take_append_drop->Ym,pairwise_append->Yn,pairwise_cons->Yq,pairwise_lt_range->Yw,Perm->ZA,getElem_mem->ZJ,getElem?_map->Zu,ext_getElem->Zw,mem_of_getElem?->Zy,getElem?_eq_getElem->Z6,filterMap_cons->aA,getElem?_drop->aB,take_of_length_le->aH,drop_length->aJ,drop_eq_nil_of_le->aK,drop_zero->aM,take_length->aO,filter_append->aV,filter_eq_nil_iff->aW,length_filter_le->aX,drop_eq_getElem_cons->aY,length_cons->bT,perm_middle->bW,sum_append->bX,sum_cons->bY,length_take->cb,take_add_one->cf,map_take->cq,mem_filter->cr,filter_eq_self->ct,filter_congr->cu,length_eq_zero_iff->cz,zip->c8,filter_map->c9,filter_sublist->dA,getElem_of_mem->dB,length_nil->dG,mem_range->dH,length_singleton->dI,take_zero->dS,length_range->dT,count_append->dU,count_singleton_self->dW,count->dX,count_eq_zero->dY,mem_iff_getElem?->db,getD_eq_getElem?_getD->dc,count_singleton->dg,drop_drop->dh,drop_sublist->di,take_add->dk,perm_iff_count->dp,length_drop->dr,count_replicate_self->dw,mem_replicate->dx,perm_append_comm->d5,reverse_perm->d9,length_replicate->eM,perm_append_comm_assoc->eN,sublist_append_right->eO
open Int renaming le_trans->VN,natCast_nonneg->VO,ofNat_le->VP,toNat_natCast->VQ,ofNat_inj->VW,not_lt->aF,le_refl->bn,le_of_lt->bx,le_antisymm->b9,ofNat_lt->dC,natCast_add->dN,lt_or_eq_of_le->df,fmod_nonneg_of_pos->eQ
open Nat renaming le_total->VS,min_eq_left->VT,min_eq_right->VU,le_refl->Vn,le_succ->Vo,lt_of_lt_of_le->Vp,ne_of_lt->WA,zero_le->WJ,lt_irrefl->WK,not_lt->WL,lt_of_le_of_lt->W4,le_add_right->W5,le_of_lt->W7,ne_of_gt->XE,succ_le_succ->XT,le_succ_of_le->XU,succ_ne_self->XZ,lt_succ_of_lt->Ye,lt_trans->Yh,le_trans->Yi,lt_or_ge->Yp,pos_of_ne_zero->Zf,eq_zero_or_pos->Zj,lt_succ_self->Z3,le_of_eq->Z5,sub_zero->aN,le_of_ble_eq_true->bB,succ_pos->bM,lt_one_iff->bN,sub_add_cancel->bP,le_of_lt_succ->b7,add_zero->cA,zero_add->cE,mul_assoc->dJ,mul_ne_zero->dK,two_pow_pos->dL,mul_right_comm->dM,add_lt_add->dR,add_le_add_right->da,add_assoc->dd,eq_zero_of_not_pos->de,add_le_add->eR
open Bool renaming eq_iff_iff->VV,eq_false_iff->Vy,and_eq_true->X5,not_eq_true'->X6,or_eq_true->ZB,false_ne_true->ab,false_eq_true->bv
open PySem renaming Value->VX,Program->VY,World->VZ,Around->Va,Shared->Vb,wpAny->Vc,wpAny_holding->Vd,wpAny_bind->Ve,wpAny_truthy_bool->Vf,recursionLimit->Vk,wpAny_mono->Vv,behindInMarks->V0,standAt->V1,holding->V2,starEach->V3,swapsWith->WD,swapsWithSole->WE,swappedStores->WF,letOwnedTupleGo->WG,foldedSetIterable->WH,wpAny_pure->WM,wpAny_pyIter_list->WP,sizeLine->WS,subscripted->WV,getItem->WW,Model->Wd,Builtin->Wm,codeAny->Wq,NameKind->Wt,FuncData->Wx,cellsFrom->Wy,BindsTo->W0,codeAny_call_function->W3,wpAny_newFunctionEnv_cells->W6,Result->XF,Scope->XG,theTreesLotGoes->XI,wpAny_standAt->XJ,compEnvC->XM,compPost->XV,relabel->XW,wpAny_newObj_type->XX,wpAny_newFunctionEnv->XY,codeAny_compStart_list->Xa,closureFor->Xb,wpAny_comprehension_free->Xc,mainGlobals->Xg,builtinsNs->Xh,typeIs_int->Xk,letTemporaryGo->Xy,bindArgs->X8,codeAny_mono->YB,wpAny_call_entry->YX,wpAny_rule->ZH,codeAny_of_tree->ZL,wpAny_of_eq->ZM,wpAny_askSetting->ZR,argsOk->Ze,wpAny_attempt->Zo,wpAny_fieldsOf->Zp,wpAny_seqItems->Zs,typeLookup->Z0,sliceBounds->Z8,slicePick->Z9,sliceRange_one->aG,TriplesOk->aQ,wpAny_specialOf->aU,isSubtype->aa,builtinKind->ak,splitId->aq,callSpecial?->ay,Params->cy,NoneBooked->eW,wpAny_ite_split->eX,wpAny_sharingNotTold_none->eY
open PyProof.Rows renaming AllBare->Vl,subscriptTail->WU,Keyed->bZ,wpS_bind->bo,wpS_get->bp,wpS_pure->bq,wpS_lift->cB,sortedHeap->cH,pairsOf->cM,pairsOf_size->cP,IntsAre->dy
open PySem.Heap renaming lt_size->WB,get?_push_of_some->WQ,get?_push_size->WR,NoLimit->Wz,ExtBut->bH,size_push->cW
open Array renaming length_toList->V9,getElem?_toList->WO,toList_append->WT,getElem?_eq_getElem->dz
open PySem.Keeper renaming frame->WZ,machine->Wa,boundFrame->Wb
open PySem.W renaming Looks->Wc,looks_findIn->YA,findCls->aw,ghostOf->eZ
open Ne renaming symm->Wf
open PySem.Obj renaming mapSeq->Wg
open PySem.F renaming slot_dict_get->YK,slot_dict_keys->YR,slot_dict_items->YS,slot_list_pop->cn,type_dict_get->dD,slot_list_count->eS,type_list_count->eT
open ForInStep renaming yield->XH
open Option renaming getD_none->aC
open PySem.Str renaming ofString->YP
open Option.some renaming injEq->Yy
open PySem.Value renaming none->ZZ,ref->Zz,type->az,int->cG
open List.Perm renaming swap->Zg,trans->bU,eq_of_pairwise->dm
open PySem.NameKind renaming free->aZ
open And renaming intro->ax
open List.Sublist renaming refl->bA,cons->cx
open PySem.Builtin.Tuple renaming tupleItemsOf->cF
open PySem.Scope renaming names->c0
open PySem.Expr renaming Constant->dE
open PySem.BindsTo renaming of_defaults->dF
open PySem.Float64 renaming div->dO,cmp->dP,ofInt->dQ
open PySem.AutoFloatOps renaming typeIs_float->eU
open PySem PySem.W PyProof.Rows PySem.Calls
set_option maxRecDepth 100000
namespace Mine.Internal
section
set_option maxHeartbeats 8000000
noncomputable abbrev AQ(p:cy):Frag:=dumK.heap_1 p
theorem Ev(p:cy):GQ (AQ p) 135=true:=by kernel_rfl
theorem Hi(p:cy):NB (AQ p) 135=true:=by kernel_rfl
theorem FC(p:cy):readsIn (AQ p) 135 (.type "type")=true:=by kernel_rfl
theorem KZ(p:cy):aw (AQ p) (.ref 135) (.type "type") "__new__" = some (.get (.builtin "staticmethod.__get__") (.ref 136) .none (.ref 135)):=by kernel_rfl
theorem Nv(p:cy):recIn (AQ p) 136 "staticmethod" = some [.ref 82]:=by kernel_rfl
theorem Nw(p:cy):aw (AQ p) (.ref 135) (.type "type") "_make" = some (.get (.builtin "classmethod.__get__") (.ref 91) .none (.ref 135)):=by kernel_rfl
theorem Ah{α:Type}:∀ {l:List α} {n:Nat},l.length=n+1->∃ a r,l=a::r/\r.length=n:=fun {l n} e=>by
 induction l with
 | nil=>cases e
 | cons a r _=>exact⟨a,r,rfl,Nat.succ.inj e⟩
theorem Ka(self:VX)(rest:List VX)(e:rest.length=3):Ze "object.__init__" ⟨self::rest,[]⟩:=by
 obtain⟨a,l,rfl,e0⟩:=Ah e
 obtain⟨b,l2,rfl,e1⟩:=Ah e0
 obtain⟨d,l3,rfl,e2⟩:=Ah e1
 cases cz.mp e2
 unfold Ze
 kernel_rfl
theorem Tf(p:cy):findIn (AQ p) (.type "type") "__getattribute__" = some (some (.builtin "type.__getattribute__")):=by kernel_rfl
theorem Ta(p:cy):subIn (AQ p) (.type "type") (.type "type")=some true:=by kernel_rfl
theorem Tb(p:cy):aw (AQ p) (.type "tuple") (.type "type") "__new__" = some (.val (.builtin "tuple.__new__")):=by kernel_rfl
theorem Tt:handedIn (.builtin "tuple.__new__")=true:=by kernel_rfl
theorem IG(p:cy)(c:Ctx)(B:Base c (AQ p))(hs:c.env.scope=(AM (AQ p) 82).scope){H:Hp}{x y z:At}
  :AW c (AU (AM (AQ p) 82)) [("size",.at z),("b",.at y),("a",.at x),("_cls",.ref 135)] H fun f m' H'=>f=.ret (.tup (some 135) [x,y,z])/\H'=H:=by
 have hn:=congrArg c0 hs
 conv at hn=>rhs;whnf
 have gt:An c "tuple" (.ty "tuple"):=B.tuple hn (by kernel_rfl)
 refine AB (Ad ?_)
 refine Co ?_
 refine AB (BG ?_)
 refine AO ?_
 refine BW gt ?_
 refine⟨_,_,Lh B I0 Hc (Tf p) (Ta p) (Tb p) Tt,?_⟩
 refine AA ?_
 refine BA hn (by decide +kernel) (BK.tail (by decide) (BK.tail (by decide) (BK.tail (by decide) (BK.head _)))) ?_
 refine AA ?_
 refine Du ?_
 refine AA ?_
 refine BA hn (by decide +kernel) (BK.tail (by decide) (BK.tail (by decide) (BK.head _))) ?_
 refine AA ?_
 refine BA hn (by decide +kernel) (BK.tail (by decide) (BK.head _)) ?_
 refine AA ?_
 refine BA hn (by decide +kernel) (BK.head _) ?_
 refine AC ?_
 refine⟨[x,y,z],rfl,bB rfl,?_⟩
 refine AC ?_
 refine⟨Av,FD (fun h X=>LJ X (Ev p) (Hi p)) B (bB rfl) ?_⟩
 exact⟨rfl,rfl⟩
end
section
set_option maxHeartbeats 8000000
theorem UB{fd:Wx}{ns:List Str}(h:∀ a0 a1 a2 a3,X8 fd { pos:=[a0,a1,a2,a3] }=pure (ns.zip [a0,a1,a2,a3]))(l:List VX)(e:l.length=4):X8 fd { pos:=l }=pure (ns.zip l):=by
 obtain⟨a0,l0,rfl,e0⟩:=Ah e
 obtain⟨a1,l1,rfl,e1⟩:=Ah e0
 obtain⟨a2,l2,rfl,e2⟩:=Ah e1
 obtain⟨a3,l3,rfl,e3⟩:=Ah e2
 cases cz.mp e3
 exact h a0 a1 a2 a3
theorem MU(p:cy){c:Ctx}{k:Nat}(hf:c.fuel=k+1+1)(B:Base c (AQ p)){m:Lo}{Q:V->Lo->Hp->Prop}{H:Hp}{x y z:At}(h:Q (.tup (some 135) [x,y,z]) m H):Ao c (.ref 135) [.at x,.at y,.at z] m H Q:=by
 refine QS B hf (Ev p) (FC p) (KZ p) (Nv p) (fun e=>nomatch e) Ka fun c2 M hk B2=>?_
 refine DE (fd:=AM (AQ p) 82) (bs:=c8 [("_cls":Str),"a","b","size"] [V.ref 135,.at x,.at y,.at z]) B2 hk (Bs (by kernel_rfl)) (by kernel_rfl) (by kernel_rfl) (fun s vvs X r=>Ax rfl (fun vvs hl=>?_) s vvs X r) fun L c3 hc hk B3=>?_
 .exact UB (fun v0 v1 v2 v3=>by kernel_rfl) vvs hl
 .have e1:CY (AM (AQ p) 82).scope.names (c8 [("_cls":Str),"a","b","size"] [V.ref 135,.at x,.at y,.at z])=[(("size":Str),.at z),("b",.at y),("a",.at x),("_cls",.ref 135)]:=by kernel_rfl
  have e2:Aw L (AM (AQ p) 82) (c8 [("_cls":Str),"a","b","size"] [V.ref 135,.at x,.at y,.at z])=[]:=by kernel_rfl
  rw[e1,e2]
  refine AW.post (AW.mono (IG p c3 B3 hc.scope) ?_)
  rintro f m' H' ⟨rfl,rfl⟩
  exact⟨[],_,⟨(fun _ _ e=>nomatch e),fun _ h=>h,id⟩,[x,y,z],rfl,h⟩
end
theorem AW.cutk{c:Ctx}{b:List Stmt}{m:Lo}{H:Hp}{Q:Fl->Lo->Hp->Prop}(h:∀ Q':Fl->Lo->Hp->Prop,(∀ f m H,Q f m H->Q' f m H)->AW c b m H Q'):AW c b m H Q:=h Q fun _ _ _ q=>q
theorem BM(p:cy):Cls (AQ p) 242:=⟨by kernel_rfl,by kernel_rfl,by kernel_rfl,by kernel_rfl,by kernel_rfl⟩
structure JunkFn(c:Ctx)(J:V)(jk:IS->Bool)(W:Hp):Prop where
 tru:∀ m H' (Q:Bool->Lo->Hp->Prop),(∀ p∈W,p∈H')->Q true m H'->RL c J m H' Q
 keep:∀ H',(∀ p∈W,p∈H')->Ba c J H'
 call:∀ k m H' (Q:V->Lo->Hp->Prop),(∃ n,k=IS.i n)->(∀ p∈W,p∈H')->Q (.bool (jk k)) m H'->Ck c J [k.v] m H' Q
noncomputable def LF(c:Ctx)(J:V)(jk:IS->Bool)(W:Hp):Prop:=(J=.none/\∀ k,jk k=false)∨JunkFn c J jk W
noncomputable def BB(n:Nat)(on:Bool)(e:IS×Addr×List Int):Bool:=on&&decide (200<=n)&&decide (n / 100+1<e.2.2.length)
theorem Hm:∀ {G:GL} (nd:(G.map (·.1)).Nodup) {e e':IS×Addr×List Int} (h:e∈G) (h':e'∈G) (q:e.1=e'.1),e=e'
 | [],_,_,_,h,_,_=>by cases h
 | g::G,nd,e,e',h,h',q=>by
  rw[Vu,Vr]at nd
  rcases Vq.mp h with rfl|h1<;>rcases Vq.mp h' with rfl|h2
  .rfl
  .exact absurd (Vm.mpr ⟨e',h2,q.symm⟩) nd.1
  .exact absurd (Vm.mpr ⟨e,h1,q⟩) nd.1
  .exact Hm nd.2 h1 h2 q
theorem FF{G:GL}(nd:(G.map (·.1)).Nodup)(P:IS×Addr×List Int->Bool)(σ:List IS)(h:∀ k,k∈σ↔k∈(G.filter P).map (·.1)):((gD G).filter fun e=>decide (e.1∉σ))=gD (G.filter fun e=>!P e):=by
 unfold gD
 rw[c9]
 congr 1
 apply cu
 intro e he
 have:e.1∈σ↔P e=true:=by
  rw[h]
  constructor
  .intro q
   obtain⟨e',he',ee⟩:=Vm.mp q
   obtain⟨h1,h2⟩:=cr.mp he'
   obtain rfl:e'=e:=Hm nd h1 he ee
   exact h2
  .intro q
   exact Vm.mpr ⟨e,cr.mpr ⟨he,q⟩,rfl⟩
 by_cases q:P e=true
 .simp[this,q]
 .simp[this,q]
theorem CD{α:Type}{a b:α}{l:List α}(h:a∈l):a∈b::l:=VM b h
theorem HH{α:Type}{a:α}{l:List α}:a∈a::l:=mS
section
variable{c:Ctx}{x d rb:Addr}{bs:List IS}
noncomputable abbrev M6(D rb x:Addr):Lo:=[("b2j",.ref D),("b",.ref rb),("self",.ref x)]
theorem Mo(p:cy)(B:Base c (AQ p))(hs:c.env.scope=(AM (AQ p) 188).scope){H:Hp}{fs:List (Str×V)}{Q:Fl->Lo->Hp->Prop}(hfb:fs.lookup ("b":Str)=some (.ref rb))(hrb:(rb,O.list (bs.map IS.v))∈H)(hfz:fs.length<=100)(hbz:bs.length<=1000)(hQ:∀ D G ep m H',gP G=Lg bs->AI m H' (M6 D rb x) ((D,.dict ep (gD G))::(x,.inst 242 d)::(d,.ns (("b2j",.ref D)::fs))::(gL G++H))->AW c ((AU (AM (AQ p) 188)).drop 3) m H' Q) :
  AW c (AU (AM (AQ p) 188)) [("self",.ref x)] ((x,.inst 242 d)::(d,.ns fs)::H) Q:=by
 have hn:=congrArg c0 hs
 conv at hn=>rhs;whnf
 have hC:=BM p
 have ge:An c "enumerate" (.ty "enumerate"):=B.enumerate hn (by kernel_rfl)
 have lSe:Lc c "self":=AG hn (by kernel_rfl)
 have lB:Lc c "b":=AG hn (by kernel_rfl)
 have lD:Lc c "b2j":=AG hn (by kernel_rfl)
 have lI:Lc c "i":=AG hn (by kernel_rfl)
 have lE:Lc c "elt":=AG hn (by kernel_rfl)
 have lX:Lc c "indices":=AG hn (by kernel_rfl)
 have eL:(bs.map IS.a).map V.at=bs.map IS.v:=by rw[XC];exact Xm fun k _=>(IS.v_a k).symm
 refine AB (Al lB (Pu.attr B hC (.mem HH) (.mem (CD HH)) (by kernel_rfl) (.n lSe) hfb) ?_)
 refine AB (DI (Gp B fun D=>Az ((Pu.n lSe) _ (Ay B hC (by kernel_rfl) (.mem (CD HH)) (.tail (.tail (.head _))) (AP (AE lD.1 ?_)) (by exact AJ 1 (.l Y0 (.n 100)) (.l Y0 (.n 1000)) [_] hfz)))))
 refine CW (fun m2 H2=>∃ G ep,gP G=Bf bs bs.length/\AI m2 H2 (M6 D rb x) ((D,.dict ep (gD G))::(x,.inst 242 d)::(d,.ns (("b2j",.ref D)::fs))::(gL G++H))) (GE (LZ ge ((Pu.n lB) _ ⟨rb,bs.map IS.a,rfl,by rw[eL];exact .mem (CD (CD (CD hrb))),fun i m2 H2=>∃ G ep,gP G=Bf bs i/\AI m2 H2 (M6 D rb x) ((D,.dict ep (gD G))::(x,.inst 242 d)::(d,.ns (("b2j",.ref D)::fs))::(gL G++H)),⟨[],0,rfl,Aa Ab.k⟩,?_,?_⟩))) ?_
 .rintro i m2 H2 hi ⟨G,ep,hG,hl⟩
  rw[V8]at hi
  have hk:=Z6 hi
  generalize bs[i]=k at hk
  have hka:(bs.map IS.a).getD i .none=k.a:=by rw[WN,Zu,hk];rfl
  rw[eL]
  refine⟨AK.less hl (CD (CD (CD (XN _ hrb)))),FU.less hl ?_⟩
  show Fs c _ (.tup .none [.int i,(bs.map IS.a).getD i .none]) _ _ _
  rw[hka]
  refine Ch (xs:=[.int i,k.a]) (AP (AE lI.1 (AP (AE lE.1 ?_))))
  show AW c _ _ _ _
  rw[<- IS.v_a]
  exact Sw lE lI lD lX rfl hG hk hbz (fun _ _ _ h=>AO h) (fun _ _ _ h=>AO h) fun G' ep' u H' h1 h2=>⟨G',ep',h1,(Aa Ab.k).trans h2⟩
 .rintro m2 H2 ⟨G,ep,hG,hl⟩
  rw[V8]at hG
  rw[eL]
  exact⟨AK.less hl (CD (CD (CD (XN _ hrb)))),G,ep,hG,hl⟩
 .rintro m2 H2 ⟨G,ep,hG,hl⟩
  exact hQ D G ep m2 H2 hG hl
theorem Ko(G:GL)(f:IS->Bool):(G.map (·.1)).filter f=(G.filter fun e=>f e.1).map (·.1):=by rw[c9];rfl
theorem QR(p:cy)(B:Base c (AQ p))(hs:c.env.scope=(AM (AQ p) 188).scope){T W:Hp}{D:Addr}{G:GL}{ep:Nat}{fs:List (Str×V)}{J:V}{jk:IS->Bool}{m:Lo}{H:Hp}{Q:Fl->Lo->Hp->Prop}(hfj:fs.lookup ("isjunk":Str)=some J)(hJb:J.notBi=true)(hJ:LF c J jk W)(hW:∀ p∈W,p∈T)(hfz:fs.length<=200)(hnd:(G.map (·.1)).Nodup)(hGi:∀ g∈G,∃ n,g.1=IS.i n)(hGn:G.length<=1000)(hl:AI m H (M6 D rb x) ((D,.dict ep (gD G))::(x,.inst 242 d)::(d,.ns fs)::T))(hQ:∀ S z1 ep' m H',AI m H' (M6 D rb x) ((S,.set z1 ((G.map (·.1)).filter jk))::(D,.dict ep' (gD (G.filter fun e=>!jk e.1)))::(x,.inst 242 d)::(d,.ns (("bjunk",.ref S)::fs))::T)->AW c ((AU (AM (AQ p) 188)).drop 6) m H' Q) :
  AW c ((AU (AM (AQ p) 188)).drop 3) m H Q:=by
 have hn:=congrArg c0 hs
 conv at hn=>rhs;whnf
 have hC:=BM p
 have gs:An c "set" (.ty "set"):=B.set hn (by kernel_rfl)
 have lSe:Lc c "self":=AG hn (by kernel_rfl)
 have lD:Lc c "b2j":=AG hn (by kernel_rfl)
 have lE:Lc c "elt":=AG hn (by kernel_rfl)
 have lJ:Lc c "junk":=AG hn (by kernel_rfl)
 have lF:Lc c "isjunk":=AG hn (by kernel_rfl)
 refine AW.less hl ?_
 refine AB (DI (AZ ((Pu.glob gs) _ (AC ⟨Fe,OF fun S z=>Az ((Pu.n lSe) _ (Ay B hC (by kernel_rfl) (.mem (CD (CD HH))) (.tail (.tail (.tail (.head _)))) (AP (AE lJ.1 ?_)) (by exact AJ 1 (.l Y0 (.n 200)) (.l Y0 (.n 1000)) [_] hfz)))⟩))))
 refine AB (Al lF (Pu.attr B hC (.mem (CD (CD HH))) (.mem (CD (CD (CD HH)))) (by kernel_rfl) (.n lSe) (by rw[AN (by decide)];exact hfj) hJb) ?_)
 refine CW (fun m1 H1=>∃ z1 ep',AI m1 H1 (M6 D rb x) ((S,.set z1 ((G.map (·.1)).filter jk))::(D,.dict ep' (gD (G.filter fun e=>!jk e.1)))::(x,.inst 242 d)::(d,.ns (("bjunk",.ref S)::fs))::T)) (EP (Dl ((Pu.n lF) _ ?_) (by intro _;rfl))) fun m1 H1 t8=>t8.elim fun z1 t9=>t9.elim fun ep' h=>hQ S z1 ep' m1 H1 h
 rcases hJ with ⟨rfl,hjk⟩|hJ
 .have e1:(G.map (·.1)).filter jk=[]:=by rw[aW];intro k _;rw[hjk];simp
  have e2:(G.filter fun e=>!jk e.1)=G:=by rw[ct];intro e _;rw[hjk];rfl
  exact NC (AX ⟨z,ep,by rw[e1,e2];exact Aa Ab.k⟩)
 .have hW4:∀ {P1 P2 P3 P4:Addr×O},∀ p∈W,p∈P1::P2::P3::P4::T:=fun p hp=>CD (CD (CD (CD (hW p hp))))
  refine hJ.tru _ _ _ hW4 ?_
  rw[Ko]
  refine CW (fun m2 H2=>∃ z',AI m2 H2 (("isjunk",J)::("junk",.ref S)::M6 D rb x) ((S,.set z' (((G.take G.length).filter fun e=>jk e.1).map (·.1)))::(D,.dict ep (gD G))::(x,.inst 242 d)::(d,.ns (("bjunk",.ref S)::fs))::T)) (GE (Pz rfl (AO ((Pu.n lD) _ ⟨_,_,Ea (.mem (CD HH)) YR PySem.F.type_dict_keys,AC ⟨Av,SR (.mem (CD HH)) fun vw=>⟨vw,D,ep,gD G,rfl,.mem HH,.mem (CD (CD HH)),
   fun i m2 H2=>∃ z',AI m2 H2 (("isjunk",J)::("junk",.ref S)::M6 D rb x) ((S,.set z' (((G.take i).filter fun e=>jk e.1).map (·.1)))::(D,.dict ep (gD G))::(x,.inst 242 d)::(d,.ns (("bjunk",.ref S)::fs))::T),⟨z,(Aa Ab.k).trans (AI.heap (cx _ (bA _)))⟩,?_,?_⟩⟩⟩)))) ?_
  .rintro i m2 H2 hi ⟨z',hl⟩
   rw[Gg]at hi
   have hg:=Z6 hi
   generalize G[i]=g at hg
   have hk:((gD G).getD i (.i 0,.none)).1=g.1:=by unfold gD;rw[WN,Zu,hg];rfl
   refine⟨AK.less hl (CD HH),FU.less hl ?_⟩
   dsimp only
   rw[hk]
   refine AP (AE lE.1 ?_)
   refine Qc lJ lE (.val (.call1 (.n lF) (.n lE) (hJ.keep _ hW4) (fun Q h=>hJ.call _ _ _ Q (hGi _ (Zy hg)) hW4 h) (hE:=fun _ h=>AZ h)) (by intro _;rfl)) rfl rfl ?_ (fun _ _ _ h=>AO h) fun z2=>⟨z2,?_⟩
   .rw[V8];exact Yi (aX _ _) (by rw[cb];exact Yi (Nat.min_le_right _ _) hGn)
   .rw[JO (P:=fun e=>jk e.1) hnd hg]
    exact Aa Ab.k
  .rintro m2 H2 ⟨z',hl⟩
   rw[Gg]at hl
   exact⟨AK.less hl (CD HH),z',hl⟩
  .rintro m2 H2 ⟨z',hl⟩
   rw[aO]at hl
   refine AW.less hl (AB (JH (m':=M6 D rb x) lE lJ lD rfl (Aa Ab.k) rfl rfl ((dA.map _).nodup hnd) (fun k hk=>?_) (by rw[Gg];exact Yi hGn (by decide)) fun σ ep' m3 H3 hσ hl=>AX ⟨z',ep',?_⟩))
   .obtain⟨e,he,rfl⟩:=Vm.mp hk
    rw[IP]
    exact Vm.mpr ⟨e,(cr.mp he).1,rfl⟩
   .rw[FF hnd (fun e=>jk e.1) σ fun k=>hσ.mem_iff]at hl
    exact hl
theorem Sx(p:cy)(B:Base c (AQ p))(hs:c.env.scope=(AM (AQ p) 188).scope){T:Hp}{D S:Addr}{G:GL}{ep:Nat}{z1:C8}{ks:List IS}{fs:List (Str×V)}{on:Bool}{m:Lo}{H:Hp}{Q:Fl->Lo->Hp->Prop}(hfa:fs.lookup ("autojunk":Str)=some (.bool on))(hrb:(rb,O.list (bs.map IS.v))∈T)(hT:∀ g∈G,(g.2.1,O.list (g.2.2.map .int))∈T)(hgz:∀ g∈G,g.2.2.length<=1000)(hfz:fs.length<=200)(hbz:bs.length<=1000)(hnd:(G.map (·.1)).Nodup)(hGn:G.length<=1000)(hl:AI m H (M6 D rb x) ((S,.set z1 ks)::(D,.dict ep (gD G))::(x,.inst 242 d)::(d,.ns fs)::T))(hQ:∀ S2 z2 ep' m H',AI m H' [] ((S2,.set z2 ((G.filter (BB bs.length on)).map (·.1)))::(S,.set z1 ks)::(D,.dict ep' (gD (G.filter fun e=>!BB bs.length on e)))::(x,.inst 242 d)::(d,.ns (("bpopular",.ref S2)::fs))::T)->Q .next m H') :
  AW c ((AU (AM (AQ p) 188)).drop 6) m H Q:=by
 have hn:=congrArg c0 hs
 conv at hn=>rhs;whnf
 have hC:=BM p
 have gl:An c "len" (.bi "len"):=B.len hn (by kernel_rfl)
 have gs:An c "set" (.ty "set"):=B.set hn (by kernel_rfl)
 have lSe:Lc c "self":=AG hn (by kernel_rfl)
 have lB:Lc c "b":=AG hn (by kernel_rfl)
 have lD:Lc c "b2j":=AG hn (by kernel_rfl)
 have lE:Lc c "elt":=AG hn (by kernel_rfl)
 have lP:Lc c "popular":=AG hn (by kernel_rfl)
 have lN:Lc c "n":=AG hn (by kernel_rfl)
 have lT:Lc c "ntest":=AG hn (by kernel_rfl)
 have lG:Lc c "idxs":=AG hn (by kernel_rfl)
 refine AW.less hl ?_
 refine AB (DI (AZ ((Pu.glob gs) _ (AC ⟨Fe,OF fun S2 z=>Az ((Pu.n lSe) _ (Ay B hC (by kernel_rfl) (.mem (CD (CD (CD HH)))) (.tail (.tail (.tail (.tail (.head _))))) (AP (AE lP.1 ?_)) (by exact AJ 1 (.l Y0 (.n 200)) (.l Y0 (.n 1000)) [_] hfz)))⟩))))
 refine AB (Al lN (.len gl (.n lB) (.mem (CD (CD (CD (CD (CD hrb)))))) (by rw[V8];exact Yi hbz (by decide)) (hE:=fun _ h=>AZ h)) ?_)
 rw[V8]
 refine CW (fun m1 H1=>∃ z2 ep',AI m1 H1 [] ((S2,.set z2 ((G.filter (BB bs.length on)).map (·.1)))::(S,.set z1 ks)::(D,.dict ep' (gD (G.filter fun e=>!BB bs.length on e)))::(x,.inst 242 d)::(d,.ns (("bpopular",.ref S2)::fs))::T)) (BU (.and2 (.val (Pu.attr B hC (.mem (CD (CD (CD HH)))) (.mem (CD (CD (CD (CD HH))))) (by kernel_rfl) (.n lSe) (by rw[AN (by decide)];exact hfa)) (by intro _;rfl)) fun _=>.geN (a:=bs.length) (b:=200) (.n lN) .one) (fun h=>?_) (fun h=>?_)) fun m1 H1 t8=>t8.elim fun z2 t9=>t9.elim fun ep' h=>AX (hQ S2 z2 ep' m1 H1 h)
 .have eP:∀ e,BB bs.length on e=decide (bs.length / 100+1<e.2.2.length):=fun e=>by unfold BB;rw[h,Bool.true_and]
  generalize BB bs.length on=P at eP ⊢
  refine AB (Al lT (v:=.int ((bs.length / 100+1:Nat):Int)) (.succ fun Q h=>BP ((Pu.n lN) _ ((Pu.one (i:=100)) _ (Qj (by rw[Int.fdiv_eq_ediv_of_nonneg _ (by decide)];exact h))))) ?_)
  refine CW (fun m2 H2=>∃ z',AI m2 H2 (("popular",.ref S2)::M6 D rb x) ((S2,.set z' (((G.take G.length).filter P).map (·.1)))::(S,.set z1 ks)::(D,.dict ep (gD G))::(x,.inst 242 d)::(d,.ns (("bpopular",.ref S2)::fs))::T)) (GE (OI (AO ((Pu.n lD) _ ⟨_,_,Ea (.mem (CD (CD HH))) YS PySem.F.type_dict_items,AC ⟨Av,Px (.mem (CD (CD HH))) fun vw=>⟨vw,D,ep,G.map fun e=>(e.1,At.ref e.2.1),rfl,.mem HH,?_,
   fun i m2 H2=>∃ z',AI m2 H2 (("ntest",.int ((bs.length / 100+1:Nat):Int))::("popular",.ref S2)::M6 D rb x) ((S2,.set z' (((G.take i).filter P).map (·.1)))::(S,.set z1 ks)::(D,.dict ep (gD G))::(x,.inst 242 d)::(d,.ns (("bpopular",.ref S2)::fs))::T),⟨z,(Aa Ab.k).trans (AI.heap (cx _ (bA _)))⟩,?_,?_⟩⟩⟩)))) ?_
  .rw[XC]
   exact .mem (CD (CD (CD HH)))
  .rintro i m2 H2 hi ⟨z',hl⟩
   rw[V8]at hi
   have hg:=Z6 hi
   have hgm:=ZJ hi
   generalize G[i]=g at hg hgm
   have hk:(G.map fun e=>(e.1,At.ref e.2.1)).getD i (.i 0,.none)=(g.1,At.ref g.2.1):=by rw[WN,Zu,hg];rfl
   rw[XC]
   refine⟨AK.less hl (CD (CD HH)),FU.less hl ?_⟩
   dsimp only
   rw[hk]
   refine Ch (xs:=[g.1.a,.ref g.2.1]) (AP (AE lE.1 (AP (AE lG.1 ?_))))
   show AW c _ _ _ _
   rw[<- IS.v_a]
   refine Qc lP lE (b:=P g) ?_ rfl rfl ?_ (fun _ _ _ h=>AO h) fun z2=>⟨z2,?_⟩
   .rw[eP,show(g.2.2.length:Nat)=(g.2.2.map V.int).length by rw[V8]]
    exact .gtN (.len gl (.n lG) (.mem (CD (CD (CD (CD (CD (hT g hgm))))))) (by rw[V8];exact Yi (hgz g hgm) (by decide)) (hE:=fun _ h=>AZ h)) (.n lT)
   .rw[V8];exact Yi (aX _ _) (by rw[cb];exact Yi (Nat.min_le_right _ _) hGn)
   .rw[JO (P:=P) hnd hg]
    exact Aa Ab.k
  .rintro m2 H2 ⟨z',hl⟩
   rw[V8]at hl
   rw[XC]
   exact⟨AK.less hl (CD (CD HH)),z',hl.trans (Aa Ab.k)⟩
  .rintro m2 H2 ⟨z',hl⟩
   rw[aO]at hl
   refine AW.less (hl.trans (AI.perm ((Zg _ _ _).cons _))) (AB (JH (m':=[("b2j",.ref D)]) lE lP lD rfl (Aa Ab.k) rfl rfl ((dA.map _).nodup hnd) (fun k hk=>?_) (by rw[Gg];exact Yi hGn (by decide)) fun σ ep' m3 H3 hσ hl=>AX ⟨z',ep',?_⟩))
   .obtain⟨e,he,rfl⟩:=Vm.mp hk
    rw[IP]
    exact Vm.mpr ⟨e,(cr.mp he).1,rfl⟩
   .rw[FF hnd P σ fun k=>hσ.mem_iff]at hl
    exact hl.trans ((Aa Ab.nil).trans (AI.perm ((Zg _ _ _).cons _)))
 .have eP:∀ e,BB bs.length on e=false:=fun e=>by unfold BB;rw[h,Bool.false_and]
  have e1:G.filter (BB bs.length on)=[]:=by rw[aW];intro e _;rw[eP];decide
  have e2:(G.filter fun e=>!BB bs.length on e)=G:=by rw[ct];intro e _;rw[eP];rfl
  rw[e1,e2]
  exact AX ⟨z,ep,Aa Ab.nil⟩
end
theorem Os(p:cy)(c:Ctx)(B:Base c (AQ p))(hs:c.env.scope=(AM (AQ p) 188).scope){H:Hp}{x d rb:Addr}{fs:List (Str×V)}{bs:List IS}{J:V}{on:Bool}(hfb:fs.lookup ("b":Str)=some (.ref rb))(hfj:fs.lookup ("isjunk":Str)=some J)(hfa:fs.lookup ("autojunk":Str)=some (.bool on))(hJb:J.notBi=true){jk:IS->Bool}{W:Hp}(hJ:LF c J jk W)(hW:∀ p∈W,p∈H)(hrb:(rb,O.list (bs.map IS.v))∈H)(hfz:fs.length<=100)(hbi:∀ x∈bs,∃ n,x=IS.i n)(hbz:bs.length<=1000)
  :AW c (AU (AM (AQ p) 188)) [("self",.ref x)] ((x,.inst 242 d)::(d,.ns fs)::H)
   fun f _ H'=>f.val=.none/\∃ D S S2 z1 z2 ep G,gP G=Lg bs/\AI [] H' [] ((S2,.set z2 (((G.filter fun e=>!jk e.1).filter (BB bs.length on)).map (·.1)))::(S,.set z1 ((G.map (·.1)).filter jk))::(D,.dict ep (gD ((G.filter fun e=>!jk e.1).filter fun e=>!BB bs.length on e)))::(x,.inst 242 d)::(d,.ns (("bpopular",.ref S2)::("bjunk",.ref S)::("b2j",.ref D)::fs))::(gL G++H)):=by
 refine Mo p B hs hfb hrb hfz hbz fun D G ep m1 H1 hG hl=>?_
 have gi:=Q3 bs
 have hGn:=Ez bs bs.length
 rw[show Bf bs bs.length=gP G from hG.symm,OW]at hGn
 rw[<- hG]at gi
 have hGz:G.length<=1000:=Yi hGn hbz
 have hnd:=gi.nd
 rw[Ds]at hnd
 refine QR p B hs (fs:=("b2j",.ref D)::fs) (by rw[AN (by decide)];exact hfj) hJb hJ (fun q hq=>XN _ (hW q hq)) (Yi (XT hfz) (by decide)) hnd (fun g hg=>((gi.mem g.1).mp (by rw[Ds];exact Vm.mpr ⟨g,hg,rfl⟩)).elim fun i t9=>hbi _ (Zy t9.2)) hGz hl fun S z1 ep1 m2 H2 hl=>?_
 refine Sx p B hs (on:=on) (fs:=("bjunk",.ref S)::("b2j",.ref D)::fs) (by rw[AN (by decide),AN (by decide)];exact hfa) (XN _ hrb) (fun g hg=>XR _ (OX (cr.mp hg).1)) (fun g hg=>?_) (Yi (XT (XT hfz)) (by decide)) hbz ((dA.map _).nodup hnd) (Yi (aX _ _) hGz) hl fun S2 z2 ep2 m3 H3 hl=>⟨rfl,D,S,S2,z1,z2,ep2,G,hG,⟨fun _ _ e=>(by cases e),hl.2⟩⟩
 have:=gi.at_ (g.1,g.2.2) (Vm.mpr ⟨g,(cr.mp hg).1,rfl⟩)
 dsimp only at this
 rw[this]
 exact Yi (EV bs _ _) hbz
theorem Kt{es:List (IS×V)}{k j:IS}{v:V}(h:es.any (fun e=>decide (e.1=k))=false):dictAt (es++[(k,v)]) j=if j=k then some v else dictAt es j:=by
 induction es with
 | nil=>
  rw[Ww,Bo]
  by_cases q:j=k
  .rw[if_pos q,if_pos q.symm]
  .rw[if_neg q,if_neg fun x=>q x.symm]
 | cons e es ih=>
  rw[List.any_cons,Bool.or_eq_false_iff]at h
  rw[List.cons_append,Bo,ih h.2,Bo]
  by_cases q:e.1=j
  .rw[if_pos q,if_pos q,if_neg fun x=>of_decide_eq_false h.1 (q.trans x)]
  .rw[if_neg q,if_neg q]
theorem Ks{es:List (IS×V)}{k j:IS}{v:V}(h:es.any (fun e=>decide (e.1=k))=true):dictAt (es.map fun e=>if e.1=k then (e.1,v) else e) j=if j=k then some v else dictAt es j:=by
 have hm:∀ es:List (IS×V),j≠k->dictAt (es.map fun e=>if e.1=k then (e.1,v) else e) j=dictAt es j:=fun es r=>by
  induction es with
  | nil=>rfl
  | cons e es ih=>
   rw[Vu,Bo,Bo,ih]
   by_cases q:e.1=k
   .rw[if_pos q,if_neg fun x=>r (x.symm.trans q),if_neg fun x=>r (x.symm.trans q)]
   .rw[if_neg q]
 by_cases r:j=k
 .rw[if_pos r,r]
  induction es with
  | nil=>exact nomatch h
  | cons e es ih=>
   rw[Vu,Bo]
   by_cases q:e.1=k
   .rw[if_pos q,if_pos q]
   .rw[if_neg q,if_neg q]
    rw[List.any_cons,decide_eq_false q,Bool.false_or]at h
    exact ih h
 .rw[if_neg r,hm es r]
theorem DK{es:List (IS×V)}{k j:IS}{v:V}:dictAt (BQ es k v) j=if j=k then some v else dictAt es j:=by
 unfold BQ
 by_cases h:es.any (fun e=>decide (e.1=k))=true
 .rw[if_pos h];exact Ks h
 .rw[if_neg h];exact Kt (Bool.not_eq_true _▸h)
theorem Df{es:List (IS×V)}{k:IS}{v:V}:(BQ es k v).length<=es.length+1:=by unfold BQ;split<;>simp
noncomputable def DR(H:Hp)(es:List (IS×V))(idx:Int->List Nat):Prop:=∀ v:Int,(dictAt es (.i v)=.none/\idx v=[])∨∃ q,dictAt es (.i v)=some (.ref q)/\(q,O.list ((idx v).map fun j=>V.int (j:Nat)))∈H
noncomputable abbrev QI(as:List Int)(idx:Int->List Nat):Nat->Nat->Nat->Nat->Nat->Nat->Bool:=DT fun i j=>decide (j∈idx (as.getD i 0))
noncomputable def Bm(as bs:List Int)(i j:Nat):Bool:=decide (as.getD i 0=bs.getD j 0)
noncomputable def CU(bs:List Int)(ks:List IS)(j:Nat):Bool:=decide (IS.i (bs.getD j 0)∈ks)
noncomputable def ER(E:Nat->Nat->Bool):Nat->Nat->Nat
 | 0,_=>0
 | i+1,j=>bk E i j
noncomputable def CV(es:List (IS×V))(f:Nat->Nat):Prop:=(∀ j:Nat,(dictAt es (.i j)).getD (.int 0)=.int (f j:Nat))/\dictAt es (.i (-1))=.none
theorem CV.nil:CV [] (fun _=>0):=⟨fun _=>rfl,rfl⟩
theorem CV.congr{es:List (IS×V)}{f g:Nat->Nat}(h:CV es f)(e:∀ j,g j=f j):CV es g:=⟨fun j=>by rw[e];exact h.1 j,h.2⟩
theorem CV.put{es:List (IS×V)}{f g:Nat->Nat}{j k:Nat}(h:CV es f)(e:∀ t,g t=if t=j then k else f t):CV (BQ es (.i j) (.int k)) g:=by
 refine⟨fun t=>?_,?_⟩
 .rw[DK,e]
  by_cases q:t=j
  .subst q;rw[if_pos rfl,if_pos rfl];rfl
  .rw[if_neg q,if_neg (by intro x;injection x with x;exact q (VW.mp x))];exact h.1 t
 .rw[DK,if_neg (by intro x;injection x with x;omega)];exact h.2
theorem NZ{E:Nat->Nat->Bool}{es:List (IS×V)}{i j:Nat}(h:CV es (ER E i))(he:E i j=true):∃ k:Nat,(dictAt es (.i ((j:Int)-1))).getD (.int 0)=.int (k:Nat)/\k+1=bk E i j:=by
 cases j with
 | zero=>
  refine⟨0,?_,?_⟩
  .rw[show((0:Nat):Int)-1=-1 from rfl,h.2];rfl
  .cases i with
   | zero=>exact(if_pos he).symm
   | succ i=>exact(if_pos he).symm
 | succ j=>
  refine⟨ER E i j,?_,?_⟩
  .rw[show((j+1:Nat):Int)-1=(j:Nat) from Ld (bM j)];exact h.1 j
  .cases i with
   | zero=>exact(if_pos he).symm
   | succ i=>exact(if_pos he).symm
noncomputable def CM(E:Nat->Nat->Bool)(i:Nat)(ps:List Nat)(p q:Nat):Prop:=(p<i/\E p q=true)∨(p=i/\q∈ps/\E p q=true)
theorem NU{E:Nat->Nat->Bool}{i j:Nat}{ps:List Nat}(h:∀ q∈ps,q<j){p q:Nat}(s:CM E i ps p q):L0 p q i j:=by
 rcases s with ⟨s,_⟩|⟨s,t,_⟩
 .exact .inl s
 .exact .inr ⟨s,W7 (h q t)⟩
theorem MF{E:Nat->Nat->Bool}{i j:Nat}{ps:List Nat}(he:E i j=true)(p q:Nat):CM E i (ps++[j]) p q↔(CM E i ps p q∨(p=i/\q=j)):=by
 unfold CM
 rw[W9,XQ]
 constructor
 .rintro(h|⟨h,(k|k),l⟩)
  .exact .inl (.inl h)
  .exact .inl (.inr ⟨h,k,l⟩)
  .exact .inr ⟨h,k⟩
 .rintro((h|⟨h,k,l⟩)|⟨h,k⟩)
  .exact .inl h
  .exact .inr ⟨h,.inl k,l⟩
  .subst h k;exact .inr ⟨rfl,.inr rfl,he⟩
theorem MG{E:Nat->Nat->Bool}{i j:Nat}{ps:List Nat}(he:E i j=false)(p q:Nat):CM E i (ps++[j]) p q↔CM E i ps p q:=by
 unfold CM
 rw[W9,XQ]
 constructor
 .rintro(h|⟨h,(k|k),l⟩)
  .exact .inl h
  .exact .inr ⟨h,k,l⟩
  .subst h k;rw[he]at l;cases l
 .rintro(h|⟨h,k,l⟩)
  .exact .inl h
  .exact .inr ⟨h,.inl k,l⟩
noncomputable def Gi(E:Nat->Nat->Bool)(i:Nat)(ps:List Nat)(j:Nat):Nat:=if j∈ps then bk E i j else 0
theorem Ho(E:Nat->Nat->Bool)(i:Nat)(ps:List Nat)(j t:Nat):Gi E i (ps++[j]) t=if t=j then bk E i j else Gi E i ps t:=by
 unfold Gi
 by_cases z:t=j
 .subst z;simp
 .simp[z]
theorem Mi{E:Nat->Nat->Bool}{i:Nat}{ps:List Nat}{j:Nat}(he:E i j=false)(t:Nat):Gi E i (ps++[j]) t=Gi E i ps t:=by
 rw[Ho]
 by_cases z:t=j
 .subst z;rw[if_pos rfl,Fo he];unfold Gi;rw[Fo he];simp
 .rw[if_neg z]
noncomputable abbrev BC(f D rb ra:Addr)(bhi blo ahi alo:Nat):Lo:=[("isbjunk",.ref f),("b2j",.ref D),("b",.ref rb),("a",.ref ra),("bhi",.int bhi),("blo",.int blo),("ahi",.int ahi),("alo",.int alo)]
noncomputable abbrev BF(bi bj bz:Nat)(m:Lo):Lo:=("bestsize",.int bz)::("bestj",.int bj)::("besti",.int bi)::m
noncomputable def RC(E:Nat->Nat->Bool)(alo blo:Nat)(no:Addr)(m:Lo)(H:Hp)(i:Nat)(m2:Lo)(H2:Hp):Prop:=
 ∃ dj ep es bi bj bz,CV es (ER E i)/\BestTo E alo blo (fun p q=>p<i/\E p q=true) bi bj bz/\AI m2 H2 (("j2len",.ref dj)::("nothing",.ref no)::BF bi bj bz m) ((dj,.dict ep es)::H)
noncomputable def Tz(E:Nat->Nat->Bool)(alo blo i:Nat)(ps:List Nat)(no dn g:Addr)(m:Lo)(H:Hp)(t:Nat)(m2:Lo)(H2:Hp):Prop:=
 ∃ ep es bi bj bz,CV es (Gi E i (ps.take t))/\es.length<=t/\BestTo E alo blo (CM E i (ps.take t)) bi bj bz/\AI m2 H2 (("i",.int i)::("newj2len",.ref dn)::("j2lenget",.ref g)::("nothing",.ref no)::BF bi bj bz m) ((dn,.dict ep es)::H)
theorem MO{l:List Nat}(h:l.Pairwise (·<·)){t j:Nat}(hj:l[t]?=some j):∀ q∈l.take t,q<j:=fun q hq=>by
 obtain⟨ht,rfl⟩:=WX.mp hj
 obtain⟨u,hu,rfl⟩:=dB hq
 rw[List.getElem_take]
 rw[cb]at hu
 exact Yj.mp h u t (by exact AJ 3 (.t Y0 (.mn Y1 Y2)) (.t Y0 Y2) [_,_,_] hu) ht (by exact AJ 3 (.t Y0 (.mn Y1 Y2)) (.t Y0 Y1) [_,_,_] hu)
theorem MP{l:List Nat}(h:l.Pairwise (·<·)){t j:Nat}(hj:l[t]?=some j):∀ q∈l,q∈l.take t∨j<=q:=fun q hq=>by
 obtain⟨ht,rfl⟩:=WX.mp hj
 obtain⟨u,hu,rfl⟩:=dB hq
 rcases Yp u t with z|z
 .exact .inl (List.mem_take_iff_getElem.mpr ⟨u,by exact AL 3 (.t Y0 Y1) (.t Y2 Y0) (.t Y2 (.mn Y0 Y1)) [_,_,_] ht z,rfl⟩)
 .rcases Yp t u with y|y
  .exact .inr (W7 (Yj.mp h t u ht hu y))
  .have:u=t:=by exact AL 2 (.l Y0 Y1) (.l Y1 Y0) (.e Y1 Y0) [_,_] z y
   subst this;exact .inr (Vn _)
noncomputable def Tx(E:Nat->Nat->Bool)(alo blo i:Nat)(no dn g:Addr)(m:Lo)(H:Hp)(m2:Lo)(H2:Hp):Prop:=
 ∃ ep es bi bj bz,CV es (ER E (i+1))/\BestTo E alo blo (fun p q=>p<i+1/\E p q=true) bi bj bz/\AI m2 H2 (("newj2len",.ref dn)::("nothing",.ref no)::BF bi bj bz m) ((dn,.dict ep es)::H)
theorem JK{E:Nat->Nat->Bool}{es:List (IS×V)}{i:Nat}{ps:List Nat}(h:CV es (Gi E i ps))(hp:∀ j,E i j=true->j∈ps):CV es (ER E (i+1)):=h.congr fun j=>by
 show bk E i j=Gi E i ps j
 unfold Gi
 by_cases q:j∈ps
 .rw[if_pos q]
 .rw[if_neg q];exact Fo (Vy.mpr fun r=>q (hp j r))
theorem Hu{E:Nat->Nat->Bool}{Hj HJ i bi bj bz:Nat}{ps:List Nat}(h:BestTo E Hj HJ (CM E i ps) bi bj bz)(hp:∀ j,E i j=true->j∈ps):BestTo E Hj HJ (fun p q=>p<i+1/\E p q=true) bi bj bz:=h.same fun p q=>by
 unfold CM
 constructor
 .rintro⟨a,b⟩
  rcases Yp p i with r|r
  .exact .inl ⟨r,b⟩
  .have:p=i:=Nat.le_antisymm (b7 a) r
   subst this
   exact .inr ⟨rfl,hp q b,b⟩
 .rintro(⟨a,b⟩|⟨a,_,b⟩)
  .exact⟨Ye a,b⟩
  .exact⟨Nat.lt_succ_of_le (Z5 a),b⟩
theorem JE{c:Ctx}{m:Lo}{H:Hp}{pos:Pos}{t iter:Expr}{b r:List Stmt}{Q:Fl->Lo->Hp->Prop}(h:Af c iter m H fun u m1 H1=>∃ a xs,u=.ref a/\∃ (I:Nat->Lo->Hp->Prop) (J:Lo->Hp->Prop),I 0 m1 H1/\(∀ i m2 H2,I i m2 H2->AK c H2 a (.list xs))/\(∀ i v m2 H2,xs[i]?=some v->I i m2 H2->Fs c t v m2 H2 fun m3 H3=>AW c b m3 H3 fun f m4 H4=>
   match f with | .next | .cont=>I (i+1) m4 H4 | .brk=>J m4 H4 | .ret v=>Q (.ret v) m4 H4)/\(∀ m2 H2,I xs.length m2 H2->J m2 H2)/\∀ m2 H2,J m2 H2->AW c r m2 H2 Q)(ht:autoParam (Ae t=true) AV)(hs:autoParam (∀ x,WH iter c.env x=pure x) C4):AW c (.For t iter b [] pos::r) m H Q:=by
 refine D7 (h.mono ?_) ht hs
 rintro u m1 H1 ⟨a,xs,e,I,J,h0,h1,h2,h3,h4⟩
 refine⟨a,xs,e,I,h0,h1,fun i v m2 H2 hv hI=>(h2 i v m2 H2 hv hI).mono fun _ m3 H3 q=>AW.mono q fun f m4 H4 q=>?_,fun m2 H2 hI=>h4 m2 H2 (h3 m2 H2 hI)⟩
 cases f with
 | brk=>exact h4 m4 H4 q
 | next=>exact q
 | cont=>exact q
 | ret v=>exact q
theorem Js{as bs:List Int}{i j:Nat}:Bm as bs i j=true↔(as.getD i 0==bs.getD j 0)=true:=by unfold Bm;simp
noncomputable def VL(C:Nat->Prop)(U:Nat->Lo)(H:Hp)(top r0:Nat)(n:Nat)(m2:Lo)(H2:Hp):Prop:=∃ r,n+r=top/\r0<=r/\(∀ t,r0<=t->t<r->C t)/\AI m2 H2 (U r) H
noncomputable def UF(C:Nat->Prop)(U:Nat->Lo)(H:Hp)(r0:Nat)(m2:Lo)(H2:Hp):Prop:=∃ r,r0<=r/\(∀ t,r0<=t->t<r->C t)/\¬ C r/\AI m2 H2 (U r) H
theorem FX{c:Ctx}{pos:Pos}{e:Expr}{b:List Stmt}{m:Lo}{H H1:Hp}{Q:Fl->Lo->Hp->Prop}{C:Nat->Prop}{U:Nat->Lo}{top r0:Nat}(hm:AI m H1 (U r0) H)(hr:r0<=top)(hC:∀ r,r0<=r->C r->r<top)(ht:∀ r,r0<=r->(∀ t,r0<=t->t<r->C t)->FT c e (U r) H fun x m2 H2=>(x=true↔C r)/\m2=U r/\H2=H)(hb:∀ r,C r->r0<=r->∀ Q':Fl->Lo->Hp->Prop,(∀ m2 H2,AI m2 H2 (U (r+1)) H->Q' .next m2 H2)->AW c b (U r) H Q')(hQ:∀ m2 H2,UF C U H r0 m2 H2->Q .next m2 H2):DX c (.While e b [] pos) m H1 Q:=by
 refine JF (VL C U H top r0) (top-r0) ⟨r0,by exact AJ 2 (.l Y0 Y1) (.e (.a (.s Y1 Y0) Y0) Y1) [_,_] hr,Vn _,fun t a b=>absurd b (WL.mpr a),hm⟩ ?_
 rintro n m1 H1 ⟨r,hn,h0,hg,hl⟩
 refine FT.less hl (FT.mono (ht r h0 hg) ?_)
 rintro x m2 H2 ⟨hx,rfl,rfl⟩
 cases x with
 | true=>
  have hc:=hx.mp rfl
  refine hb r hc h0 _ fun m3 H3 l3=>⟨n-1,?_,r+1,?_,XU h0,fun t a b=>?_,l3⟩
  .have:=hC r h0 hc;exact AL 3 (.e (.a Y0 Y1) Y2) (.t Y1 Y2) (.t (.s Y0 N1) Y0) [_,_,_] hn this
  .have:=hC r h0 hc;exact AL 3 (.e (.a Y0 Y1) Y2) (.t Y1 Y2) (.e (.a (.s Y0 N1) (.a Y1 N1)) Y2) [_,_,_] hn this
  .rcases Yp t r with q|q
   .exact hg t a q
   .have:t=r:=by exact AL 2 (.t Y0 (.a Y1 N1)) (.l Y1 Y0) (.e Y0 Y1) [_,_] b q
    subst this;exact hc
 | false=>exact hQ _ _ ⟨r,h0,hg,(fun q=>nomatch hx.mpr q),AI.refl _ _⟩
section
variable{f0 D rb ra:Addr}{bhi blo ahi alo:Nat}{i j z:Nat}{H:Hp}
theorem GZ:(BF i j z (BC f0 D rb ra bhi blo ahi alo)).lookup ("besti":Str)=some (.int i):=by with_unfolding_all rfl
theorem EB:(BF i j z (BC f0 D rb ra bhi blo ahi alo)).lookup ("bestj":Str)=some (.int j):=by with_unfolding_all rfl
theorem EA:(BF i j z (BC f0 D rb ra bhi blo ahi alo)).lookup ("bestsize":Str)=some (.int z):=by with_unfolding_all rfl
theorem LY:(BF i j z (BC f0 D rb ra bhi blo ahi alo)).lookup ("isbjunk":Str)=some (.ref f0):=by with_unfolding_all rfl
theorem Jc:(BF i j z (BC f0 D rb ra bhi blo ahi alo)).lookup ("b":Str)=some (.ref rb):=by with_unfolding_all rfl
theorem Pr:(BF i j z (BC f0 D rb ra bhi blo ahi alo)).lookup ("a":Str)=some (.ref ra):=by with_unfolding_all rfl
theorem Qv:(BF i j z (BC f0 D rb ra bhi blo ahi alo)).lookup ("bhi":Str)=some (.int bhi):=by with_unfolding_all rfl
theorem Qu:(BF i j z (BC f0 D rb ra bhi blo ahi alo)).lookup ("blo":Str)=some (.int blo):=by with_unfolding_all rfl
theorem Qx:(BF i j z (BC f0 D rb ra bhi blo ahi alo)).lookup ("ahi":Str)=some (.int ahi):=by with_unfolding_all rfl
theorem Qw:(BF i j z (BC f0 D rb ra bhi blo ahi alo)).lookup ("alo":Str)=some (.int alo):=by with_unfolding_all rfl
end
theorem Jd{as bs:List Int}{ks:List IS}{alo blo bi bj l:Nat}{junk g:Bool}(hg:g=true↔decide (IS.i (bs.getD (bj-l-1) 0)∈ks)=junk) :
  (decide (alo<bi-l)&&decide (blo<bj-l)&&g&&(as.getD (bi-l-1) 0==bs.getD (bj-l-1) 0))=true↔(Oe (Bm as bs) alo blo bi bj l=true/\CU bs ks (bj-1-l)=junk):=by
 rw[C2,Js,show bi-1-l=bi-l-1 by exact Bh 2 (.e (.s (.s Y0 N1) Y1) (.s (.s Y0 Y1) N1)) [_,_],show bj-1-l=bj-l-1 by exact Bh 2 (.e (.s (.s Y0 N1) Y1) (.s (.s Y0 Y1) N1)) [_,_]]
 simp only[X5,decide_eq_true_eq,hg]
 unfold CU
 constructor
 .rintro⟨⟨⟨a,b⟩,d⟩,e⟩;exact⟨⟨by exact AJ 3 (.t Y0 (.s Y1 Y2)) (.t (.a Y0 Y2) Y1) [_,_,_] a,by exact AJ 3 (.t Y0 (.s Y1 Y2)) (.t (.a Y0 Y2) Y1) [_,_,_] b,e⟩,d⟩
 .rintro⟨⟨a,b,e⟩,d⟩;exact⟨⟨⟨by exact AJ 3 (.t (.a Y0 Y1) Y2) (.t Y0 (.s Y2 Y1)) [_,_,_] a,by exact AJ 3 (.t (.a Y0 Y1) Y2) (.t Y0 (.s Y2 Y1)) [_,_,_] b⟩,d⟩,e⟩
theorem Ha{as bs:List Int}{ks:List IS}{ahi bhi ei ej l p q:Nat}{junk g:Bool}(hp:p=ei+l)(hq:q=ej+l)(hg:g=true↔decide (IS.i (bs.getD q 0)∈ks)=junk) :
  (decide (p<ahi)&&decide (q<bhi)&&g&&(as.getD p 0==bs.getD q 0))=true↔(Od (Bm as bs) ahi bhi ei ej l=true/\CU bs ks (ej+l)=junk):=by
 subst hp hq
 rw[Dt,Js]
 simp only[X5,decide_eq_true_eq,hg]
 unfold CU
 constructor
 .rintro⟨⟨⟨a,b⟩,d⟩,e⟩;exact⟨⟨a,b,e⟩,d⟩
 .rintro⟨⟨a,b,e⟩,d⟩;exact⟨⟨⟨a,b⟩,d⟩,e⟩
theorem D0{b:Bool}:(!b)=true↔b=false:=by cases b<;>simp
theorem Kq{x a:Nat}(h:decide (x<a)=true):0<a:=W4 (WJ x) (of_decide_eq_true h)
theorem S9{x a n:Nat}(h:decide (x<a)=true)(q:a<=n):x<n:=Vp (of_decide_eq_true h) q
theorem Hr{x a n:Nat}(h:decide (x<a)=true)(q:a<=n):a-1<n:=Vp (Nat.sub_lt (Kq h) Nat.one_pos) q
theorem OV{q:Nat->Nat->Bool}{P:Nat->Prop}{alo blo bi bj r0:Nat}(r:Nat)(_:r0<=r)(h:Oe q alo blo bi bj r=true/\P r):r<bi:=by have:=C2.mp h.1;exact AJ 3 (.t (.a Y0 Y1) Y2) (.t Y1 Y2) [_,_,_] this.1
theorem OU{q:Nat->Nat->Bool}{P:Nat->Prop}{ahi bhi ei ej r0:Nat}(r:Nat)(_:r0<=r)(h:Od q ahi bhi ei ej r=true/\P r):r<ahi:=by have:=Dt.mp h.1;exact AJ 3 (.t (.a Y0 Y1) Y2) (.t Y1 Y2) [_,_,_] this.1
theorem IL{q:Nat->Nat->Bool}{P:Nat->Prop}{alo blo bi bj r0 l:Nat}(h0:r0<=l)(h:∀ t,r0<=t->t<l->Oe q alo blo bi bj t=true/\P t)(h1:alo+r0<=bi)(h2:blo+r0<=bj):alo+l<=bi/\blo+l<=bj:=by
 rcases Yp r0 l with w|w
 .have:=C2.mp (h (l-1) (by exact AJ 2 (.t Y0 Y1) (.l Y0 (.s Y1 N1)) [_,_] w) (by exact AJ 2 (.t Y0 Y1) (.t (.s Y1 N1) Y1) [_,_] w)).1;exact AL 5 (.t (.a Y0 (.s Y1 N1)) Y2) (.t (.a Y3 (.s Y1 N1)) Y4) (.an (.l (.a Y0 Y1) Y2) (.l (.a Y3 Y1) Y4)) [_,_,_,_,_] this.1 this.2.1
 .have:l=r0:=by exact AL 2 (.l Y0 Y1) (.l Y1 Y0) (.e Y1 Y0) [_,_] h0 w
  exact Be 6 (.l (.a Y0 Y1) Y2) (.l (.a Y3 Y1) Y4) (.l Y5 Y1) (.an (.l (.a Y0 Y5) Y2) (.l (.a Y3 Y5) Y4)) [_,_,_,_,_,_] h1 h2 w
theorem IK{q:Nat->Nat->Bool}{P:Nat->Prop}{ahi bhi ei ej r0 l:Nat}(h0:r0<=l)(h:∀ t,r0<=t->t<l->Od q ahi bhi ei ej t=true/\P t)(h1:ei+r0<=ahi)(h2:ej+r0<=bhi):ei+l<=ahi/\ej+l<=bhi:=by
 rcases Yp r0 l with w|w
 .have:=Dt.mp (h (l-1) (by exact AJ 2 (.t Y0 Y1) (.l Y0 (.s Y1 N1)) [_,_] w) (by exact AJ 2 (.t Y0 Y1) (.t (.s Y1 N1) Y1) [_,_] w)).1;exact AL 5 (.t (.a Y0 (.s Y1 N1)) Y2) (.t (.a Y3 (.s Y1 N1)) Y4) (.an (.l (.a Y0 Y1) Y2) (.l (.a Y3 Y1) Y4)) [_,_,_,_,_] this.1 this.2.1
 .have:l=r0:=by exact AL 2 (.l Y0 Y1) (.l Y1 Y0) (.e Y1 Y0) [_,_] h0 w
  exact Be 6 (.l (.a Y0 Y1) Y2) (.l (.a Y3 Y1) Y4) (.l Y5 Y1) (.an (.l (.a Y0 Y5) Y2) (.l (.a Y3 Y5) Y4)) [_,_,_,_,_,_] h1 h2 w
section
variable{f0 D rb ra:Addr}{bhi blo ahi alo:Nat}{i j z i' j' z' i2 j2 z2:Nat}{H:Hp}
theorem Li(e1:i'=i2)(e2:j'=j2)(e3:z'=z2):AI (("besti",.int (i':Nat))::("bestj",.int (j':Nat))::("bestsize",.int (z':Nat))::BF i j z (BC f0 D rb ra bhi blo ahi alo)) H (BF i2 j2 z2 (BC f0 D rb ra bhi blo ahi alo)) H:=by
 subst e1 e2 e3
 exact Aa Ab.k
theorem Ob:AI (("bestsize",.int (z':Nat))::BF i j z (BC f0 D rb ra bhi blo ahi alo)) H (BF i j z' (BC f0 D rb ra bhi blo ahi alo)) H:=Aa Ab.k
end
theorem Oa(p:cy)(c:Ctx){k:Nat}(hf:c.fuel=k+1+1)(B:Base c (AQ p))(hs:c.env.scope=(AM (AQ p) 196).scope){H:Hp}{ra rb D S f0:Addr}{as bs:List Int}{z:C8}{ks:List IS}{E:Nat->Nat->Bool}{alo ahi blo bhi bi bj bz:Nat}{Q0:Fl->Lo->Hp->Prop}(hra:(ra,O.list (as.map .int))∈H)(hrb:(rb,O.list (bs.map .int))∈H)(hks:(S,O.set z ks)∈H)(hbest:BestTo E alo blo (fun p q=>E p q=true) bi bj bz)(hbd:bi+bz<=ahi/\bj+bz<=bhi/\alo<=bi/\blo<=bj)(h2:ahi<=as.length)(h4:bhi<=bs.length)(h5:as.length<=1000)(h6:bs.length<=1000)(hQ0:∀ f m H2,(∃ i j k,f=.ret (.tup (some 135) [.int (i:Nat),.int (j:Nat),.int (k:Nat)])/\AI [] H2 [] H/\EI (Bm as bs) E (CU bs ks) alo ahi blo bhi i j k)->Q0 f m H2)
  :AW c ((AU (AM (AQ p) 196)).drop 8) (BF bi bj bz (BC f0 D rb ra bhi blo ahi alo)) ((f0,.obj (AY "set.__contains__" S))::H) Q0:=by
 have hn:=congrArg c0 hs
 conv at hn=>rhs;whnf
 have gm:An c "Match" (.ref 135):=B.glob (BO hn (by decide +kernel)) (by kernel_rfl) rfl
 have lI:Lc c "besti":=AG hn (by kernel_rfl)
 have lJ:Lc c "bestj":=AG hn (by kernel_rfl)
 have lZ:Lc c "bestsize":=AG hn (by kernel_rfl)
 have lIs:Lc c "isbjunk":=AG hn (by kernel_rfl)
 have lB:Lc c "b":=AG hn (by kernel_rfl)
 have lA:Lc c "a":=AG hn (by kernel_rfl)
 have lBh:Lc c "bhi":=AG hn (by kernel_rfl)
 have lBl:Lc c "blo":=AG hn (by kernel_rfl)
 have lAh:Lc c "ahi":=AG hn (by kernel_rfl)
 have lAl:Lc c "alo":=AG hn (by kernel_rfl)
 have sf:AK c ((f0,.obj (AY "set.__contains__" S))::H) f0 (.obj (AY "set.__contains__" S)):=.mem mS
 have sa:AK c ((f0,.obj (AY "set.__contains__" S))::H) ra (.list (as.map .int)):=.mem (mT hra)
 have sb:AK c ((f0,.obj (AY "set.__contains__" S))::H) rb (.list (bs.map .int)):=.mem (mT hrb)
 have ss:AK c ((f0,.obj (AY "set.__contains__" S))::H) S (.set z ks):=.mem (mT hks)
 obtain⟨b1,b2,b3,b4⟩:=hbd
 refine CW (UF (fun t=>Oe (Bm as bs) alo blo bi bj t=true/\CU bs ks (bj-1-t)=false) (fun l=>BF (bi-l) (bj-l) (bz+l) (BC f0 D rb ra bhi blo ahi alo)) ((f0,.obj (AY "set.__contains__" S))::H) 0) (FX (top:=bi) (r0:=0) (U:=fun l=>BF (bi-l) (bj-l) (bz+l) (BC f0 D rb ra bhi blo ahi alo)) (H:=((f0,.obj (AY "set.__contains__" S))::H)) (C:=fun t=>Oe (Bm as bs) alo blo bi bj t=true/\CU bs ks (bj-1-t)=false) (AI.refl _ _) (by exact Bh 1 (.l (.n 0) Y0) [_]) OV ?_ ?_ fun _ _ h=>h) ?_
 .intro l hl0 hg
  obtain⟨d1,d2⟩:=IL hl0 hg (by exact AJ 2 (.l Y0 Y1) (.l (.a Y0 (.n 0)) Y1) [_,_] b3) (by exact AJ 2 (.l Y0 Y1) (.l (.a Y0 (.n 0)) Y1) [_,_] b4)
  clear hg
  have g1:bj-l<=bs.length:=by exact AL 5 (.l Y0 Y1) (.l (.a Y2 Y3) Y0) (.l (.s Y2 Y4) Y1) [_,_,_,_,_] h4 b2
  have g2:bi-l<=as.length:=by exact AL 5 (.l Y0 Y1) (.l (.a Y2 Y3) Y0) (.l (.s Y2 Y4) Y1) [_,_,_,_,_] h2 b1
  exact C5.and4 (.gtN (.nm lI GZ) (.nm lAl Qw)) (fun t1=>.gtN (.nm lJ EB) (.nm lBl Qu)) (fun t1 t2=>.not (.val (.has (k:=.i _) (.nm lIs LY) (.at (.nm lB Jc) (.pred (.nm lJ EB) (Kq t2)) sb (Hr t2 g1) h6) sf ss (hE:=fun _ h=>AZ h)))) (fun t1 t2 _=>.eqI (.at (.nm lA Pr) (.pred (.nm lI GZ) (Kq t1)) sa (Hr t1 g2) h5) (.at (.nm lB Jc) (.pred (.nm lJ EB) (Kq t2)) sb (Hr t2 g1) h6)) _ ⟨Jd D0,rfl,rfl⟩
 .intro l hc hl0 Q' hQ'
  have hb:=C2.mp hc.1
  refine AB (DZ hn (by kernel_rfl) (.pred (.nm lI GZ) (by exact AJ 3 (.t (.a Y0 Y1) Y2) (.t (.n 0) (.s Y2 Y1)) [_,_,_] hb.1)) (.pred (.nm lJ EB) (by exact AJ 3 (.t (.a Y0 Y1) Y2) (.t (.n 0) (.s Y2 Y1)) [_,_,_] hb.2.1)) (.succ (.nm lZ EA)) lI lJ lZ (AX (hQ' _ _ ?_)))
  exact Li (by exact Bh 2 (.e (.s (.s Y0 Y1) N1) (.s Y0 (.a Y1 N1))) [_,_]) (by exact Bh 2 (.e (.s (.s Y0 Y1) N1) (.s Y0 (.a Y1 N1))) [_,_]) (by exact Bh 2 (.e (.a (.a Y0 Y1) N1) (.a Y0 (.a Y1 N1))) [_,_])
 rintro m1 H1 ⟨l1,k1,hg1,hs1,hl1⟩
 obtain⟨u1,v1⟩:=IL k1 hg1 (by exact AJ 2 (.l Y0 Y1) (.l (.a Y0 (.n 0)) Y1) [_,_] b3) (by exact AJ 2 (.l Y0 Y1) (.l (.a Y0 (.n 0)) Y1) [_,_] b4)
 refine CW (UF (fun t=>Od (Bm as bs) ahi bhi (bi+bz) (bj+bz) t=true/\CU bs ks (bj+bz+t)=false) (fun l=>BF (bi-l1) (bj-l1) (bz+l1+l) (BC f0 D rb ra bhi blo ahi alo)) ((f0,.obj (AY "set.__contains__" S))::H) 0) (FX (top:=ahi) (r0:=0) (U:=fun l=>BF (bi-l1) (bj-l1) (bz+l1+l) (BC f0 D rb ra bhi blo ahi alo)) (H:=((f0,.obj (AY "set.__contains__" S))::H)) (C:=fun t=>Od (Bm as bs) ahi bhi (bi+bz) (bj+bz) t=true/\CU bs ks (bj+bz+t)=false) hl1 (by exact Bh 1 (.l (.n 0) Y0) [_]) OU ?_ ?_ fun _ _ h=>h) ?_
 .intro l hl0 hg
  obtain⟨d1,d2⟩:=IK hl0 hg (by exact AJ 3 (.l (.a Y0 Y1) Y2) (.l (.a (.a Y0 Y1) (.n 0)) Y2) [_,_,_] b1) (by exact AJ 3 (.l (.a Y0 Y1) Y2) (.l (.a (.a Y0 Y1) (.n 0)) Y2) [_,_,_] b2)
  clear hg
  exact C5.and4 (.ltN (.addN (.nm lI GZ) (.nm lZ EA)) (.nm lAh Qx)) (fun t1=>.ltN (.addN (.nm lJ EB) (.nm lZ EA)) (.nm lBh Qv)) (fun t1 t2=>.not (.val (.has (k:=.i _) (.nm lIs LY) (.at (.nm lB Jc) (.addN (.nm lJ EB) (.nm lZ EA)) sb (S9 t2 h4) h6) sf ss (hE:=fun _ h=>AZ h)))) (fun t1 t2 _=>.eqI (.at (.nm lA Pr) (.addN (.nm lI GZ) (.nm lZ EA)) sa (S9 t1 h2) h5) (.at (.nm lB Jc) (.addN (.nm lJ EB) (.nm lZ EA)) sb (S9 t2 h4) h6)) _ ⟨Ha (by exact AJ 5 (.l (.a Y0 Y1) Y2) (.e (.a (.s Y2 Y1) (.a (.a Y3 Y1) Y4)) (.a (.a Y2 Y3) Y4)) [_,_,_,_,_] u1) (by exact AJ 5 (.l (.a Y0 Y1) Y2) (.e (.a (.s Y2 Y1) (.a (.a Y3 Y1) Y4)) (.a (.a Y2 Y3) Y4)) [_,_,_,_,_] v1) D0,rfl,rfl⟩
 .intro l hc hl0 Q' hQ'
  exact AB (LQ lZ EA .one (AX (hQ' _ _ Ob)))
 rintro m2 H2 ⟨r2,k2,hg2,hs2,hl2⟩
 obtain⟨u2,v2⟩:=IK k2 hg2 (by exact AJ 3 (.l (.a Y0 Y1) Y2) (.l (.a (.a Y0 Y1) (.n 0)) Y2) [_,_,_] b1) (by exact AJ 3 (.l (.a Y0 Y1) Y2) (.l (.a (.a Y0 Y1) (.n 0)) Y2) [_,_,_] b2)
 refine CW (UF (fun t=>Oe (Bm as bs) alo blo bi bj t=true/\CU bs ks (bj-1-t)=true) (fun l=>BF (bi-l) (bj-l) (bz+l+r2) (BC f0 D rb ra bhi blo ahi alo)) ((f0,.obj (AY "set.__contains__" S))::H) l1) (FX (top:=bi) (r0:=l1) (U:=fun l=>BF (bi-l) (bj-l) (bz+l+r2) (BC f0 D rb ra bhi blo ahi alo)) (H:=((f0,.obj (AY "set.__contains__" S))::H)) (C:=fun t=>Oe (Bm as bs) alo blo bi bj t=true/\CU bs ks (bj-1-t)=true) hl2 (by exact AJ 3 (.l (.a Y0 Y1) Y2) (.l Y1 Y2) [_,_,_] u1) OV ?_ ?_ fun _ _ h=>h) ?_
 .intro l hl0 hg
  obtain⟨d1,d2⟩:=IL hl0 hg (by exact AJ 3 (.l (.a Y0 Y1) Y2) (.l (.a Y0 Y1) Y2) [_,_,_] u1) (by exact AJ 3 (.l (.a Y0 Y1) Y2) (.l (.a Y0 Y1) Y2) [_,_,_] v1)
  clear hg
  have g1:bj-l<=bs.length:=by exact AL 5 (.l Y0 Y1) (.l (.a Y2 Y3) Y0) (.l (.s Y2 Y4) Y1) [_,_,_,_,_] h4 b2
  have g2:bi-l<=as.length:=by exact AL 5 (.l Y0 Y1) (.l (.a Y2 Y3) Y0) (.l (.s Y2 Y4) Y1) [_,_,_,_,_] h2 b1
  exact C5.and4 (.gtN (.nm lI GZ) (.nm lAl Qw)) (fun t1=>.gtN (.nm lJ EB) (.nm lBl Qu)) (fun t1 t2=>.val (.has (k:=.i _) (.nm lIs LY) (.at (.nm lB Jc) (.pred (.nm lJ EB) (Kq t2)) sb (Hr t2 g1) h6) sf ss (hE:=fun _ h=>AZ h))) (fun t1 t2 _=>.eqI (.at (.nm lA Pr) (.pred (.nm lI GZ) (Kq t1)) sa (Hr t1 g2) h5) (.at (.nm lB Jc) (.pred (.nm lJ EB) (Kq t2)) sb (Hr t2 g1) h6)) _ ⟨Jd Iff.rfl,rfl,rfl⟩
 .intro l hc hl0 Q' hQ'
  have hb:=C2.mp hc.1
  refine AB (DZ hn (by kernel_rfl) (.pred (.nm lI GZ) (by exact AJ 3 (.t (.a Y0 Y1) Y2) (.t (.n 0) (.s Y2 Y1)) [_,_,_] hb.1)) (.pred (.nm lJ EB) (by exact AJ 3 (.t (.a Y0 Y1) Y2) (.t (.n 0) (.s Y2 Y1)) [_,_,_] hb.2.1)) (.succ (.nm lZ EA)) lI lJ lZ (AX (hQ' _ _ ?_)))
  exact Li (by exact Bh 2 (.e (.s (.s Y0 Y1) N1) (.s Y0 (.a Y1 N1))) [_,_]) (by exact Bh 2 (.e (.s (.s Y0 Y1) N1) (.s Y0 (.a Y1 N1))) [_,_]) (by exact Bh 3 (.e (.a (.a (.a Y0 Y1) Y2) N1) (.a (.a Y0 (.a Y1 N1)) Y2)) [_,_,_])
 rintro m3 H3 ⟨l3,k3,hg3,hs3,hl3⟩
 obtain⟨u3,v3⟩:=IL k3 hg3 (by exact AJ 3 (.l (.a Y0 Y1) Y2) (.l (.a Y0 Y1) Y2) [_,_,_] u1) (by exact AJ 3 (.l (.a Y0 Y1) Y2) (.l (.a Y0 Y1) Y2) [_,_,_] v1)
 refine CW (UF (fun t=>Od (Bm as bs) ahi bhi (bi+bz) (bj+bz) t=true/\CU bs ks (bj+bz+t)=true) (fun l=>BF (bi-l3) (bj-l3) (bz+l3+l) (BC f0 D rb ra bhi blo ahi alo)) ((f0,.obj (AY "set.__contains__" S))::H) r2) (FX (top:=ahi) (r0:=r2) (U:=fun l=>BF (bi-l3) (bj-l3) (bz+l3+l) (BC f0 D rb ra bhi blo ahi alo)) (H:=((f0,.obj (AY "set.__contains__" S))::H)) (C:=fun t=>Od (Bm as bs) ahi bhi (bi+bz) (bj+bz) t=true/\CU bs ks (bj+bz+t)=true) hl3 (by exact AJ 4 (.l (.a (.a Y0 Y1) Y2) Y3) (.l Y2 Y3) [_,_,_,_] u2) OU ?_ ?_ fun _ _ h=>h) ?_
 .intro l hl0 hg
  obtain⟨d1,d2⟩:=IK hl0 hg (by exact AJ 4 (.l (.a (.a Y0 Y1) Y2) Y3) (.l (.a (.a Y0 Y1) Y2) Y3) [_,_,_,_] u2) (by exact AJ 4 (.l (.a (.a Y0 Y1) Y2) Y3) (.l (.a (.a Y0 Y1) Y2) Y3) [_,_,_,_] v2)
  clear hg
  exact C5.and4 (.ltN (.addN (.nm lI GZ) (.nm lZ EA)) (.nm lAh Qx)) (fun t1=>.ltN (.addN (.nm lJ EB) (.nm lZ EA)) (.nm lBh Qv)) (fun t1 t2=>.val (.has (k:=.i _) (.nm lIs LY) (.at (.nm lB Jc) (.addN (.nm lJ EB) (.nm lZ EA)) sb (S9 t2 h4) h6) sf ss (hE:=fun _ h=>AZ h))) (fun t1 t2 _=>.eqI (.at (.nm lA Pr) (.addN (.nm lI GZ) (.nm lZ EA)) sa (S9 t1 h2) h5) (.at (.nm lB Jc) (.addN (.nm lJ EB) (.nm lZ EA)) sb (S9 t2 h4) h6)) _ ⟨Ha (by exact AJ 5 (.l (.a Y0 Y1) Y2) (.e (.a (.s Y2 Y1) (.a (.a Y3 Y1) Y4)) (.a (.a Y2 Y3) Y4)) [_,_,_,_,_] u3) (by exact AJ 5 (.l (.a Y0 Y1) Y2) (.e (.a (.s Y2 Y1) (.a (.a Y3 Y1) Y4)) (.a (.a Y2 Y3) Y4)) [_,_,_,_,_] v3) Iff.rfl,rfl,rfl⟩
 .intro l hc hl0 Q' hQ'
  exact AB (Al lZ (.succ (.nm lZ EA)) (AX (hQ' _ _ Ob)))
 rintro m4 H4 ⟨r4,k4,hg4,hs4,hl4⟩
 obtain⟨u4,v4⟩:=IK k4 hg4 (by exact AJ 4 (.l (.a (.a Y0 Y1) Y2) Y3) (.l (.a (.a Y0 Y1) Y2) Y3) [_,_,_,_] u2) (by exact AJ 4 (.l (.a (.a Y0 Y1) Y2) Y3) (.l (.a (.a Y0 Y1) Y2) Y3) [_,_,_,_] v2)
 refine AW.less hl4 ?_
 refine AB (BG ?_)
 refine AZ (BW gm (AA (Pu.nm lI GZ _ (AA (Pu.nm lJ EB _ (AA (Pu.nm lZ EA _ (AC ?_))))))))
 refine⟨Aq B (by kernel_rfl),(MU p hf B ?_).cal⟩
 refine hQ0 _ _ _ ⟨bi-l3,bj-l3,bz+l3+r4,rfl,Cy Ab.nil (cx _ (bA _)),bi,bj,bz,l3,r4,hbest,?_,?_,rfl,rfl,by exact Bh 3 (.e (.a (.a Y0 Y1) Y2) (.a (.a Y1 Y0) Y2)) [_,_,_]⟩
 .exact Jn k3 (fun t ht=>hg1 t (WJ t) ht) hs1 hg3 hs3
 .exact Jn k4 (fun t ht=>hg2 t (WJ t) ht) hs2 hg4 hs4
noncomputable abbrev FQ(f D rb ra:Addr)(bh:V)(blo:Nat)(ah:V)(alo:Nat):Lo:=[("isbjunk",.ref f),("b2j",.ref D),("b",.ref rb),("a",.ref ra),("bhi",bh),("blo",.int blo),("ahi",ah),("alo",.int alo)]
theorem KB{i k:Nat}(h:k<=i+1):(i:Int)-k+1=((i+1-k:Nat):Int):=by rw[<- Ki h,Int.sub_eq_add_neg,Int.add_right_comm,<- Int.sub_eq_add_neg];rfl
section
variable{f0 D rb ra dn g no x:Addr}{bhi blo ahi alo:Nat}{ah bh:V}{i j z i' j' k:Nat}{u v w:V}{H:Hp}
theorem Qt:(FQ f0 D rb ra bh blo ah alo).lookup ("ahi":Str)=some ah:=by with_unfolding_all rfl
theorem Qs:(FQ f0 D rb ra bh blo ah alo).lookup ("bhi":Str)=some bh:=by with_unfolding_all rfl
theorem UY:(FQ f0 D rb ra bh blo ah alo).lookup ("a":Str)=some (.ref ra):=by with_unfolding_all rfl
theorem UX:(FQ f0 D rb ra bh blo ah alo).lookup ("b":Str)=some (.ref rb):=by with_unfolding_all rfl
theorem TY:(FQ f0 D rb ra bh blo ah alo).lookup ("alo":Str)=some (.int alo):=by with_unfolding_all rfl
theorem TX:(FQ f0 D rb ra bh blo ah alo).lookup ("blo":Str)=some (.int blo):=by with_unfolding_all rfl
theorem VA:AI (("isbjunk",.ref f0)::("b2j",.ref D)::("b",.ref rb)::("a",.ref ra)::[("bhi",bh),("blo",.int blo),("ahi",ah),("alo",.int alo),("self",.ref x)]) H (FQ f0 D rb ra bh blo ah alo) H:=
 Aa Ab.k
theorem U9:AI (("ahi",u)::FQ f0 D rb ra bh blo ah alo) H (FQ f0 D rb ra bh blo u alo) H:=Aa Ab.k
theorem U8:AI (("bhi",u)::FQ f0 D rb ra bh blo ah alo) H (FQ f0 D rb ra u blo ah alo) H:=Aa Ab.k
theorem U7:AI (("nothing",u)::("j2len",v)::("besti",.int (i:Nat))::("bestj",.int (j:Nat))::("bestsize",.int (z:Nat))::BC f0 D rb ra bhi blo ahi alo) H (("j2len",v)::("nothing",u)::BF i j z (BC f0 D rb ra bhi blo ahi alo)) H:=Aa Ab.k
theorem U6:AI (("newj2len",u)::("j2lenget",v)::("i",w)::("j2len",.ref x)::("nothing",.ref no)::BF i j z (BC f0 D rb ra bhi blo ahi alo)) H (("i",w)::("newj2len",u)::("j2lenget",v)::("nothing",.ref no)::BF i j z (BC f0 D rb ra bhi blo ahi alo)) H:=Aa Ab.k
theorem U5:AI (("j",u)::("i",.int (i':Nat))::("newj2len",.ref dn)::("j2lenget",.ref g)::("nothing",.ref no)::BF i j z (BC f0 D rb ra bhi blo ahi alo)) H (("newj2len",.ref dn)::("nothing",.ref no)::BF i j z (BC f0 D rb ra bhi blo ahi alo)) H:=Aa Ab.k
theorem UZ:AI (("i",.int (i':Nat))::("newj2len",.ref dn)::("j2lenget",.ref g)::("nothing",.ref no)::BF i j z (BC f0 D rb ra bhi blo ahi alo)) H (("newj2len",.ref dn)::("nothing",.ref no)::BF i j z (BC f0 D rb ra bhi blo ahi alo)) H:=Aa Ab.k
theorem U4:AI (("j",u)::("i",.int (i':Nat))::("newj2len",.ref dn)::("j2lenget",.ref g)::("nothing",.ref no)::BF i j z (BC f0 D rb ra bhi blo ahi alo)) H (("i",.int (i':Nat))::("newj2len",.ref dn)::("j2lenget",.ref g)::("nothing",.ref no)::BF i j z (BC f0 D rb ra bhi blo ahi alo)) H:=Aa Ab.k
theorem U3:AI (("k",v)::("j",u)::("i",.int (i':Nat))::("newj2len",.ref dn)::("j2lenget",.ref g)::("nothing",.ref no)::BF i j z (BC f0 D rb ra bhi blo ahi alo)) H (("i",.int (i':Nat))::("newj2len",.ref dn)::("j2lenget",.ref g)::("nothing",.ref no)::BF i j z (BC f0 D rb ra bhi blo ahi alo)) H:=Aa Ab.k
theorem U2{a b d:Nat}:AI (("besti",.int (a:Nat))::("bestj",.int (b:Nat))::("bestsize",.int (d:Nat))::("k",v)::("j",u)::("i",.int (i':Nat))::("newj2len",.ref dn)::("j2lenget",.ref g)::("nothing",.ref no)::BF i j z (BC f0 D rb ra bhi blo ahi alo)) H (("i",.int (i':Nat))::("newj2len",.ref dn)::("j2lenget",.ref g)::("nothing",.ref no)::BF a b d (BC f0 D rb ra bhi blo ahi alo)) H:=Aa Ab.k
theorem U1:AI (("j2len",.ref dn)::("newj2len",.ref dn)::("nothing",.ref no)::BF i j z (BC f0 D rb ra bhi blo ahi alo)) H (("j2len",.ref dn)::("nothing",.ref no)::BF i j z (BC f0 D rb ra bhi blo ahi alo)) H:=Aa Ab.k
theorem Ua:AI (("j2len",.ref dn)::("nothing",.ref no)::BF i j z (BC f0 D rb ra bhi blo ahi alo)) H (BF i j z (BC f0 D rb ra bhi blo ahi alo)) H:=Aa Ab.k
end
theorem So(p:cy)(c:Ctx){k:Nat}(hf:c.fuel=k+1+1)(B:Base c (AQ p))(hs:c.env.scope=(AM (AQ p) 196).scope){H:Hp}{x d ra rb D S:Addr}{fs:List (Str×V)}{as bs:List Int}{ep:Nat}{es:List (IS×V)}{z:C8}{ks:List IS}{idx:Int->List Nat}{ah bh:V}{alo ahi blo bhi:Nat}(hx:(x,O.inst 242 d)∈H)(hd:(d,O.ns fs)∈H)(ha:fs.lookup ("a":Str)=some (.ref ra))(hb:fs.lookup ("b":Str)=some (.ref rb))(hD:fs.lookup ("b2j":Str)=some (.ref D))(hS:fs.lookup ("bjunk":Str)=some (.ref S))(hra:(ra,O.list (as.map .int))∈H)(hrb:(rb,O.list (bs.map .int))∈H)(hes:(D,O.dict ep es)∈H)(hks:(S,O.set z ks)∈H)(hidx:DR H es idx)(hpw:∀ v,(idx v).Pairwise (·<·))(hpn:∀ v,(idx v).length<=1000)(hah:ah=.int ahi∨(ah=.none/\ahi=as.length))(hbh:bh=.int bhi∨(bh=.none/\bhi=bs.length))(h1:alo<=ahi)(h2:ahi<=as.length)(h3:blo<=bhi)(h4:bhi<=bs.length)(h5:as.length<=1000)(h6:bs.length<=1000)
  :AW c (AU (AM (AQ p) 196)) [("bhi",bh),("blo",.int blo),("ahi",ah),("alo",.int alo),("self",.ref x)] H
   fun f _ H'=>∃ i j k,f=.ret (.tup (some 135) [.int (i:Nat),.int (j:Nat),.int (k:Nat)])/\AI [] H' [] H/\EI (Bm as bs) (QI as idx alo ahi blo bhi) (CU bs ks) alo ahi blo bhi i j k:=by
 have hn:=congrArg c0 hs
 conv at hn=>rhs;whnf
 refine AW.cutk fun Q0 hQ0=>?_
 have hC:=BM p
 have gl:An c "len" (.bi "len"):=B.len hn (by kernel_rfl)
 have gr:An c "range" (.ty "range"):=B.range hn (by kernel_rfl)
 have lSe:Lc c "self":=AG hn (by kernel_rfl)
 have lI:Lc c "besti":=AG hn (by kernel_rfl)
 have lJ:Lc c "bestj":=AG hn (by kernel_rfl)
 have lZ:Lc c "bestsize":=AG hn (by kernel_rfl)
 have lIs:Lc c "isbjunk":=AG hn (by kernel_rfl)
 have lD:Lc c "b2j":=AG hn (by kernel_rfl)
 have lB:Lc c "b":=AG hn (by kernel_rfl)
 have lA:Lc c "a":=AG hn (by kernel_rfl)
 have lBh:Lc c "bhi":=AG hn (by kernel_rfl)
 have lBl:Lc c "blo":=AG hn (by kernel_rfl)
 have lAh:Lc c "ahi":=AG hn (by kernel_rfl)
 have lAl:Lc c "alo":=AG hn (by kernel_rfl)
 have lL:Lc c "j2len":=AG hn (by kernel_rfl)
 have lNo:Lc c "nothing":=AG hn (by kernel_rfl)
 have lNe:Lc c "newj2len":=AG hn (by kernel_rfl)
 have lGe:Lc c "j2lenget":=AG hn (by kernel_rfl)
 have li:Lc c "i":=AG hn (by kernel_rfl)
 have lj:Lc c "j":=AG hn (by kernel_rfl)
 have lk:Lc c "k":=AG hn (by kernel_rfl)
 have hz:WS=16777216:=rfl
 have sx:AK c H x (.inst 242 d):=.mem hx
 have sd:AK c H d (.ns fs):=.mem hd
 refine AB (Ad (Co ?_))
 have ls:List.lookup ("self":Str) [("bhi",bh),("blo",.int blo),("ahi",ah),("alo",.int alo),("self",.ref x)]=some (.ref x):=by with_unfolding_all rfl
 refine AB (Er (Du (AA ((Pu.attr B hC sx sd (by kernel_rfl) (.nm lSe ls) ha) _ (AA ((Pu.attr B hC sx sd (by kernel_rfl) (.nm lSe ls) hb) _ (AA ((Pu.attr B hC sx sd (by kernel_rfl) (.nm lSe ls) hD) _ (AA (EG ((Pu.attr B hC sx sd (by kernel_rfl) (.nm lSe ls) hS) _ (Mv (z:=z) (ks:=ks) J8 (.mem hks) (by decide) fun f0=>AC ?_))))))))))))
 refine⟨[.ref ra,.ref rb,.ref D,.ref f0],rfl,bB rfl,Ch (AP (AE lA.1 (AP (AE lB.1 (AP (AE lD.1 (AP (AE lIs.1 ?_))))))))⟩
 show AW c _ _ _ _
 refine AW.less VA ?_
 have sa:AK c ((f0,.obj (AY "set.__contains__" S))::H) ra (.list (as.map .int)):=.mem (mT hra)
 have sb:AK c ((f0,.obj (AY "set.__contains__" S))::H) rb (.list (bs.map .int)):=.mem (mT hrb)
 refine KP (FQ f0 D rb ra bh blo (.int ahi) alo) ((f0,.obj (AY "set.__contains__" S))::H) ?_ ?_
 .rcases hah with rfl|⟨rfl,rfl⟩
  .exact BU (.isNone (.nm lAh Qt) .int) (fun h=>nomatch h) fun _=>AX (AI.refl _ _)
  .exact BU (.isNone (.nm lAh Qt) .nn) (fun _=>AB (Al lAh (.len gl (.nm lA UY) sa (by rw[V8];exact AJ 1 (.l Y0 (.n 1000)) (.l Y0 (.n 1000000)) [_] h5) (hE:=fun _ h=>AZ h)) (AX (by rw[V8];exact U9)))) fun h=>nomatch h
 refine KP (BC f0 D rb ra bhi blo ahi alo) ((f0,.obj (AY "set.__contains__" S))::H) ?_ ?_
 .rcases hbh with rfl|⟨rfl,rfl⟩
  .exact BU (.isNone (.nm lBh Qs) .int) (fun h=>nomatch h) fun _=>AX (AI.refl _ _)
  .exact BU (.isNone (.nm lBh Qs) .nn) (fun _=>AB (Al lBh (.len gl (.nm lB UX) sb (by rw[V8];exact AJ 1 (.l Y0 (.n 1000)) (.l Y0 (.n 1000000)) [_] h6) (hE:=fun _ h=>AZ h)) (AX (by rw[V8];exact U8)))) fun h=>nomatch h
 refine AB (DZ hn (by kernel_rfl) (.nm lAl TY) (.nm lBl TX) .one lI lJ lZ ?_)
 refine AB (Ac (Gp B fun dj=>AE lL.1 ?_))
 refine AB (Ac (Bn (AC ⟨bB rfl,fun no=>AE lNo.1 ?_⟩)))
 refine FB (AZ (BW gr (AA ((Pu.n lAl) _ (AA ((Pu.n lAh) _ (AC ⟨Fe,OG fun rr=>?_⟩)))))))
 have hE:∀ i j,QI as idx alo ahi blo bhi i j=true↔(alo<=i/\i<ahi/\blo<=j/\j<bhi/\j∈idx (as.getD i 0)):=fun i j=>by rw[C9,decide_eq_true_eq]
 generalize QI as idx alo ahi blo bhi=E at hE hQ0
 refine⟨rr,alo,ahi,rfl,.mem mS,Ey (Yi (Yi h1 (Yi h2 h5)) (by decide)),Ey (Yi (Yi h2 h5) (by decide)),fun n m2 H2=>RC E alo blo no (BC f0 D rb ra bhi blo ahi alo) ((no,.list [])::(f0,.obj (AY "set.__contains__" S))::H) (alo+n) m2 H2,?_,?_,?_⟩
 .refine⟨dj,0,[],alo,blo,0,CV.nil.congr fun j=>?_,(BestTo.start E alo blo).same fun p q=>⟨fun h=>?_,fun h=>h.elim⟩,AI.trans U7 (AI.trans (AI.heap (.cons _ (.refl _))) AI.swap)⟩
  .cases alo with
   | zero=>rfl
   | succ a=>
    refine Fo (Vy.mpr fun h=>?_)
    have:=((hE _ _).mp h).1
    exact AJ 1 (.l (.a Y0 N1) Y0) .f [_] this
  .have:=((hE _ _).mp h.2).1
   exact AL 2 (.t Y0 (.a Y1 (.n 0))) (.l Y1 Y0) .f [_,_] h.1 this
 .rintro n m2 H2 hn2 ⟨dj,ep1,es1,bi,bj,bz,hrow,hbest,hl⟩
  refine FU.less hl (AP ?_)
  have ei:(alo:Int)+n=((alo+n:Nat):Int):=rfl
  have QD:alo+n<ahi:=dC.mp (show((alo+n:Nat):Int)<(ahi:Nat) from hn2)
  rw[ei]
  have hi0:alo<=alo+n:=W5 _ _
  refine AE li.1 ?_
  refine AW.cutk fun Q1 hQ1=>?_
  replace hQ1:∀ m H2,RC E alo blo no (BC f0 D rb ra bhi blo ahi alo) ((no,.list [])::(f0,.obj (AY "set.__contains__" S))::H) (alo+n+1) m H2->Q1 .next m H2:=fun m H2 q=>hQ1 .next m H2 q
  generalize alo+n=i at *
  clear ei hn2
  have hil:i<as.length:=Vp QD h2
  refine AB (Ac (EG ((Pu.n lL) _ (G5 (ep:=ep1) (es:=es1) Ie (.mem mS) (by decide) fun g=>AE lGe.1 ?_))))
  refine AB (Ac (Gp B fun dn=>AE lNe.1 ?_))
  obtain⟨q,hq,hqs⟩:∃ q,(dictAt es (.i (as.getD i 0))).getD (.ref no)=.ref q/\(q,O.list ((idx (as.getD i 0)).map fun j=>V.int (j:Nat)))∈(no,O.list [])::(f0,O.obj (AY "set.__contains__" S))::H:=by
   rcases hidx (as.getD i 0) with ⟨a1,a2⟩|⟨q,a1,a2⟩
   .exact⟨no,by rw[a1];rfl,by rw[a2];exact mS⟩
   .exact⟨q,by rw[a1];rfl,mT (mT a2)⟩
  have hpi:=hpw (as.getD i 0)
  have hpl:=hpn (as.getD i 0)
  have hup:∀ {p1 p2 p3 p4:Addr×O} {a:Addr×O},a∈H->a∈p1::p2::p3::p4::(f0,O.obj (AY "set.__contains__" S))::H:=fun h=>mT (mT (mT (mT (mT h))))
  refine JE (AO ((Pu.n lD) _ ⟨_,_,Ea (ep:=ep) (es:=es) (.mem (hup hes)) YK dD,AA ((Pu.at (.n lA) (.n li) (.mem (hup hra)) hil h5) _ (AA ((Pu.n lNo) _ (AC ⟨Av,Qz (ep:=ep) (es:=es) (k:=.i (as.getD i 0)) (.mem (hup hes)) ?_⟩))))⟩))
  rw[hq]
  generalize hps:idx (as.getD i 0)=ps at *
  refine⟨q,ps.map fun j=>V.int (j:Nat),rfl,Tz E alo blo i ps no dn g (BC f0 D rb ra bhi blo ahi alo) ((g,.obj (AY "dict.get" dj))::(dj,.dict ep1 es1)::(no,.list [])::(f0,.obj (AY "set.__contains__" S))::H),
   Tx E alo blo i no dn g (BC f0 D rb ra bhi blo ahi alo) ((g,.obj (AY "dict.get" dj))::(dj,.dict ep1 es1)::(no,.list [])::(f0,.obj (AY "set.__contains__" S))::H),?_,?_,?_,?_,?_⟩
  .exact⟨0,[],bi,bj,bz,CV.nil.congr fun j=>rfl,Vn _,hbest.same fun p q=>by unfold CM;simp,U6⟩
  .rintro t m2 H2 ⟨ep2,es2,bi,bj,bz,a1,a2,a3,l2⟩
   exact AK.less l2 (mT (mT (mT hqs)))
  .rintro t v m2 H2 hv ⟨ep2,es2,bi,bj,bz,hr2,hz2,hb2,l2⟩
   obtain⟨j,hj,rfl⟩:∃ j,ps[t]?=some j/\v=.int (j:Nat):=by
    rw[Zu]at hv
    cases q:ps[t]? with
    | none=>rw[q]at hv;cases hv
    | some j=>rw[q]at hv;cases hv;exact⟨j,rfl,rfl⟩
   refine FU.less l2 (AP (AE lj.1 ?_))
   clear hl hbest l2 hv
   have htk:ps.take (t+1)=ps.take t++[j]:=by rw[cf,hj];rfl
   have hjm:j∈ps:=Zy hj
   refine AW.cutk fun Q2 hQ2=>?_
   refine AB (BU (.ltN (.n lj) (.n lBl)) (fun hb1=>?_) (fun hb1=>AX ?_))
   .have hb1:=of_decide_eq_true hb1
    have he:E i j=false:=Vy.mpr fun h=>absurd hb1 (WL.mpr ((hE i j).mp h).2.2.1)
    refine AB (JI (hQ2 .cont _ _ ?_))
    refine⟨ep2,es2,bi,bj,bz,?_,XU hz2,?_,U4⟩
    .rw[htk];exact hr2.congr (Mi he)
    .rw[htk];exact hb2.same (MG he)
   have hb1:=of_decide_eq_false hb1
   refine AB (BU (.geN (.n lj) (.n lBh)) (fun hb3=>?_) (fun hb3=>AX ?_))
   .have hb3:=of_decide_eq_true hb3
    refine AB (NY (hQ2 .brk _ _ ?_))
    have hfull:∀ q,E i q=true->q∈ps.take t:=fun q hq=>by
     have:=(hE i q).mp hq
     rw[hps]at this
     rcases MP hpi hj q this.2.2.2.2 with z|z
     .exact z
     .exact absurd this.2.2.2.1 (WL.mpr (Yi hb3 z))
    exact⟨ep2,es2,bi,bj,bz,JK hr2 hfull,Hu hb2 hfull,U5⟩
   have hb3:=of_decide_eq_false hb3
   have he:E i j=true:=(hE i j).mpr ⟨hi0,QD,WL.mp hb1,Nat.not_le.mp hb3,by rw[hps];exact hjm⟩
   obtain⟨kk,hk1,hk2⟩:=NZ hrow he
   have hk3:(kk:Int)+1=((bk E i j:Nat):Int):=by rw[<- hk2];rfl
   have kget:∀ Q,Q (.int kk) (("j",.int (j:Nat))::("i",.int (i:Nat))::("newj2len",.ref dn)::("j2lenget",.ref g)::("nothing",.ref no)::BF bi bj bz (BC f0 D rb ra bhi blo ahi alo)) ((dn,.dict ep2 es2)::(g,.obj (AY "dict.get" dj))::(dj,.dict ep1 es1)::(no,.list [])::(f0,.obj (AY "set.__contains__" S))::H) ->
     Ck c (.ref g) [.int ((j:Int)-1),.int 0] (("j",.int (j:Nat))::("i",.int (i:Nat))::("newj2len",.ref dn)::("j2lenget",.ref g)::("nothing",.ref no)::BF bi bj bz (BC f0 D rb ra bhi blo ahi alo)) ((dn,.dict ep2 es2)::(g,.obj (AY "dict.get" dj))::(dj,.dict ep1 es1)::(no,.list [])::(f0,.obj (AY "set.__contains__" S))::H) Q:=fun Q h=>
    J7 (k:=.i ((j:Int)-1)) (.mem (mT mS)) (.mem (mT (mT mS))) (by rw[hk1];exact h)
   refine AB (DI ((Pu.add (.call2 (.n lGe) (.sub (.n lj) .one) .one (Ga (.mem (mT mS))) kget (hE:=fun _ h=>AZ h)) .one) _ ?_))
   rw[hk3]
   refine AP (AE lk.1 (Lw ((Pu.n lNe) _ ((Pu.n lj) _ ?_))))
   refine HX (d:=dn) (ep:=ep2) (es:=es2) (k:=.i j) (.head _) (fun ep3=>?_) (Yi hz2 (Yi (W7 (WX.mp hj).1) (Yi hpl (by decide))))
   have hrow3:CV (BQ es2 (.i j) (.int (bk E i j:Nat))) (Gi E i (ps.take (t+1))):=by
    rw[htk];exact hr2.put (Ho E i _ j)
   have hlen3:(BQ es2 (.i j) (.int (bk E i j:Nat))).length<=t+1:=Yi Df (XT hz2)
   have hseen:∀ p q,CM E i (ps.take (t+1)) p q↔(CM E i (ps.take t) p q∨(p=i/\q=j)):=by rw[htk];exact MF he
   show AW c _ _ _ _
   refine AB (BU (.gtN (.n lk) (.n lZ)) (fun hb4=>?_) (fun hb4=>?_))
   .obtain⟨hk4,hk5,_⟩:=Ky E i j
    have x1:(i:Int)-(bk E i j:Nat)+1=((i+1-bk E i j:Nat):Int):=KB hk4
    have x2:(j:Int)-(bk E i j:Nat)+1=((j+1-bk E i j:Nat):Int):=KB hk5
    refine AB (DZ hn (by kernel_rfl) (.add (.sub (.n li) (.n lk)) .one) (.add (.sub (.n lj) (.n lk)) .one) (.n lk) lI lJ lZ (AX (AX (hQ2 .next _ _ ?_))))
    rw[x1,x2]
    exact⟨ep3,_,_,_,_,hrow3,hlen3,(hb2.grow (of_decide_eq_true hb4)).same hseen,U2⟩
   .refine AX (AX (hQ2 .next _ _ ?_))
    exact⟨ep3,_,_,_,_,hrow3,hlen3,(hb2.keep (WL.mp (of_decide_eq_false hb4)) (fun p q h=>NU (MO hpi hj) h)).same hseen,U3⟩
  .rintro m2 H2 ⟨ep2,es2,bi,bj,bz,hr2,hz2,hb2,l2⟩
   rw[V8,aO]at hr2 hb2
   have hfull:∀ q,E i q=true->q∈ps:=fun q hq=>hps▸((hE i q).mp hq).2.2.2.2
   exact⟨ep2,es2,bi,bj,bz,JK hr2 hfull,Hu hb2 hfull,AI.trans l2 UZ⟩
  .rintro m2 H2 ⟨ep2,es2,bi,bj,bz,hr2,hb2,l2⟩
   refine AW.less l2 ?_
   exact AB (Al lL (.n lNe) (AX (hQ1 _ _ ⟨dn,ep2,es2,bi,bj,bz,hr2,hb2,AI.trans U1 (AI.heap (.cons_cons _ (.cons _ (.cons _ (.refl _)))))⟩)))
 .rintro m2 H2 ⟨dj,ep1,es1,bi,bj,bz,_,hbest,hl⟩
  have hx:alo+((ahi:Int)-alo).toNat=ahi:=Ti h1
  rw[hx]at hbest
  have hbest:BestTo E alo blo (fun p q=>E p q=true) bi bj bz:=hbest.same fun p q=>⟨fun h=>⟨((hE p q).mp h).2.1,h⟩,fun h=>h.2⟩
  have hbj:bi+bz<=ahi/\bj+bz<=bhi/\alo<=bi/\blo<=bj:=by
   rcases Zj bz with z|z
   .obtain⟨rfl,rfl⟩:=hbest.zero z;exact Be 6 (.e Y0 (.n 0)) (.e (.a Y1 Y2) Y3) (.l Y4 Y5) (.an (.l (.a Y1 Y0) Y3) (.an (.l (.a Y4 Y0) Y5) (.an (.l Y1 Y1) (.l Y4 Y4)))) [_,_,_,_,_,_] z hx h3
   .have a1:=(hE _ _).mp (hbest.run 0 z)
    have a2:=(hE _ _).mp (hbest.seen z)
    exact PL 7 (.l Y0 (.a Y1 (.n 0))) (.l Y2 (.a Y3 (.n 0))) (.t (.s (.a Y1 Y4) N1) Y5) (.t (.s (.a Y3 Y4) N1) Y6) (.an (.l (.a Y1 Y4) Y5) (.an (.l (.a Y3 Y4) Y6) (.an (.l Y0 Y1) (.l Y2 Y3)))) [_,_,_,_,_,_,_] a1.1 a1.2.2.1 a2.2.1 a2.2.2.2.1
  clear hE
  refine AW.less (AI.trans hl (AI.trans Ua (AI.heap (.cons _ (.cons _ (.refl _)))))) ?_
  exact Oa p c hf B hs hra hrb hks hbest hbj h2 h4 h5 h6 hQ0
noncomputable def CP(ra:Addr)(ua:At)(H:Hp):Prop:=∀ (c:Ctx) (m:Lo) (H':Hp) (Q:V->Lo->Hp->Prop),(∀ q∈H,q∈H')->Q (.bool false) m H'->KG c .Is (.ref ra) (.at ua) m H' Q
theorem CP.at{ra:Addr}{ua:At}{H:Hp}(h:G8 (.ref ra) ua false):CP ra ua H:=fun c m H' Q _ q=>T8 h q
theorem CP.lists{ra rb:Addr}{xs ys:List V}{H:Hp}(h1:(ra,O.list xs)∈H)(h2:(rb,O.list ys)∈H)(hne:ra≠rb):CP ra (.ref rb) H:=fun c m H' Q sub q s va vb R r1 r2=>by
 cases (r1:va=_);cases (r2:vb=_)
 obtain⟨i1,n1,l1,_⟩:=O.list_get (R.obj _ _ (sub _ h1))
 obtain⟨i2,n2,l2,_⟩:=O.list_get (R.obj _ _ (sub _ h2))
 refine .val R q fun P k=>?_
 show c.wp (do return .bool (<- isSame (.ref ra) (.ref rb))) P s
 exact Ve (wpAny_isSame_ref_other hne l1 l2 (show az "list"≠az "tuple" by decide) (WM (k _ s.toks rfl)))
section
variable{c:Ctx}{m:Lo}{H:Hp}{Q:V->Lo->Hp->Prop}
theorem Ck.nodup{f:V}{vs:List V}(h:(dom H).Nodup->Ck c f vs m H Q):Ck c f vs m H Q:=fun s vf vvs R=>h R.nd s vf vvs R
theorem TO{a b:Addr}{o o':O}{H:Hp}(nd:(dom ((a,o)::H)).Nodup)(h:(b,o')∈H):a≠b:=fun e=>by
 have:a∉dom H:=(Vr.mp nd).1
 exact this (e▸Vm.mpr ⟨_,h,rfl⟩)
end
noncomputable def BY(c:Ctx)(k:Nat)(J:V)(jk:IS->Bool)(W:Hp):Prop:=∀ c2:Ctx,c2.fuel=k->c2.prog=c.prog->c2.w=c.w->(∀ P,c.Knows P->c2.Knows P)->LF c2 J jk W
theorem BY.called{c c2:Ctx}{k:Nat}{J:V}{jk:IS->Bool}{W:Hp}{fd:Wx}{L:Addr}(h:BY c k J jk W)(hc:Called c fd L c2):BY c2 k J jk W:=
 fun c3 e1 e2 e3 e4=>h c3 e1 (e2.trans hc.prog) (e3.trans hc.w) fun P q=>e4 P (hc.knows P q)
theorem BY.made{c c2:Ctx}{k:Nat}{J:V}{jk:IS->Bool}{W:Hp}(h:BY c k J jk W)(hc:Made c c2):BY c2 k J jk W:=
 fun c3 e1 e2 e3 e4=>h c3 e1 (e2.trans hc.prog) (e3.trans hc.w) fun P q=>e4 P (fun h hh=>q h (fun b o e=>hh b o (hc.G▸e)))
theorem Pc(p:cy)(c:Ctx)(B:Base c (AQ p))(hs:c.env.scope=(AM (AQ p) 174).scope){H:Hp}{x d ra:Addr}{fs:List (Str×V)}{ua:At}(hfa:fs.lookup ("a":Str)=some (.at ua))(hua:(V.at ua).notBi=true)(hne:CP ra ua H)(hz:fs.length<=100)
  :AW c (AU (AM (AQ p) 174)) [("a",.ref ra),("self",.ref x)] ((x,.inst 242 d)::(d,.ns fs)::H)
   fun f _ H'=>f.val=.none/\AI [] H' [] ((x,.inst 242 d)::(d,.ns (("opcodes",.none)::("matching_blocks",.none)::("a",.ref ra)::fs))::H):=by
 have hn:=congrArg c0 hs
 conv at hn=>rhs;whnf
 have hC:=BM p
 refine AB (Ad ?_)
 with_reducible refine Co ?_
 with_reducible refine TG ?_
 refine CG ?_ (by with_unfolding_all rfl)
 refine BA (by with_reducible assumption) (by decide +kernel) (BK.head _) ?_
 refine EG ?_
 refine BA (by with_reducible assumption) (by decide +kernel) (BK.tail (by decide) (BK.head _)) ?_
 refine K9 B hC (by kernel_rfl) (AK.mem mS) (AK.mem (mT mS)) hfa ?_ hua
 refine hne _ _ _ _ (fun q hq=>mT (mT hq)) ?_
 with_reducible refine Ak ?_
 refine EX (fun h=>nomatch h) (fun _=>?_)
 with_reducible refine AX ?_
 refine AB (GD ?_)
 refine BA (by with_reducible assumption) (by decide +kernel) (BK.head _) ?_
 refine Az ?_
 refine BA (by with_reducible assumption) (by decide +kernel) (BK.tail (by decide) (BK.head _)) ?_
 refine Ay B hC (by kernel_rfl) (AK.mem mS) (Cd.tail (Cd.head _)) ?_ (by (exact AJ 1 (.l Y0 (.n 100)) (.l Y0 (.n 1000)) [_] hz))
 refine AB (DI ?_)
 with_reducible refine EF ?_
 refine Az ?_
 refine BA (by with_reducible assumption) (by decide +kernel) (BK.tail (by decide) (BK.head _)) ?_
 refine Ay B hC (by kernel_rfl) (AK.mem mS) (Cd.tail (Cd.head _)) ?_ (by simp;(exact AJ 1 (.l Y0 (.n 100)) (.l Y0 (.n 999)) [_] hz))
 refine Az ?_
 refine BA (by with_reducible assumption) (by decide +kernel) (BK.tail (by decide) (BK.head _)) ?_
 refine Ay B hC (by kernel_rfl) (AK.mem mS) (Cd.tail (Cd.head _)) ?_ (by simp;(exact AJ 1 (.l Y0 (.n 100)) (.l Y0 (.n 998)) [_] hz))
 refine AX ⟨rfl,?_⟩
 exact(Cy Ab.nil (bA _))
theorem Lr{fd:Wx}{ns:List Str}(h:∀ a0,X8 fd { pos:=[a0] }=pure (ns.zip [a0]))(l:List VX)(e:l.length=1):X8 fd { pos:=l }=pure (ns.zip l):=by
 obtain⟨a0,l0,rfl,e0⟩:=Ah e
 cases cz.mp e0
 exact h a0
theorem Lq{fd:Wx}{ns:List Str}(h:∀ a0 a1,X8 fd { pos:=[a0,a1] }=pure (ns.zip [a0,a1]))(l:List VX)(e:l.length=2):X8 fd { pos:=l }=pure (ns.zip l):=by
 obtain⟨a0,l0,rfl,e0⟩:=Ah e
 obtain⟨a1,l1,rfl,e1⟩:=Ah e0
 cases cz.mp e1
 exact h a0 a1
theorem RH{fd:Wx}{ns:List Str}(h:∀ a0 a1 a2,X8 fd { pos:=[a0,a1,a2] }=pure (ns.zip [a0,a1,a2]))(l:List VX)(e:l.length=3):X8 fd { pos:=l }=pure (ns.zip l):=by
 obtain⟨a0,l0,rfl,e0⟩:=Ah e
 obtain⟨a1,l1,rfl,e1⟩:=Ah e0
 obtain⟨a2,l2,rfl,e2⟩:=Ah e1
 cases cz.mp e2
 exact h a0 a1 a2
theorem TC{P:List VX->Prop}(h:∀ a0 a1 a2 a3,P [a0,a1,a2,a3])(l:List VX)(e:l.length=4):P l:=by
 obtain⟨a0,l0,rfl,e0⟩:=Ah e
 obtain⟨a1,l1,rfl,e1⟩:=Ah e0
 obtain⟨a2,l2,rfl,e2⟩:=Ah e1
 obtain⟨a3,l3,rfl,e3⟩:=Ah e2
 cases cz.mp e3
 exact h a0 a1 a2 a3
theorem Qb{P:List VX->Prop}(h:∀ a0 a1 a2 a3 a4,P [a0,a1,a2,a3,a4])(l:List VX)(e:l.length=5):P l:=by
 obtain⟨a0,l0,rfl,e0⟩:=Ah e
 obtain⟨a1,l1,rfl,e1⟩:=Ah e0
 obtain⟨a2,l2,rfl,e2⟩:=Ah e1
 obtain⟨a3,l3,rfl,e3⟩:=Ah e2
 obtain⟨a4,l4,rfl,e4⟩:=Ah e3
 cases cz.mp e4
 exact h a0 a1 a2 a3 a4
theorem Mn(p:cy){c:Ctx}{k:Nat}(hf:c.fuel=k+1)(B:Base c (AQ p)){m:Lo}{Q:V->Lo->Hp->Prop}{H:Hp}{x d rb:Addr}{fs:List (Str×V)}{bs:List IS}{J:V}{on:Bool}(hfb:fs.lookup ("b":Str)=some (.ref rb))(hfj:fs.lookup ("isjunk":Str)=some J)(hfa:fs.lookup ("autojunk":Str)=some (.bool on))(hJb:J.notBi=true){jk:IS->Bool}{W:Hp}(hJ:BY c k J jk W)(hW:∀ p∈W,p∈H)(hrb:(rb,O.list (bs.map IS.v))∈H)(hfz:fs.length<=100)(hbi:∀ x∈bs,∃ n,x=IS.i n)(hbz:bs.length<=1000)(h:∀ D S S2 z1 z2 ep G,gP G=Lg bs->Q .none m ((S2,.set z2 (((G.filter fun e=>!jk e.1).filter (BB bs.length on)).map (·.1)))::(S,.set z1 ((G.map (·.1)).filter jk))::(D,.dict ep (gD ((G.filter fun e=>!jk e.1).filter fun e=>!BB bs.length on e)))::(x,.inst 242 d)::(d,.ns (("bpopular",.ref S2)::("bjunk",.ref S)::("b2j",.ref D)::fs))::(gL G++H))) :
  Ao c (.ref 188) [.ref x] m ((x,.inst 242 d)::(d,.ns fs)::H) Q:=by
 refine DE (fd:=AM (AQ p) 188) (bs:=c8 [("self":Str)] [V.ref x]) B hf (Bs (by kernel_rfl)) (by kernel_rfl) (by kernel_rfl) (fun s vvs X r=>Ax rfl (fun vvs hl=>?_) s vvs X r) fun L c2 hc hk B2=>?_
 .exact Lr (fun v0=>by kernel_rfl) vvs hl
 .have e1:CY (AM (AQ p) 188).scope.names (c8 [("self":Str)] [V.ref x])=[(("self":Str),V.ref x)]:=by kernel_rfl
  have e2:Aw L (AM (AQ p) 188) (c8 [("self":Str)] [V.ref x])=[]:=by kernel_rfl
  rw[e1,e2]
  refine AW.post (AW.mono (Os p c2 B2 hc.scope hfb hfj hfa hJb (hJ c2 hk hc.prog hc.w hc.knows) hW hrb hfz hbi hbz) ?_)
  rintro f m' H' ⟨hv,D,S,S2,z1,z2,ep,G,hG,hl⟩
  refine⟨[],_,⟨(fun _ _ e=>nomatch e),hl.2⟩,?_⟩
  rw[hv]
  exact h D S S2 z1 z2 ep G hG
theorem GA(p:cy){c:Ctx}{k:Nat}(hf:c.fuel=k+1)(B:Base c (AQ p)){m:Lo}{Q:V->Lo->Hp->Prop}{H:Hp}{x d ra:Addr}{fs:List (Str×V)}{ua:At}(hfa:fs.lookup ("a":Str)=some (.at ua))(hua:(V.at ua).notBi=true)(hne:CP ra ua H)(hz:fs.length<=100)(h:Q .none m ((x,.inst 242 d)::(d,.ns (("opcodes",.none)::("matching_blocks",.none)::("a",.ref ra)::fs))::H)):Ao c (.ref 174) [.ref x,.ref ra] m ((x,.inst 242 d)::(d,.ns fs)::H) Q:=by
 refine DE (fd:=AM (AQ p) 174) (bs:=c8 [("self":Str),"a"] [V.ref x,V.ref ra]) B hf (Bs (by kernel_rfl)) (by kernel_rfl) (by kernel_rfl) (fun s vvs X r=>Ax rfl (fun vvs hl=>?_) s vvs X r) fun L c2 hc hk B2=>?_
 .exact Lq (fun v0 v1=>by kernel_rfl) vvs hl
 .have e1:CY (AM (AQ p) 174).scope.names (c8 [("self":Str),"a"] [V.ref x,V.ref ra])=[(("a":Str),V.ref ra),("self",V.ref x)]:=by kernel_rfl
  have e2:Aw L (AM (AQ p) 174) (c8 [("self":Str),"a"] [V.ref x,V.ref ra])=[]:=by kernel_rfl
  rw[e1,e2]
  refine AW.post (AW.mono (Pc p c2 B2 hc.scope hfa hua hne hz) ?_)
  rintro f m' H' ⟨hv,hl⟩
  refine⟨[],_,⟨(fun _ _ e=>nomatch e),hl.2⟩,?_⟩
  rw[hv]
  exact h
theorem Pb(p:cy)(c:Ctx){k:Nat}(hf:c.fuel=k+1)(B:Base c (AQ p))(hs:c.env.scope=(AM (AQ p) 181).scope){H:Hp}{x d rb:Addr}{fs:List (Str×V)}{ub:At}(hfb:fs.lookup ("b":Str)=some (.at ub))(hub:(V.at ub).notBi=true)(hne:CP rb ub H){bs:List IS}{J:V}{on:Bool}(hfj:fs.lookup ("isjunk":Str)=some J)(hfa:fs.lookup ("autojunk":Str)=some (.bool on))(hJb:J.notBi=true){jk:IS->Bool}{W:Hp}(hJ:BY c k J jk W)(hW:∀ p∈W,p∈H)(hrb:(rb,O.list (bs.map IS.v))∈H)(hfc:fs.lookup ("_SequenceMatcher__chain_b":Str)=.none)(hz:fs.length<=90)(hbi:∀ x∈bs,∃ n,x=IS.i n)(hbz:bs.length<=1000)
  :AW c (AU (AM (AQ p) 181)) [("b",.ref rb),("self",.ref x)] ((x,.inst 242 d)::(d,.ns fs)::H)
   fun f _ H'=>f.val=.none/\∃ D S S2 z1 z2 ep G,gP G=Lg bs/\AI [] H' [] ((S2,.set z2 (((G.filter fun e=>!jk e.1).filter (BB bs.length on)).map (·.1)))::(S,.set z1 ((G.map (·.1)).filter jk))::(D,.dict ep (gD ((G.filter fun e=>!jk e.1).filter fun e=>!BB bs.length on e)))::(x,.inst 242 d)::(d,.ns (("bpopular",.ref S2)::("bjunk",.ref S)::("b2j",.ref D)::("fullbcount",.none)::("opcodes",.none)::("matching_blocks",.none)::("b",.ref rb)::fs))::(gL G++H)):=by
 have hn:=congrArg c0 hs
 conv at hn=>rhs;whnf
 have hC:=BM p
 refine AB (Ad ?_)
 with_reducible refine Co ?_
 with_reducible refine TG ?_
 refine CG ?_ (by with_unfolding_all rfl)
 refine BA (by with_reducible assumption) (by decide +kernel) (BK.head _) ?_
 refine EG ?_
 refine BA (by with_reducible assumption) (by decide +kernel) (BK.tail (by decide) (BK.head _)) ?_
 refine K9 B hC (by kernel_rfl) (AK.mem mS) (AK.mem (mT mS)) hfb ?_ hub
 refine hne _ _ _ _ (fun q hq=>mT (mT hq)) ?_
 with_reducible refine Ak ?_
 refine EX (fun h=>nomatch h) (fun _=>?_)
 with_reducible refine AX ?_
 refine AB (GD ?_)
 refine BA (by with_reducible assumption) (by decide +kernel) (BK.head _) ?_
 refine Az ?_
 refine BA (by with_reducible assumption) (by decide +kernel) (BK.tail (by decide) (BK.head _)) ?_
 refine Ay B hC (by kernel_rfl) (AK.mem mS) (Cd.tail (Cd.head _)) ?_ (by (exact AJ 1 (.l Y0 (.n 90)) (.l Y0 (.n 1000)) [_] hz))
 refine AB (DI ?_)
 with_reducible refine EF ?_
 refine Az ?_
 refine BA (by with_reducible assumption) (by decide +kernel) (BK.tail (by decide) (BK.head _)) ?_
 refine Ay B hC (by kernel_rfl) (AK.mem mS) (Cd.tail (Cd.head _)) ?_ (by simp;(exact AJ 1 (.l Y0 (.n 90)) (.l Y0 (.n 999)) [_] hz))
 refine Az ?_
 refine BA (by with_reducible assumption) (by decide +kernel) (BK.tail (by decide) (BK.head _)) ?_
 refine Ay B hC (by kernel_rfl) (AK.mem mS) (Cd.tail (Cd.head _)) ?_ (by simp;(exact AJ 1 (.l Y0 (.n 90)) (.l Y0 (.n 998)) [_] hz))
 refine AB (GD ?_)
 with_reducible refine EF ?_
 refine Az ?_
 refine BA (by with_reducible assumption) (by decide +kernel) (BK.tail (by decide) (BK.head _)) ?_
 refine Ay B hC (by kernel_rfl) (AK.mem mS) (Cd.tail (Cd.head _)) ?_ (by simp;(exact AJ 1 (.l Y0 (.n 90)) (.l Y0 (.n 997)) [_] hz))
 ((with_reducible refine AB ?_);refine Ad ?_)
 refine AO ?_
 refine BA (by with_reducible assumption) (by decide +kernel) (BK.tail (by decide) (BK.head _)) ?_
 refine⟨_,_,A9 (K:=AQ p) (C:=242) (f:=188) B hC (by kernel_rfl) (by kernel_rfl) (AK.mem mS) (AK.mem (mT mS)) ?_,?_⟩
 .rw[AN (by decide),AN (by decide),AN (by decide),AN (by decide)];exact hfc
 with_reducible refine AC ?_
 refine⟨Aq B (by kernel_rfl),Ao.cal (Mn p hf B (on:=on) (fs:=("fullbcount",.none)::("opcodes",.none)::("matching_blocks",.none)::("b",.ref rb)::fs) rfl ?_ ?_ hJb hJ hW hrb (by simp;(exact AJ 1 (.l Y0 (.n 90)) (.l Y0 (.n 96)) [_] hz)) hbi hbz ?_)⟩
 .rw[AN (by decide),AN (by decide),AN (by decide),AN (by decide)];exact hfj
 .rw[AN (by decide),AN (by decide),AN (by decide),AN (by decide)];exact hfa
 intro D S S2 z1 z2 ep G hG
 with_reducible refine AX ?_
 exact⟨rfl,D,S,S2,z1,z2,ep,G,hG,by exact(Cy Ab.nil (bA _))⟩
theorem JD(p:cy){c:Ctx}{k:Nat}(hf:c.fuel=k+1+1)(B:Base c (AQ p)){m:Lo}{Q:V->Lo->Hp->Prop}{H:Hp}{x d rb:Addr}{fs:List (Str×V)}{ub:At}(hfb:fs.lookup ("b":Str)=some (.at ub))(hub:(V.at ub).notBi=true)(hne:CP rb ub H){bs:List IS}{J:V}{on:Bool}(hfj:fs.lookup ("isjunk":Str)=some J)(hfa:fs.lookup ("autojunk":Str)=some (.bool on))(hJb:J.notBi=true){jk:IS->Bool}{W:Hp}(hJ:BY c k J jk W)(hW:∀ p∈W,p∈H)(hrb:(rb,O.list (bs.map IS.v))∈H)(hfc:fs.lookup ("_SequenceMatcher__chain_b":Str)=.none)(hz:fs.length<=90)(hbi:∀ x∈bs,∃ n,x=IS.i n)(hbz:bs.length<=1000)(h:∀ D S S2 z1 z2 ep G,gP G=Lg bs->Q .none m ((S2,.set z2 (((G.filter fun e=>!jk e.1).filter (BB bs.length on)).map (·.1)))::(S,.set z1 ((G.map (·.1)).filter jk))::(D,.dict ep (gD ((G.filter fun e=>!jk e.1).filter fun e=>!BB bs.length on e)))::(x,.inst 242 d)::(d,.ns (("bpopular",.ref S2)::("bjunk",.ref S)::("b2j",.ref D)::("fullbcount",.none)::("opcodes",.none)::("matching_blocks",.none)::("b",.ref rb)::fs))::(gL G++H))):Ao c (.ref 181) [.ref x,.ref rb] m ((x,.inst 242 d)::(d,.ns fs)::H) Q:=by
 refine DE (fd:=AM (AQ p) 181) (bs:=c8 [("self":Str),"b"] [V.ref x,V.ref rb]) B hf (Bs (by kernel_rfl)) (by kernel_rfl) (by kernel_rfl) (fun s vvs X r=>Ax rfl (fun vvs hl=>?_) s vvs X r) fun L c2 hc hk B2=>?_
 .exact Lq (fun v0 v1=>by kernel_rfl) vvs hl
 .have e1:CY (AM (AQ p) 181).scope.names (c8 [("self":Str),"b"] [V.ref x,V.ref rb])=[(("b":Str),V.ref rb),("self",V.ref x)]:=by kernel_rfl
  have e2:Aw L (AM (AQ p) 181) (c8 [("self":Str),"b"] [V.ref x,V.ref rb])=[]:=by kernel_rfl
  rw[e1,e2]
  refine AW.post (AW.mono (Pb p c2 hk B2 hc.scope hfb hub hne hfj hfa hJb (hJ.called hc) hW hrb hfc hz hbi hbz) ?_)
  rintro f m' H' ⟨hv,D,S,S2,z1,z2,ep,G,hG,hl⟩
  refine⟨[],_,⟨(fun _ _ e=>nomatch e),hl.2⟩,?_⟩
  rw[hv]
  exact h D S S2 z1 z2 ep G hG
noncomputable abbrev UO(J:V)(on:Bool):List (Str×V):=[("autojunk",.bool on),("b",.none),("a",.none),("isjunk",J)]
noncomputable abbrev Us(J:V)(on:Bool)(ra:Addr):List (Str×V):=("opcodes",.none)::("matching_blocks",.none)::("a",.ref ra)::UO J on
noncomputable abbrev Ur(J:V)(on:Bool)(ra rb D S S2:Addr):List (Str×V):=("bpopular",.ref S2)::("bjunk",.ref S)::("b2j",.ref D)::("fullbcount",.none)::("opcodes",.none)::("matching_blocks",.none)::("b",.ref rb)::Us J on ra
noncomputable abbrev Rh(x d ra rb D S S2:Addr)(z1 z2:C8)(ep:Nat)(G:GL)(bs:List IS)(J:V)(jk:IS->Bool)(on:Bool)(H:Hp):Hp:=
 (S2,.set z2 (((G.filter fun e=>!jk e.1).filter (BB bs.length on)).map (·.1)))::(S,.set z1 ((G.map (·.1)).filter jk))::(D,.dict ep (gD ((G.filter fun e=>!jk e.1).filter fun e=>!BB bs.length on e)))::(x,.inst 242 d)::(d,.ns (Ur J on ra rb D S S2))::(gL G++H)
theorem Pa(p:cy)(c:Ctx){k:Nat}(hf:c.fuel=k+1+1)(B:Base c (AQ p))(hs:c.env.scope=(AM (AQ p) 167).scope){H:Hp}{x d ra rb:Addr}{bs:List IS}{J:V}{on:Bool}(hJb:J.notBi=true){jk:IS->Bool}{W:Hp}(hJ:BY c k J jk W)(hW:∀ p∈W,p∈H)(hrb:(rb,O.list (bs.map IS.v))∈H)(hbi:∀ x∈bs,∃ n,x=IS.i n)(hbz:bs.length<=1000)
  :AW c (AU (AM (AQ p) 167)) [("b",.ref rb),("a",.ref ra),("self",.ref x)] ((x,.inst 242 d)::(d,.ns (UO J on))::H)
   fun f _ H'=>f.val=.none/\∃ D S S2 z1 z2 ep G,gP G=Lg bs/\AI [] H' [] (Rh x d ra rb D S S2 z1 z2 ep G bs J jk on H):=by
 have hn:=congrArg c0 hs
 conv at hn=>rhs;whnf
 have hC:=BM p
 refine AB (Ad ?_)
 with_reducible refine Co ?_
 ((with_reducible refine AB ?_);refine Ad ?_)
 refine AO ?_
 refine BA (by with_reducible assumption) (by decide +kernel) (BK.tail (by decide) (BK.tail (by decide) (BK.head _))) ?_
 refine⟨_,_,A9 (K:=AQ p) (C:=242) (f:=174) B hC (by kernel_rfl) (by kernel_rfl) (AK.mem mS) (AK.mem (mT mS)) rfl,?_⟩
 refine AA ?_
 refine BA (by with_reducible assumption) (by decide +kernel) (BK.tail (by decide) (BK.head _)) ?_
 with_reducible refine AC ?_
 refine⟨Aq B (by kernel_rfl),Ao.cal (GA p hf B (fs:=UO J on) (ua:=.none) rfl rfl (.at .ref) (by simp) ?_)⟩
 ((with_reducible refine AB ?_);refine Ad ?_)
 refine AO ?_
 refine BA (by with_reducible assumption) (by decide +kernel) (BK.tail (by decide) (BK.tail (by decide) (BK.head _))) ?_
 refine⟨_,_,A9 (K:=AQ p) (C:=242) (f:=181) B hC (by kernel_rfl) (by kernel_rfl) (AK.mem mS) (AK.mem (mT mS)) rfl,?_⟩
 refine AA ?_
 refine BA (by with_reducible assumption) (by decide +kernel) (BK.head _) ?_
 with_reducible refine AC ?_
 refine⟨Aq B (by kernel_rfl),Ao.cal (JD p hf B (on:=on) (fs:=Us J on ra) (ub:=.none) rfl rfl (.at .ref) rfl rfl hJb hJ hW hrb rfl (by simp) hbi hbz ?_)⟩
 intro D S S2 z1 z2 ep G hG
 with_reducible refine AX ?_
 exact⟨rfl,D,S,S2,z1,z2,ep,G,hG,by exact(Cy Ab.nil (bA _))⟩
theorem NT(p:cy){c:Ctx}{k:Nat}(hf:c.fuel=k+1+1+1)(B:Base c (AQ p)){m:Lo}{Q:V->Lo->Hp->Prop}{H:Hp}{x d ra rb:Addr}{bs:List IS}{J:V}{on:Bool}(hJb:J.notBi=true){jk:IS->Bool}{W:Hp}(hJ:BY c k J jk W)(hW:∀ p∈W,p∈H)(hrb:(rb,O.list (bs.map IS.v))∈H)(hbi:∀ x∈bs,∃ n,x=IS.i n)(hbz:bs.length<=1000)(h:∀ D S S2 z1 z2 ep G,gP G=Lg bs->Q .none m (Rh x d ra rb D S S2 z1 z2 ep G bs J jk on H)):Ao c (.ref 167) [.ref x,.ref ra,.ref rb] m ((x,.inst 242 d)::(d,.ns (UO J on))::H) Q:=by
 refine DE (fd:=AM (AQ p) 167) (bs:=c8 [("self":Str),"a","b"] [V.ref x,V.ref ra,V.ref rb]) B hf (Bs (by kernel_rfl)) (by kernel_rfl) (by kernel_rfl) (fun s vvs X r=>Ax rfl (fun vvs hl=>?_) s vvs X r) fun L c2 hc hk B2=>?_
 .exact RH (fun v0 v1 v2=>by kernel_rfl) vvs hl
 .have e1:CY (AM (AQ p) 167).scope.names (c8 [("self":Str),"a","b"] [V.ref x,V.ref ra,V.ref rb])=[(("b":Str),V.ref rb),("a",V.ref ra),("self",V.ref x)]:=by kernel_rfl
  have e2:Aw L (AM (AQ p) 167) (c8 [("self":Str),"a","b"] [V.ref x,V.ref ra,V.ref rb])=[]:=by kernel_rfl
  rw[e1,e2]
  refine AW.post (AW.mono (Pa p c2 hk B2 hc.scope hJb (hJ.called hc) hW hrb hbi hbz) ?_)
  rintro f m' H' ⟨hv,D,S,S2,z1,z2,ep,G,hG,hl⟩
  refine⟨[],_,⟨(fun _ _ e=>nomatch e),hl.2⟩,?_⟩
  rw[hv]
  exact h D S S2 z1 z2 ep G hG
theorem P0(p:cy)(c:Ctx){k:Nat}(hf:c.fuel=k+1+1+1)(B:Base c (AQ p))(hs:c.env.scope=(AM (AQ p) 160).scope){H:Hp}{x d ra rb:Addr}{bs:List IS}{J:V}{on:Bool}(hJb:J.notBi=true){jk:IS->Bool}{W:Hp}(hJ:BY c k J jk W)(hW:∀ p∈W,p∈H)(hrb:(rb,O.list (bs.map IS.v))∈H)(hbi:∀ x∈bs,∃ n,x=IS.i n)(hbz:bs.length<=1000)
  :AW c (AU (AM (AQ p) 160)) [("autojunk",.bool on),("b",.ref rb),("a",.ref ra),("isjunk",J),("self",.ref x)] ((x,.inst 242 d)::(d,.ns [])::H)
   fun f _ H'=>f.val=.none/\∃ D S S2 z1 z2 ep G,gP G=Lg bs/\AI [] H' [] (Rh x d ra rb D S S2 z1 z2 ep G bs J jk on H):=by
 have hn:=congrArg c0 hs
 conv at hn=>rhs;whnf
 have hC:=BM p
 refine AB (Ad ?_)
 with_reducible refine Co ?_
 refine AB (GD ?_)
 refine BA (by with_reducible assumption) (by decide +kernel) (BK.tail (by decide) (BK.tail (by decide) (BK.tail (by decide) (BK.head _)))) ?_
 refine Az ?_
 refine BA (by with_reducible assumption) (by decide +kernel) (BK.tail (by decide) (BK.tail (by decide) (BK.tail (by decide) (BK.tail (by decide) (BK.head _))))) ?_
 refine Ay B hC (by kernel_rfl) (AK.mem mS) (Cd.tail (Cd.head _)) ?_ (by decide)
 refine AB (DI ?_)
 with_reducible refine EF ?_
 refine Az ?_
 refine BA (by with_reducible assumption) (by decide +kernel) (BK.tail (by decide) (BK.tail (by decide) (BK.tail (by decide) (BK.tail (by decide) (BK.head _))))) ?_
 refine Ay B hC (by kernel_rfl) (AK.mem mS) (Cd.tail (Cd.head _)) ?_ (by simp)
 refine Az ?_
 refine BA (by with_reducible assumption) (by decide +kernel) (BK.tail (by decide) (BK.tail (by decide) (BK.tail (by decide) (BK.tail (by decide) (BK.head _))))) ?_
 refine Ay B hC (by kernel_rfl) (AK.mem mS) (Cd.tail (Cd.head _)) ?_ (by simp)
 refine AB (GD ?_)
 refine BA (by with_reducible assumption) (by decide +kernel) (BK.head _) ?_
 refine Az ?_
 refine BA (by with_reducible assumption) (by decide +kernel) (BK.tail (by decide) (BK.tail (by decide) (BK.tail (by decide) (BK.tail (by decide) (BK.head _))))) ?_
 refine Ay B hC (by kernel_rfl) (AK.mem mS) (Cd.tail (Cd.head _)) ?_ (by simp)
 refine AB (Ad ?_)
 refine AO ?_
 refine BA (by with_reducible assumption) (by decide +kernel) (BK.tail (by decide) (BK.tail (by decide) (BK.tail (by decide) (BK.tail (by decide) (BK.head _))))) ?_
 refine⟨_,_,A9 (K:=AQ p) (C:=242) (f:=167) B hC (by kernel_rfl) (by kernel_rfl) (AK.mem mS) (AK.mem (mT mS)) rfl,?_⟩
 refine AA ?_
 refine BA (by with_reducible assumption) (by decide +kernel) (BK.tail (by decide) (BK.tail (by decide) (BK.head _))) ?_
 refine AA ?_
 refine BA (by with_reducible assumption) (by decide +kernel) (BK.tail (by decide) (BK.head _)) ?_
 with_reducible refine AC ?_
 refine⟨Aq B (by kernel_rfl),Ao.cal (NT p hf B (on:=on) hJb hJ hW hrb hbi hbz ?_)⟩
 intro D S S2 z1 z2 ep G hG
 with_reducible refine AX ?_
 exact⟨rfl,D,S,S2,z1,z2,ep,G,hG,by exact(Cy Ab.nil (bA _))⟩
theorem Jw(p:cy):(AQ p).lookup 153=some { cls:=az "tuple",data:=Data.seq #[ZZ,Value.str (YP "") 404,Value.str (YP "") 405,Value.bool true] 0 }:=by kernel_rfl
noncomputable def Gd:Arguments:=⟨[],[⟨YP "self",none,⟨145,17,145,21⟩⟩,⟨YP "isjunk",none,⟨145,23,145,29⟩⟩,⟨YP "a",none,⟨145,36,145,37⟩⟩,⟨YP "b",none,⟨145,42,145,43⟩⟩,⟨YP "autojunk",none,⟨145,48,145,56⟩⟩],
 none,[],[],none,
  [dE Const.none 0 ⟨145,30,145,34⟩,dE (Const.str (YP "")) 0 ⟨145,38,145,40⟩,dE (Const.str (YP "")) 0 ⟨145,44,145,46⟩,dE (Const.bool true) 0 ⟨145,57,145,61⟩]⟩
theorem VH{fd:Wx}{T:Addr}{s:Vb}{o:Obj}{d1 d2 d3 d4:VX}{n:Nat}(hp:fd.params=Gd)(hd:fd.defaults=.ref T)(ho:s.heap.get? T=some o)(hs:o.data=.seq #[d1,d2,d3,d4] n)(v0 v1 v2 v3 v4:VX) :
  W0 s fd ⟨[v0,v1,v2,v3,v4],[]⟩ (c8 [("self":Str),"isjunk","a","b","autojunk"] [v0,v1,v2,v3,v4]):=by
 cases fd
 dsimp only at hp hd
 subst hp hd
 exact dF rfl ho hs rfl rfl
theorem VI{fd:Wx}{T:Addr}{s:Vb}{o:Obj}{d1 d2 d3 d4:VX}{n:Nat}(hp:fd.params=Gd)(hd:fd.defaults=.ref T)(ho:s.heap.get? T=some o)(hs:o.data=.seq #[d1,d2,d3,d4] n)(v0 v1 v2 v3:VX) :
  W0 s fd ⟨[v0,v1,v2,v3],[]⟩ (c8 [("self":Str),"isjunk","a","b","autojunk"] [v0,v1,v2,v3,d4]):=by
 cases fd
 dsimp only at hp hd
 subst hp hd
 exact dF rfl ho hs rfl rfl
theorem J9(p:cy)(s:Vb)(X:(AQ p).In s.heap)(v0 v1 v2 v3 v4:VX):W0 s (AM (AQ p) 160) ⟨[v0,v1,v2,v3,v4],[]⟩ (c8 [("self":Str),"isjunk","a","b","autojunk"] [v0,v1,v2,v3,v4]):=
 VH (by kernel_rfl) (by kernel_rfl) (X _ _ (Jw p)) rfl _ _ _ _ _
theorem KA(p:cy)(s:Vb)(X:(AQ p).In s.heap)(v0 v1 v2 v3:VX):W0 s (AM (AQ p) 160) ⟨[v0,v1,v2,v3],[]⟩ (c8 [("self":Str),"isjunk","a","b","autojunk"] [v0,v1,v2,v3,.bool true]):=
 VI (by kernel_rfl) (by kernel_rfl) (X _ _ (Jw p)) rfl _ _ _ _
theorem OL(p:cy){c:Ctx}{k:Nat}(hf:c.fuel=k+1+1+1+1)(B:Base c (AQ p)){m:Lo}{Q:V->Lo->Hp->Prop}{H:Hp}{x d ra rb:Addr}{bs:List IS}{J:V}{on:Bool}{more:List V}(hmore:more=[.bool on]∨(more=[]/\on=true))(hJb:J.notBi=true){jk:IS->Bool}{W:Hp}(hJ:BY c k J jk W)(hW:∀ p∈W,p∈H)(hrb:(rb,O.list (bs.map IS.v))∈H)(hbi:∀ x∈bs,∃ n,x=IS.i n)(hbz:bs.length<=1000)(h:∀ D S S2 z1 z2 ep G,gP G=Lg bs->Q .none m (Rh x d ra rb D S S2 z1 z2 ep G bs J jk on H)):Ao c (.ref 160) (.ref x::J::.ref ra::.ref rb::more) m ((x,.inst 242 d)::(d,.ns [])::H) Q:=by
 refine DE (fd:=AM (AQ p) 160) (bs:=c8 [("self":Str),"isjunk","a","b","autojunk"] [V.ref x,J,V.ref ra,V.ref rb,.bool on]) B hf (Bs (by kernel_rfl)) (by kernel_rfl) (by kernel_rfl) ?_ fun L c2 hc hk B2=>?_
 .intro s vvs X r
  rcases hmore with rfl|⟨rfl,rfl⟩
  .revert r
   refine fun r=>Qb (P:=fun l=>AS s.heap _ l->∃ binds,W0 s _ ⟨l,[]⟩ binds/\Em s.heap _ binds) (fun v0 v1 v2 v3 v4 r=>?_) vvs r.length r
   exact⟨_,J9 p s X v0 v1 v2 v3 v4,rfl,r⟩
  .revert r
   refine fun r=>TC (P:=fun l=>AS s.heap _ l->∃ binds,W0 s _ ⟨l,[]⟩ binds/\Em s.heap _ binds) (fun v0 v1 v2 v3 r=>?_) vvs r.length r
   exact⟨_,KA p s X v0 v1 v2 v3,rfl,AS.append (ys:=[V.bool true]) (ws:=[Value.bool true]) r (AS.one (x:=V.bool true) rfl)⟩
 .have e1:CY (AM (AQ p) 160).scope.names (c8 [("self":Str),"isjunk","a","b","autojunk"] [V.ref x,J,V.ref ra,V.ref rb,.bool on])=[(("autojunk":Str),V.bool on),("b",.ref rb),("a",.ref ra),("isjunk",J),("self",V.ref x)]:=by kernel_rfl
  have e2:Aw L (AM (AQ p) 160) (c8 [("self":Str),"isjunk","a","b","autojunk"] [V.ref x,J,V.ref ra,V.ref rb,.bool on])=[]:=by kernel_rfl
  rw[e1,e2]
  refine AW.post (AW.mono (P0 p c2 hk B2 hc.scope hJb (hJ.called hc) hW hrb hbi hbz) ?_)
  rintro f m' H' ⟨hv,D,S,S2,z1,z2,ep,G,hG,hl⟩
  refine⟨[],_,⟨(fun _ _ e=>nomatch e),hl.2⟩,?_⟩
  rw[hv]
  exact h D S S2 z1 z2 ep G hG
theorem Dv(p:cy){c:Ctx}{k:Nat}(hf:c.fuel=k+1+1+1+1+1)(B:Base c (AQ p)){m:Lo}{Q:V->Lo->Hp->Prop}{H:Hp}{ra rb:Addr}{bs:List IS}{J:V}{on:Bool}{more:List V}(hmore:more=[.bool on]∨(more=[]/\on=true))(hJb:J.notBi=true){jk:IS->Bool}{W:Hp}(hJ:BY c k J jk W)(hW:∀ p∈W,p∈H)(hrb:(rb,O.list (bs.map IS.v))∈H)(hbi:∀ x∈bs,∃ n,x=IS.i n)(hbz:bs.length<=1000)(h:∀ x d D S S2 z1 z2 ep G,gP G=Lg bs->Q (.ref x) m (Rh x d ra rb D S S2 z1 z2 ep G bs J jk on H)):Ao c (.ref 242) (J::.ref ra::.ref rb::more) m H Q:=by
 refine Mp B hf (fI:=160) (by kernel_rfl) (by kernel_rfl) (by kernel_rfl) fun c2 x d hc hk B2=>?_
 exact OL p hk B2 hmore hJb (hJ.made hc) hW hrb hbi hbz fun D S S2 z1 z2 ep G hG=>⟨rfl,h x d D S S2 z1 z2 ep G hG⟩
theorem KY(p:cy):Hz (AQ p) 135=true:=by kernel_rfl
theorem Tu(p:cy)(M:Wd):∀ h,(AQ p).In h->TupX M h 135:=fun _ X=>LH X (KY p)
theorem Pp(p:cy)(c:Ctx)(B:Base c (AQ p))(hs:c.env.scope=(AM (AQ p) 89).scope){H:Hp}{x y z:At}
  :AW c (AU (AM (AQ p) 89)) [("iterable",.tup .none [x,y,z]),("cls",.ref 135)] H fun f m' H'=>f=.ret (.tup (some 135) [x,y,z])/\H'=H:=by
 have hn:=congrArg c0 hs
 conv at hn=>rhs;whnf
 have gt:An c "tuple" (.ty "tuple"):=B.tuple hn (by kernel_rfl)
 have gl:An c "len" (.bi "len"):=B.len hn (by kernel_rfl)
 have lC:Lc c "cls":=AG hn (by kernel_rfl)
 have lI:Lc c "iterable":=AG hn (by kernel_rfl)
 have lR:Lc c "result":=AG hn (by kernel_rfl)
 refine AB (Ad (Co ?_))
 refine AB (Ac (AO (BW gt ⟨_,_,Lh B I0 Hc (Tf p) (Ta p) (Tb p) Tt,AA ((Pu.n lC) _ (AA ((Pu.n lI) _ (AC ⟨Av,FD (fun h X=>LJ X (Ev p) (Hi p)) B (bB rfl) (AE lR.1 ?_)⟩))))⟩)))
 refine AB (EP (CG (AZ (BW gl (AA ((Pu.n lR) _ (AC ⟨Av,Kf (Tu p _) B (bB rfl) (Oh (T6 (Ak ?_)))⟩))))) (by with_unfolding_all rfl)))
 exact AX (AB (BG ((Pu.n lR) _ ⟨rfl,rfl⟩)))
theorem N2(p:cy){c:Ctx}{k:Nat}(hf:c.fuel=k+1)(B:Base c (AQ p)){m:Lo}{Q:V->Lo->Hp->Prop}{H:Hp}{x y z:At}(h:Q (.tup (some 135) [x,y,z]) m H):Ao c (.ref 89) [.ref 135,.tup .none [x,y,z]] m H Q:=by
 refine DE (fd:=AM (AQ p) 89) (bs:=c8 [("cls":Str),"iterable"] [V.ref 135,.tup .none [x,y,z]]) B hf (Bs (by kernel_rfl)) (by kernel_rfl) (by kernel_rfl) (fun s vvs X r=>Ax rfl (fun vvs hl=>?_) s vvs X r) fun L c2 hc hk B2=>?_
 .exact Lq (fun v0 v1=>by kernel_rfl) vvs hl
 .have e1:CY (AM (AQ p) 89).scope.names (c8 [("cls":Str),"iterable"] [V.ref 135,.tup .none [x,y,z]])=[(("iterable":Str),.tup .none [x,y,z]),("cls",.ref 135)]:=by kernel_rfl
  have e2:Aw L (AM (AQ p) 89) (c8 [("cls":Str),"iterable"] [V.ref 135,.tup .none [x,y,z]])=[]:=by kernel_rfl
  rw[e1,e2]
  refine AW.post (AW.mono (Pp p c2 B2 hc.scope) ?_)
  rintro f m' H' ⟨rfl,rfl⟩
  exact⟨[],_,⟨(fun _ _ e=>nomatch e),fun _ h=>h,id⟩,h⟩
theorem QG(p:cy):(AQ p).lookup 189=some { cls:=az "tuple",data:=Data.seq #[cG 0 464,ZZ,cG 0 465,ZZ] }:=by kernel_rfl
noncomputable def Mh:Arguments:=⟨[],[⟨YP "self",none,⟨260,27,260,31⟩⟩,⟨YP "alo",none,⟨260,33,260,36⟩⟩,⟨YP "ahi",none,⟨260,40,260,43⟩⟩,⟨YP "blo",none,⟨260,50,260,53⟩⟩,⟨YP "bhi",none,⟨260,57,260,60⟩⟩],
 none,[],[],none,[dE (Const.int 0) 0 ⟨260,37,260,38⟩,dE Const.none 0 ⟨260,44,260,48⟩,dE (Const.int 0) 0 ⟨260,54,260,55⟩,dE Const.none 0 ⟨260,61,260,65⟩]⟩
theorem Sp{fd:Wx}{T:Addr}{s:Vb}{o:Obj}{d1 d2 d3 d4:VX}{n:Nat}(hp:fd.params=Mh)(hd:fd.defaults=.ref T)(ho:s.heap.get? T=some o)(hs:o.data=.seq #[d1,d2,d3,d4] n)(v0 v1 v2 v3 v4:VX) :
  W0 s fd ⟨[v0,v1,v2,v3,v4],[]⟩ (c8 [("self":Str),"alo","ahi","blo","bhi"] [v0,v1,v2,v3,v4]):=by
 cases fd
 dsimp only at hp hd
 subst hp hd
 exact dF rfl ho hs rfl rfl
theorem QH(p:cy){c:Ctx}{k:Nat}(hf:c.fuel=k+1+1+1)(B:Base c (AQ p)){m:Lo}{Q:V->Lo->Hp->Prop}{H:Hp}{x d ra rb D S:Addr}{fs:List (Str×V)}{as bs:List Int}{ep:Nat}{es:List (IS×V)}{z:C8}{ks:List IS}{idx:Int->List Nat}{alo ahi blo bhi:Nat}(hx:(x,O.inst 242 d)∈H)(hd:(d,O.ns fs)∈H)(ha:fs.lookup ("a":Str)=some (.ref ra))(hb:fs.lookup ("b":Str)=some (.ref rb))(hD:fs.lookup ("b2j":Str)=some (.ref D))(hS:fs.lookup ("bjunk":Str)=some (.ref S))(hra:(ra,O.list (as.map .int))∈H)(hrb:(rb,O.list (bs.map .int))∈H)(hes:(D,O.dict ep es)∈H)(hks:(S,O.set z ks)∈H)(hidx:DR H es idx)(hpw:∀ v,(idx v).Pairwise (·<·))(hpn:∀ v,(idx v).length<=1000)(h1:alo<=ahi)(h2:ahi<=as.length)(h3:blo<=bhi)(h4:bhi<=bs.length)(h5:as.length<=1000)(h6:bs.length<=1000)(h:∀ i j k,EI (Bm as bs) (QI as idx alo ahi blo bhi) (CU bs ks) alo ahi blo bhi i j k->Q (.tup (some 135) [.int (i:Nat),.int (j:Nat),.int (k:Nat)]) m H):Ao c (.ref 196) [.ref x,.int alo,.int ahi,.int blo,.int bhi] m H Q:=by
 refine DE (fd:=AM (AQ p) 196) (bs:=c8 [("self":Str),"alo","ahi","blo","bhi"] [V.ref x,.int alo,.int ahi,.int blo,.int bhi]) B hf (Bs (by kernel_rfl)) (by kernel_rfl) (by kernel_rfl) ?_ fun L c2 hc hk B2=>?_
 .intro s vvs X r
  revert r
  refine fun r=>Qb (P:=fun l=>AS s.heap _ l->∃ binds,W0 s _ ⟨l,[]⟩ binds/\Em s.heap _ binds) (fun v0 v1 v2 v3 v4 r=>?_) vvs r.length r
  exact⟨_,Sp (by kernel_rfl) (by kernel_rfl) (X _ _ (QG p)) rfl v0 v1 v2 v3 v4,rfl,r⟩
 .have e1:CY (AM (AQ p) 196).scope.names (c8 [("self":Str),"alo","ahi","blo","bhi"] [V.ref x,.int alo,.int ahi,.int blo,.int bhi])=[(("bhi":Str),.int bhi),("blo",.int blo),("ahi",.int ahi),("alo",.int alo),("self",V.ref x)]:=by kernel_rfl
  have e2:Aw L (AM (AQ p) 196) (c8 [("self":Str),"alo","ahi","blo","bhi"] [V.ref x,.int alo,.int ahi,.int blo,.int bhi])=[]:=by kernel_rfl
  rw[e1,e2]
  refine AW.post (AW.mono (So p c2 hk B2 hc.scope hx hd ha hb hD hS hra hrb hes hks hidx hpw hpn (.inl rfl) (.inl rfl) h1 h2 h3 h4 h5 h6) ?_)
  rintro f m' H' ⟨i,j,k,rfl,hl,hr⟩
  exact⟨[],_,⟨(fun _ _ e=>nomatch e),hl.2⟩,h i j k hr⟩
noncomputable abbrev C7(as:List Int)(idx:Int->List Nat)(i j:Nat):Bool:=decide (j∈idx (as.getD i 0))
noncomputable abbrev FL(w:Win):V:=.tup .none [.int (w.1:Nat),.int (w.2.1:Nat),.int (w.2.2.1:Nat),.int (w.2.2.2:Nat)]
noncomputable def TB(la lb:Nat)(w:Win):Prop:=w.1<=w.2.1/\w.2.1<=la/\w.2.2.1<=w.2.2.2/\w.2.2.2<=lb
theorem DR.mono{H H':Hp}{es:List (IS×V)}{idx:Int->List Nat}(h:DR H es idx)(hH:∀ p∈H,p∈H'):DR H' es idx:=fun v=>(h v).imp id fun t8=>t8.elim fun q t9=>t9.elim fun a b=>⟨q,a,hH _ b⟩
noncomputable abbrev Jp(mb qu x:Addr)(la lb:Nat):Lo:=[("matching_blocks",.ref mb),("queue",.ref qu),("lb",.int lb),("la",.int la),("self",.ref x)]
noncomputable abbrev Kl(mb qu x d:Addr)(fs:List (Str×V))(H:Hp)(ms:List Tri)(ws:List Win):Hp:=(mb,.list (ms.map (BZ 135)))::(qu,.list (ws.map FL))::(x,.inst 242 d)::(d,.ns fs)::H
noncomputable def Ub(q E:Nat->Nat->Bool)(dj:Nat->Bool)(la lb:Nat)(mb qu x d:Addr)(fs:List (Str×V))(H:Hp)(n:Nat)(m2:Lo)(H2:Hp):Prop:=
 ∃ ws ms,n=CQ ws/\ms.length+CQ ws<=2 * la+1/\(∀ w∈ws,TB la lb w)/\Ei q E dj la lb ws ms/\AI m2 H2 (Jp mb qu x la lb) (Kl mb qu x d fs H ms ws)
theorem JY{b:Bool}{w w':Win}(h:w'∈CR b w):w'=w:=by
 unfold CR at h
 cases b with
 | true=>exact XQ.mp h
 | false=>cases h
theorem Me(p:cy)(c:Ctx){k:Nat}(hf:c.fuel=k+1+1+1)(B:Base c (AQ p))(hs:c.env.scope=(AM (AQ p) 203).scope){H:Hp}{x d ra rb D S mb qu:Addr}{fs:List (Str×V)}{as bs:List Int}{ep:Nat}{es:List (IS×V)}{z:C8}{ks:List IS}{idx:Int->List Nat}{Q:Fl->Lo->Hp->Prop}(hfm:fs.lookup ("find_longest_match":Str)=.none)(ha:fs.lookup ("a":Str)=some (.ref ra))(hb:fs.lookup ("b":Str)=some (.ref rb))(hD:fs.lookup ("b2j":Str)=some (.ref D))(hS:fs.lookup ("bjunk":Str)=some (.ref S))(hra:(ra,O.list (as.map .int))∈H)(hrb:(rb,O.list (bs.map .int))∈H)(hes:(D,O.dict ep es)∈H)(hks:(S,O.set z ks)∈H)(hidx:DR H es idx)(hpw:∀ v,(idx v).Pairwise (·<·))(hpn:∀ v,(idx v).length<=1000)(h5:as.length<=1000)(h6:bs.length<=1000)(hQ:∀ ms m H2,Ei (Bm as bs) (C7 as idx) (CU bs ks) as.length bs.length [] ms->AI m H2 (Jp mb qu x as.length bs.length) (Kl mb qu x d fs H ms [])->AW c ((AU (AM (AQ p) 203)).drop 6) m H2 Q) :
  AW c ((AU (AM (AQ p) 203)).drop 5) (Jp mb qu x as.length bs.length) (Kl mb qu x d fs H [] [(0,as.length,0,bs.length)]) Q:=by
 have hn:=congrArg c0 hs
 conv at hn=>rhs;whnf
 have hC:=BM p
 have lSe:Lc c "self":=AG hn (by kernel_rfl)
 have lQ:Lc c "queue":=AG hn (by kernel_rfl)
 have lM:Lc c "matching_blocks":=AG hn (by kernel_rfl)
 have lAl:Lc c "alo":=AG hn (by kernel_rfl)
 have lAh:Lc c "ahi":=AG hn (by kernel_rfl)
 have lBl:Lc c "blo":=AG hn (by kernel_rfl)
 have lBh:Lc c "bhi":=AG hn (by kernel_rfl)
 have lI:Lc c "i":=AG hn (by kernel_rfl)
 have lJ:Lc c "j":=AG hn (by kernel_rfl)
 have lK:Lc c "k":=AG hn (by kernel_rfl)
 have lX:Lc c "x":=AG hn (by kernel_rfl)
 refine CW (fun m2 H2=>∃ ms,Ei (Bm as bs) (C7 as idx) (CU bs ks) as.length bs.length [] ms/\AI m2 H2 (Jp mb qu x as.length bs.length) (Kl mb qu x d fs H ms [])) (JF (Ub (Bm as bs) (C7 as idx) (CU bs ks) as.length bs.length mb qu x d fs H) (2 * as.length+1) ?_ ?_) ?_
 .refine⟨[(0,as.length,0,bs.length)],[],?_,?_,fun w hw=>?_,Ei.start,AI.refl _ _⟩
  .simp[CQ]
  .simp[CQ]
  .rw[XQ.mp hw];exact⟨WJ _,Vn _,WJ _,Vn _⟩
 .rintro n m1 H1 ⟨ws,ms,rfl,hsum,hok,htd,hl⟩
  have hwl:ws.length<=2 * as.length+1:=Yi (Dk ws) (by exact AJ 3 (.l (.a Y0 Y1) (.a (.m 2 Y2) N1)) (.l Y1 (.a (.m 2 Y2) N1)) [_,_,_] hsum)
  refine FT.less hl (Dl ((Pu.n lQ) _ (ND (xs:=ws.map FL) (.mem (mT mS)) (by rw[V8];exact AL 2 (.l Y0 (.n 1000)) (.l Y1 (.a (.m 2 Y0) N1)) (.l Y1 (.n 1000000)) [_,_] h5 hwl) ?_)) (by intro _;rfl))
  rcases List.eq_nil_or_concat ws with rfl|⟨ws,⟨alo,ahi,blo,bhi⟩,rfl⟩
  .exact⟨ms,htd,AI.refl _ _⟩
  .rw[List.concat_eq_append]at *
   rw[show(!((ws++[(alo,ahi,blo,bhi)]).map FL).isEmpty)=true by simp]
   rw[if_pos rfl]
   obtain⟨w1,w2,w3,w4⟩:=hok (alo,ahi,blo,bhi) (by simp)
   dsimp only at w1 w2 w3 w4
   refine AW.cutk fun Q1 hQ1=>?_
   show AW c _ _ ((mb,.list (ms.map (BZ 135)))::(qu,.list ((ws++[(alo,ahi,blo,bhi)]).map FL))::(x,.inst 242 d)::(d,.ns fs)::H) _
   rw[show(ws++[(alo,ahi,blo,bhi)]).map FL=ws.map FL++[FL (alo,ahi,blo,bhi)] by simp]
   refine AB (Er (AO ((Pu.n lQ) _ ⟨_,_,EZ (.mem (mT mS)) cn PySem.F.type_list_pop,AC ⟨Av,Tc (xs:=ws.map FL) (.tail (.head _)) (by rw[V8];rw[XS]at hwl;exact AL 3 (.l Y0 (.n 1000)) (.l (.a Y1 Y2) (.a (.m 2 Y0) N1)) (.l Y1 (.n 1000000)) [_,_,_] h5 hwl) ?_⟩⟩)))
   refine Ch (xs:=[.int (alo:Nat),.int (ahi:Nat),.int (blo:Nat),.int (bhi:Nat)]) (AP (AE lAl.1 (AP (AE lAh.1 (AP (AE lBl.1 (AP (AE lBh.1 ?_))))))))
   show AW c _ _ _ _
   have up:∀ {P1 P2 P3 P4:Addr×O} {a:Addr×O},a∈H->a∈P1::P2::P3::P4::H:=fun h=>mT (mT (mT (mT h)))
   refine AB (DI (AO ((Pu.n lSe) _ ⟨_,_,A9 (K:=AQ p) (C:=242) (f:=196) B hC (by kernel_rfl) (by kernel_rfl) (.mem (mT (mT mS))) (.mem (mT (mT (mT mS)))) hfm,
    AA ((Pu.n lAl) _ (AA ((Pu.n lAh) _ (AA ((Pu.n lBl) _ (AA ((Pu.n lBh) _ (AC ⟨Aq B (by kernel_rfl),Ao.cal (QH p hf B (mT (mT mS)) (mT (mT (mT mS))) ha hb hD hS (up hra) (up hrb) (up hes) (up hks) (hidx.mono fun _ h=>up h) hpw hpn w1 w2 w3 w4 h5 h6 fun i j k hr=>?_)⟩))))))))⟩)))
   obtain⟨r1,r2,r3,r4⟩:=Ec w1 w3 hr
   refine G3 (Tu p _) B (xs:=[.int (i:Nat),.int (j:Nat),.int (k:Nat)]) (AP (AE lI.1 (AP (AE lJ.1 (AP (AE lK.1 (AP (AE lX.1 ?_))))))))
   show AW c _ _ _ _
   refine AB (EP (Dl ((Pu.n lK) _ (H9 ?_)) (by intro _;rfl)))
   have hs1:∀ w:Win,w.1<=w.2.1->CQ (ws++[w])=CQ ws+(2 * (w.2.1-w.1)+1):=fun w _=>by rw[B9];rfl
   have hn0:=hs1 (alo,ahi,blo,bhi) w1
   dsimp only at hn0
   have hmx:CQ ws+(2 * (ahi-alo)+1)+ms.length<=2 * as.length+1:=by rw[hn0]at hsum;exact AJ 5 (.l (.a Y0 (.a Y1 (.a (.m 2 (.s Y2 Y3)) N1))) (.a (.m 2 Y4) N1)) (.l (.a (.a Y1 (.a (.m 2 (.s Y2 Y3)) N1)) Y0) (.a (.m 2 Y4) N1)) [_,_,_,_,_] hsum
   refine EX (fun hk=>?_) (fun hk=>?_)
   .have hk0:0<k:=Zf fun e=>by subst e;cases hk
    refine AB (B5 (Pu.n lM) (Pu.n lX) (.mem mS) (.head _) (by rw[V8];exact AL 3 (.l Y0 (.n 1000)) (.l (.a Y1 Y2) (.a (.m 2 Y0) N1)) (.l Y1 (.n 1000000)) [_,_,_] h5 hsum) ?_ (hE:=fun _ h=>AO h))
    rw[show ms.map (BZ 135)++[V.tup (some 135) [.int (i:Nat),.int (j:Nat),.int (k:Nat)]]=(ms++[(i,j,k)]).map (BZ 135) by rw[XA];rfl]
    refine KP (("x",.tup (some 135) [.int (i:Nat),.int (j:Nat),.int (k:Nat)])::("k",.int (k:Nat))::("j",.int (j:Nat))::("i",.int (i:Nat))::("bhi",.int (bhi:Nat))::("blo",.int (blo:Nat))::("ahi",.int (ahi:Nat))::("alo",.int (alo:Nat))::Jp mb qu x as.length bs.length) (Kl mb qu x d fs H (ms++[(i,j,k)]) (ws++CR (decide (alo<i)&&decide (blo<j)) (alo,i,blo,j))) ?_ ?_
    .refine BU (.and2 (.ltN (.n lAl) (.n lI)) fun _=>.ltN (.n lBl) (.n lJ)) (fun h=>?_) (fun h=>?_)
     .refine AB (B5 (Pu.n lQ) (.tup (xs:=[.int (alo:Nat),.int (i:Nat),.int (blo:Nat),.int (j:Nat)]) (.cons (.n lAl) (.cons (.n lI) (.cons (.n lBl) (.cons (.n lJ) .nil)))) (by simp)) (.mem (mT mS)) (.tail (.head _)) (by rw[V8];have:=Dk ws;exact PL 7 (.l Y0 (.n 1000)) (.l (.a Y1 Y2) (.a (.m 2 Y0) N1)) (.e Y2 (.a Y3 (.a (.m 2 (.s Y4 Y5)) N1))) (.l Y6 Y3) (.l Y6 (.n 1000000)) [_,_,_,_,_,_,_] h5 hsum hn0 this) (AX ?_) (hE:=fun _ h=>AO h))
      rw[h,show ws.map FL++[V.tup .none [.int (alo:Nat),.int (i:Nat),.int (blo:Nat),.int (j:Nat)]]=(ws++CR true (alo,i,blo,j)).map FL by rw[XA];rfl]
      exact AI.refl _ _
     .rw[h,show ws++CR false (alo,i,blo,j)=ws by unfold CR;simp]
      exact AX (AI.refl _ _)
    generalize hw1:ws++CR (decide (alo<i)&&decide (blo<j)) (alo,i,blo,j)=ws1
    refine KP (("x",.tup (some 135) [.int (i:Nat),.int (j:Nat),.int (k:Nat)])::("k",.int (k:Nat))::("j",.int (j:Nat))::("i",.int (i:Nat))::("bhi",.int (bhi:Nat))::("blo",.int (blo:Nat))::("ahi",.int (ahi:Nat))::("alo",.int (alo:Nat))::Jp mb qu x as.length bs.length) (Kl mb qu x d fs H (ms++[(i,j,k)]) (ws1++CR (decide (i+k<ahi)&&decide (j+k<bhi)) (i+k,ahi,j+k,bhi))) ?_ ?_
    .have hl1:ws1.length<=CQ ws+1:=by rw[<- hw1,XS];have:=Dk ws;unfold CR;split<;>simp<;>(first|exact AJ 2 (.l Y0 Y1) (.l Y0 Y1) [_,_] this|exact AJ 2 (.l Y0 Y1) (.l Y0 (.a Y1 N1)) [_,_] this)
     refine BU (.and2 (.ltN (.addN (.n lI) (.n lK)) (.n lAh)) fun _=>.ltN (.addN (.n lJ) (.n lK)) (.n lBh)) (fun h=>?_) (fun h=>?_)
     .refine AB (B5 (Pu.n lQ) (.tup (xs:=[.int ((i+k:Nat):Int),.int (ahi:Nat),.int ((j+k:Nat):Int),.int (bhi:Nat)]) (.cons (.addN (.n lI) (.n lK)) (.cons (.n lAh) (.cons (.addN (.n lJ) (.n lK)) (.cons (.n lBh) .nil)))) (by simp)) (.mem (mT mS)) (.tail (.head _)) (by rw[V8];exact PL 7 (.l Y0 (.n 1000)) (.l (.a Y1 Y2) (.a (.m 2 Y0) N1)) (.e Y2 (.a Y3 (.a (.m 2 (.s Y4 Y5)) N1))) (.l Y6 (.a Y3 N1)) (.l Y6 (.n 1000000)) [_,_,_,_,_,_,_] h5 hsum hn0 hl1) (AX ?_) (hE:=fun _ h=>AO h))
      rw[h,show ws1.map FL++[V.tup .none [.int ((i+k:Nat):Int),.int (ahi:Nat),.int ((j+k:Nat):Int),.int (bhi:Nat)]]=(ws1++CR true (i+k,ahi,j+k,bhi)).map FL by rw[XA];rfl]
      exact AI.refl _ _
     .rw[h,show ws1++CR false (i+k,ahi,j+k,bhi)=ws1 by unfold CR;simp]
      exact AX (AI.refl _ _)
    subst hw1
    have t1:=Fx (decide (alo<i)&&decide (blo<j)) (alo,i,blo,j)
    have t2:=Fx (decide (i+k<ahi)&&decide (j+k<bhi)) (i+k,ahi,j+k,bhi)
    dsimp only at t1 t2
    refine AX (AX (hQ1 .next _ _ ⟨_,?_,_,_,rfl,?_,fun w hw=>?_,htd.turn hr hk0,Aa Ab.k⟩))
    .rw[B9,B9,hn0];exact S6 7 (.l Y0 Y1) (.l (.a Y1 Y2) Y3) (.t (.n 0) Y2) (.l Y4 (.a (.m 2 (.s Y1 Y0)) N1)) (.l Y5 (.a (.m 2 (.s Y3 (.a Y1 Y2))) N1)) (.t (.a (.a Y6 Y4) Y5) (.a Y6 (.a (.m 2 (.s Y3 Y0)) N1))) [_,_,_,_,_,_,_] r1 r2 hk0 t1 t2
    .rw[B9,B9,XS];simp only[bT,dG];exact VJ 10 (.l (.a Y0 Y1) (.a (.m 2 Y2) N1)) (.l Y3 Y4) (.l (.a Y4 Y5) Y6) (.e Y1 (.a Y7 (.a (.m 2 (.s Y6 Y3)) N1))) (.t (.n 0) Y5) (.l Y8 (.a (.m 2 (.s Y4 Y3)) N1)) (.l Y9 (.a (.m 2 (.s Y6 (.a Y4 Y5))) N1)) (.l (.a (.a Y0 (.a (.n 0) N1)) (.a (.a Y7 Y8) Y9)) (.a (.m 2 Y2) N1)) [_,_,_,_,_,_,_,_,_,_] hsum r1 r2 hn0 hk0 t1 t2
    .rcases W9.mp hw with hw|hw
     .rcases W9.mp hw with hw|hw
      .exact hok w (XR _ hw)
      .rw[JY hw];exact⟨r1,show i<=as.length by exact AL 4 (.l Y0 Y1) (.l (.a Y2 Y3) Y0) (.l Y2 Y1) [_,_,_,_] w2 r2,r3,show j<=bs.length by exact AL 4 (.l Y0 Y1) (.l (.a Y2 Y3) Y0) (.l Y2 Y1) [_,_,_,_] w4 r4⟩
     .rw[JY hw];exact⟨r2,w2,r4,w4⟩
   .have hk0:k=0:=by simpa using hk
    subst hk0
    refine AX (AX (hQ1 .next _ _ ⟨CQ ws,?_,ws,ms,rfl,?_,fun w hw=>hok w (XR _ hw),htd.skip hr,Aa Ab.k⟩))
    .rw[hn0];exact Bh 3 (.t Y0 (.a Y0 (.a (.m 2 (.s Y1 Y2)) N1))) [_,_,_]
    .exact AL 6 (.l (.a Y0 Y1) (.a (.m 2 Y2) N1)) (.e Y1 (.a Y3 (.a (.m 2 (.s Y4 Y5)) N1))) (.l (.a Y0 Y3) (.a (.m 2 Y2) N1)) [_,_,_,_,_,_] hsum hn0
 .rintro m1 H1 ⟨ms,h1,h2⟩
  exact hQ ms m1 H1 h1 h2
section
open PySem.SeqAt
noncomputable def Uk(c:Ctx){α:Type}[DecidableEq α](f:α->V):Prop:=∀ (s:Vb) x y vx vy,(f x).rep s.heap vx->(f y).rep s.heap vy->EqAt c.A.in1 s vx vy (decide (x=y))
theorem O4{α:Type}[DecidableEq α]:∀ (xs ys:List α),xs.length=ys.length->∀ e:Nat->Bool,(∀ j (h1:j<xs.length) (h2:j<ys.length),e j=decide (xs[j]=ys[j]))->(Xn xs.length).all e=decide (xs=ys):=fun xs ys hl e he=>by
 rw[VV,X7,decide_eq_true_eq]
 constructor
 .intro h
  refine Zw hl fun j h1 h2=>?_
  have:=h j (dH.mpr h1)
  rw[he j h1 h2]at this
  exact of_decide_eq_true this
 .rintro rfl j hj
  have h1:=dH.mp hj
  rw[he j h1 h1]
  exact decide_eq_true rfl
section
variable{c:Ctx}{m:Lo}{H:Hp}{pos:Pos}{Q:V->Lo->Hp->Prop}
theorem QN:Uk c V.int:=fun s x y vx vy hx hy=>by
 obtain⟨t,rfl⟩:=hx
 obtain⟨u,rfl⟩:=hy
 have:=EqAt.int_int (A:=c.A.in1) (s:=s) x t y u
 rwa [show(x==y)=decide (x=y) by by_cases e:x=y<;>simp[e]]at this
theorem Do{α:Type}{f:α->V}{h:Heap}{xs:List α}{items:Array VX}(r:AS h (xs.map f) items.toList){j:Nat}(hj:j<xs.length)(h1:j<items.size):(f xs[j]).rep h items[j]:=by
 obtain⟨v,hv,rv⟩:=r.get (show(xs.map f)[j]?=some (f xs[j]) by simp[hj])
 rw[WO]at hv
 obtain⟨_,e⟩:=Array.getElem?_eq_some_iff.mp hv
 rw[e];exact rv
theorem Uu{α:Type}[DecidableEq α]{f:α->V}(hf:Uk c f){a b:Addr}{xs ys:List α}(ha:AK c H a (.list (xs.map f)))(hb:AK c H b (.list (ys.map f)))(h:Q (.bool (decide (xs=ys))) m H):KG c .Eq (.ref a) (.ref b) m H Q:=fun s va vb R ra rb=>by
 cases (ra:va=_);cases (rb:vb=_)
 obtain⟨i1,n1,l1,r1⟩:=O.list_get (ha m s R)
 obtain⟨i2,n2,l2,r2⟩:=O.list_get (hb m s R)
 have z1:i1.size=xs.length:=by simpa using r1.length
 have z2:i2.size=ys.length:=by simpa using r2.length
 refine .val R h fun P k=>?_
 by_cases e:xs.length=ys.length
 .refine eq_listAt (IsL.isList l1) (IsL.isList l2) (by rw[z1,z2,e]) c.hu0 (e:=fun j=>if h:j<xs.length/\j<ys.length then decide (xs[j]=ys[j]) else true) (fun j h1 h2=>?_) (k _ s.toks ?_)
  .rw[dif_pos ⟨z1▸h1,z2▸h2⟩]
   exact hf s _ _ _ _ (Do r1 (z1▸h1) h1) (Do r2 (z2▸h2) h2)
  .show _=_
   rw[z1,O4 xs ys e _ fun j h1 h2=>dif_pos ⟨h1,h2⟩]
 .have:decide (xs=ys)=false:=decide_eq_false fun q=>e (by rw[q])
  rw[this]at k
  exact eq_list_lengthsAt (IsL.isList l1) (IsL.isList l2) (by rw[z1,z2];exact bne_iff_ne.mpr e) c.hu0 (k _ s.toks rfl)
theorem T5{α:Type}[DecidableEq α]{f:α->V}(hf:Uk c f){a b:Addr}{xs ys:List α}(ha:AK c H a (.list (xs.map f)))(hb:AK c H b (.list (ys.map f)))(h:Q (.bool (!decide (xs=ys))) m H):KG c .NotEq (.ref a) (.ref b) m H Q:=fun s va vb R ra rb=>by
 cases (ra:va=_);cases (rb:vb=_)
 obtain⟨i1,n1,l1,r1⟩:=O.list_get (ha m s R)
 obtain⟨i2,n2,l2,r2⟩:=O.list_get (hb m s R)
 have z1:i1.size=xs.length:=by simpa using r1.length
 have z2:i2.size=ys.length:=by simpa using r2.length
 refine .val R h fun P k=>cmp_ofNotEq ?_
 by_cases e:xs.length=ys.length
 .refine RcNeAt.lists (IsL.isList l1) (IsL.isList l2) (by rw[z1,z2,e]) c.hu0 (e:=fun j=>if h:j<xs.length/\j<ys.length then decide (xs[j]=ys[j]) else true) (fun j h1 h2=>?_) _ _ _ _ (k _ s.toks ?_)
  .rw[dif_pos ⟨z1▸h1,z2▸h2⟩]
   exact hf s _ _ _ _ (Do r1 (z1▸h1) h1) (Do r2 (z2▸h2) h2)
  .show _=_
   rw[z1,O4 xs ys e _ fun j h1 h2=>dif_pos ⟨h1,h2⟩]
 .have:decide (xs=ys)=false:=decide_eq_false fun q=>e (by rw[q])
  rw[this]at k
  exact RcNeAt.lists_lengths (IsL.isList l1) (IsL.isList l2) (by rw[z1,z2];exact bne_iff_ne.mpr e) c.hu0 _ _ _ _ (k _ s.toks rfl)
noncomputable abbrev Ql(x:Tri):V:=.tup .none (RS x)
end
end
theorem C5.eqN{c:Ctx}{m:Lo}{H:Hp}{pos:Pos}{l r:Expr}{a b:Nat}(h1:Pu c l m H (.int a))(h2:Pu c r m H (.int b))(hm:autoParam (V0 .Eq r=false) CZ):C5 c (.Compare l [.Eq] [r] pos) m H (decide (a=b)):=fun _ h=>
 CG (h1 _ (h2 _ (QV (Ak (by rw[SV];exact h))))) hm
theorem C5.nat{c:Ctx}{m:Lo}{H:Hp}{x:Str}{p:Pos}{a:Nat}(lx:Lc c x)(hv:m.lookup x=some (.int a)):C5 c (.Name x p) m H (decide (a≠0)):=fun _ h=>
 Dl (Pu.nm lx hv _ (H9 (by rw[show((a:Int) != 0)=decide (a≠0) by by_cases e:a=0<;>simp[e]];exact h))) (by intro _;rfl)
theorem MT(p:cy):recIn (AQ p) 91 "classmethod" = some [.ref 89,.bool false]:=by kernel_rfl
noncomputable def QW:V->V
 | .tup _ xs=>.tup (some 135) xs
 | v=>v
noncomputable abbrev UI(na mb x:Addr)(la lb i1 j1 k1:Nat):Lo:=[("non_adjacent",.ref na),("i1",.int i1),("j1",.int j1),("k1",.int k1),("matching_blocks",.ref mb),("lb",.int lb),("la",.int la),("self",.ref x)]
noncomputable abbrev UU(na mb x d:Addr)(fs:List (Str×V))(H:Hp)(out L:List Tri):Hp:=(na,.list (out.map Ql))::(mb,.list (L.map (BZ 135)))::(x,.inst 242 d)::(d,.ns fs)::H
noncomputable def Uw(la lb:Nat)(na mb x d:Addr)(fs:List (Str×V))(H:Hp)(L:List Tri)(t:Nat)(m2:Lo)(H2:Hp):Prop:=
 ∃ i1 j1 k1 out,out++IF (i1,j1,k1) (L.drop t)=IF (0,0,0) L/\out.length<=t/\AI m2 H2 (UI na mb x la lb i1 j1 k1) (UU na mb x d fs H out L)
theorem Mf(p:cy)(c:Ctx){k:Nat}(hf:c.fuel=k+1+1+1)(B:Base c (AQ p))(hs:c.env.scope=(AM (AQ p) 203).scope){H:Hp}{x d mb qu:Addr}{fs:List (Str×V)}{la lb:Nat}{ms L:List Tri}(hzf:fs.length<=90)(hp:ZA ms L)(ha:L.Pairwise Hv)(hpos:∀ x∈L,0<x.2.2)(hz:L.length<64) :
  AW c ((AU (AM (AQ p) 203)).drop 6) (Jp mb qu x la lb) (Kl mb qu x d fs H ms []) fun f _ H'=>∃ r,f=.ret (.ref r)/\AI [] H' [] ((r,.list ((IF (0,0,0) L++[(la,lb,0)]).map (BZ 135)))::(x,.inst 242 d)::(d,.ns (("matching_blocks",.ref r)::fs))::H):=by
 have hn:=congrArg c0 hs
 conv at hn=>rhs;whnf
 refine AW.cutk fun Q0 hQ0=>?_
 have hC:=BM p
 have gM:An c "Match" (.ref 135):=B.glob (BO hn (by decide +kernel)) (by kernel_rfl) rfl
 have gl:An c "list" (.ty "list"):=B.list hn (by kernel_rfl)
 have gm:An c "map" (.ty "map"):=B.map hn (by kernel_rfl)
 have lSe:Lc c "self":=AG hn (by kernel_rfl)
 have lM:Lc c "matching_blocks":=AG hn (by kernel_rfl)
 have lN:Lc c "non_adjacent":=AG hn (by kernel_rfl)
 have lI1:Lc c "i1":=AG hn (by kernel_rfl)
 have lJ1:Lc c "j1":=AG hn (by kernel_rfl)
 have lK1:Lc c "k1":=AG hn (by kernel_rfl)
 have lI2:Lc c "i2":=AG hn (by kernel_rfl)
 have lJ2:Lc c "j2":=AG hn (by kernel_rfl)
 have lK2:Lc c "k2":=AG hn (by kernel_rfl)
 have lLa:Lc c "la":=AG hn (by kernel_rfl)
 have lLb:Lc c "lb":=AG hn (by kernel_rfl)
 have hfi:=KD ha hpos
 refine AB (Ad (AO ((Pu.n lM) _ ⟨_,_,EZ (.mem mS) PySem.F.slot_list_sort PySem.F.type_list_sort,AC ⟨Av,Ke (Tu p _) B (.head _) (by rw[hp.length_eq];exact hz) (fun x hx y hy=>hfi x (hp.subset hx) y (hp.subset hy)) fun L' q1 q2=>?_⟩⟩)))
 rw[E9 ha hpos (q1.trans hp) q2]
 clear q1 q2 hfi
 refine AB (RV (Oh (AP (AE lI1.1 (AP (AE lJ1.1 (AP (AE lK1.1 ?_))))))))
 refine AB (Ac (Bn (AC ⟨bB rfl,fun na=>AE lN.1 ?_⟩)))
 refine D7 ((Pu.n lM) _ ⟨mb,L.map (BZ 135),rfl,Uw la lb na mb x d fs H L,?_,?_,?_,?_⟩)
 .exact⟨0,0,0,[],rfl,Vn _,AI.trans (Aa (m':=UI na mb x la lb 0 0 0) Ab.k) (AI.heap (.cons_cons _ (.cons_cons _ (.cons _ (.refl _)))))⟩
 .rintro t m2 H2 ⟨i1,j1,k1,out,_,_,hl⟩
  exact AK.less hl (mT mS)
 .rintro t v m2 H2 hv ⟨i1,j1,k1,out,he,hlen,hl⟩
  obtain⟨⟨i2,j2,k2⟩,hx,rfl⟩:∃ x,L[t]?=some x/\v=BZ 135 x:=by
   rw[Zu]at hv
   cases q:L[t]? with
   | none=>rw[q]at hv;cases hv
   | some x=>rw[q]at hv;cases hv;exact⟨x,rfl,rfl⟩
  have htl:t<L.length:=(WX.mp hx).1
  have hdr:L.drop t=(i2,j2,k2)::L.drop (t+1):=by
   rw[aY htl,(WX.mp hx).2]
  rw[hdr]at he
  refine FU.less hl (G3 (Tu p _) B (xs:=[.int (i2:Nat),.int (j2:Nat),.int (k2:Nat)]) (AP (AE lI2.1 (AP (AE lJ2.1 (AP (AE lK2.1 ?_)))))))
  show AW c _ _ _ _
  refine AW.cutk fun Q1 hQ1=>?_
  refine AB (BU (.and2 (.eqN (.addN (.n lI1) (.n lK1)) (.n lI2)) fun _=>.eqN (.addN (.n lJ1) (.n lK1)) (.n lJ2)) (fun h=>?_) (fun h=>?_))
  .rw[X5,decide_eq_true_eq,decide_eq_true_eq]at h
   refine AB (LQ lK1 (by with_unfolding_all rfl) (.n lK2) (AX (AX (hQ1 .next _ _ ⟨i1,j1,k1+k2,out,?_,XU hlen,Aa Ab.k⟩))))
   rw[Dc,if_pos h]at he
   exact he
  .have h':¬ (i1+k1=i2/\j1+k1=j2):=fun q=>by rw[decide_eq_true q.1,decide_eq_true q.2]at h;cases h
   rw[Dc,if_neg h',<- Wv]at he
   refine KP (("k2",.int (k2:Nat))::("j2",.int (j2:Nat))::("i2",.int (i2:Nat))::UI na mb x la lb i1 j1 k1) (UU na mb x d fs H (out++if k1=0 then [] else [(i1,j1,k1)]) L) ?_ ?_
   .refine BU (.nat lK1 (by with_unfolding_all rfl)) (fun g=>?_) (fun g=>?_)
    .rw[if_neg (of_decide_eq_true g)]
     refine AB (B5 (Pu.n lN) (.tup (xs:=[.int (i1:Nat),.int (j1:Nat),.int (k1:Nat)]) (.cons (.n lI1) (.cons (.n lJ1) (.cons (.n lK1) .nil))) (by simp)) (.mem mS) (.head _) (by rw[V8];exact Be 3 (.t Y0 (.n 64)) (.l Y1 Y2) (.t Y2 Y0) (.l Y1 (.n 1000000)) [_,_,_] hz hlen htl) (AX ?_) (hE:=fun _ h=>AO h))
     rw[show out.map Ql++[V.tup .none [.int (i1:Nat),.int (j1:Nat),.int (k1:Nat)]]=(out++[(i1,j1,k1)]).map Ql by rw[XA];rfl]
     exact AI.refl _ _
    .have g':=of_decide_eq_false g
     rw[if_pos (Decidable.not_not.mp g'),W8]
     exact AX (AI.refl _ _)
   refine AB (DZ hn (by kernel_rfl) (.n lI2) (.n lJ2) (.n lK2) lI1 lJ1 lK1 (AX (AX (hQ1 .next _ _ ⟨i2,j2,k2,_,he,?_,Aa Ab.k⟩))))
   rw[XS];split<;>simp<;>(first|exact AJ 2 (.l Y0 Y1) (.l Y0 (.a Y1 N1)) [_,_] hlen|exact AJ 2 (.l Y0 Y1) (.l Y0 Y1) [_,_] hlen)
 .rintro m2 H2 ⟨i1,j1,k1,out,he,hlen,hl⟩
  rw[V8,aJ,FZ]at he
  refine AW.less hl ?_
  rw[V8]at hlen
  refine KP (UI na mb x la lb i1 j1 k1) (UU na mb x d fs H (IF (0,0,0) L) L) ?_ ?_
  .rw[<- he]
   refine BU (.nat lK1 (by with_unfolding_all rfl)) (fun g=>?_) (fun g=>?_)
   .rw[if_neg (of_decide_eq_true g)]
    refine AB (B5 (Pu.n lN) (.tup (xs:=[.int (i1:Nat),.int (j1:Nat),.int (k1:Nat)]) (.cons (.n lI1) (.cons (.n lJ1) (.cons (.n lK1) .nil))) (by simp)) (.mem mS) (.head _) (by rw[V8];exact AL 2 (.t Y0 (.n 64)) (.l Y1 Y0) (.l Y1 (.n 1000000)) [_,_] hz hlen) (AX ?_) (hE:=fun _ h=>AO h))
    rw[show out.map Ql++[V.tup .none [.int (i1:Nat),.int (j1:Nat),.int (k1:Nat)]]=(out++[(i1,j1,k1)]).map Ql by rw[XA];rfl]
    exact AI.refl _ _
   .have g':=of_decide_eq_false g
    rw[if_pos (Decidable.not_not.mp g'),W8]
    exact AX (AI.refl _ _)
  have hml:=Fb L (0,0,0)
  generalize IF (0,0,0) L=M at hml hQ0
  clear he hlen hl
  refine AB (B5 (Pu.n lN) (.tup (xs:=[.int (la:Nat),.int (lb:Nat),.int ((0:Nat):Int)]) (.cons (.n lLa) (.cons (.n lLb) (.cons .one .nil))) (by simp)) (.mem mS) (.head _) (by rw[V8];exact AL 2 (.t Y0 (.n 64)) (.l Y1 (.a Y0 N1)) (.l Y1 (.n 1000000)) [_,_] hz hml) ?_ (hE:=fun _ h=>AO h))
  rw[show M.map Ql++[V.tup .none [.int (la:Nat),.int (lb:Nat),.int ((0:Nat):Int)]]=(M++[(la,lb,0)]).map Ql by rw[XA];rfl]
  refine AB (GD (Kp hf gl gm (EG (BW gM (O5 B (mc:=.type "type") (FC p) (Nw p) (MT p) fun f=>?_)))))
  refine(Pu.n lN) _ ⟨.ref f,na,(M++[(la,lb,0)]).map Ql,QW,rfl,rfl,.mem (mT mS),?_,fun c2 M2 hk2 v hv Q hQ=>?_,fun r=>?_⟩
  .rw[V8,XS,dI];exact AL 2 (.t Y0 (.n 64)) (.l Y1 (.a Y0 N1)) (.l (.a Y1 N1) (.n 1000)) [_,_] hz hml
  .obtain⟨x,_,rfl⟩:=Vm.mp hv
   exact(Ov (.mem mS) (N2 p hk2 (M2.base B) hQ)).cal
  rw[XC]
  refine Az ((Pu.n lSe) _ (Ay B hC (by kernel_rfl) (.mem (mT (mT (mT (mT mS))))) (.tail (.tail (.tail (.tail (.tail (.head _)))))) ?_ (by exact AJ 1 (.l Y0 (.n 90)) (.l Y0 (.n 1000)) [_] hzf)))
  refine AB (BG ((Pu.attr B hC (.mem (mT (mT (mT (mT mS))))) (.mem (mT (mT (mT (mT (mT mS)))))) (by kernel_rfl) (.n lSe) rfl) _ ?_))
  exact hQ0 _ _ _ ⟨r,rfl,Cy Ab.nil (.cons_cons _ (.cons _ (.cons _ (.cons _ (.cons_cons _ (.cons_cons _ (.refl _)))))))⟩
theorem HY{c:Ctx}{m:Lo}{H:Hp}{pos:Pos}{ns:List (Str×Wt)}{ts:List Expr}{e1 e2:Expr}{k1 k2:Nat}{p p2:Pos}{x y:Str}{a b:At}{Q:Fl->Lo->Hp->Prop}(hn:c.env.scope.names=ns)(hb:WF [.Tuple ts k1 p] (.Tuple [e1,e2] k2 p2) (Hd ns)=pure (some [x,y]))(h1:Pu c e1 m H (.at a))(h2:Pu c e2 m H (.at b))(lx:Lc c x)(ly:Lc c y)(h:Q .next ((x,.at a)::(y,.at b)::m) H)(hs:autoParam (WE [.Tuple ts k1 p] (.Tuple [e1,e2] k2 p2) pos.line c.env=pure false) AV)(s1:autoParam (V3 [e1,e2] c.env=(false,eval e1 c.env)::V3 [e2] c.env) AV)(s2:autoParam (V3 [e2] c.env=(false,eval e2 c.env)::V3 [] c.env) AV):DX c (.Assign [.Tuple ts k1 p] (.Tuple [e1,e2] k2 p2) pos) m H Q:=
 JG hn hb (Du (AA (h1 _ (AA (h2 _ (AC ⟨[a,b],rfl,bB rfl,a,b,rfl,AE ly.1 (AE lx.1 h)⟩)) s2)) s1)) hs
theorem Sl(p:cy)(c:Ctx){k:Nat}(hf:c.fuel=k+1+1+1)(B:Base c (AQ p))(hs:c.env.scope=(AM (AQ p) 203).scope){H:Hp}{x d ra rb D S:Addr}{fs:List (Str×V)}{as bs:List Int}{ep:Nat}{es:List (IS×V)}{z:C8}{ks:List IS}{idx:Int->List Nat}(hm:fs.lookup ("matching_blocks":Str)=some .none)(hfm:fs.lookup ("find_longest_match":Str)=.none)(ha:fs.lookup ("a":Str)=some (.ref ra))(hb:fs.lookup ("b":Str)=some (.ref rb))(hD:fs.lookup ("b2j":Str)=some (.ref D))(hS:fs.lookup ("bjunk":Str)=some (.ref S))(hra:(ra,O.list (as.map .int))∈H)(hrb:(rb,O.list (bs.map .int))∈H)(hes:(D,O.dict ep es)∈H)(hks:(S,O.set z ks)∈H)(hidx:DR H es idx)(hpw:∀ v,(idx v).Pairwise (·<·))(hpn:∀ v,(idx v).length<=1000)(h5:as.length<=1000)(h6:bs.length<=1000)(hmin:∀ L,Blk (Bm as bs) (C7 as idx) (CU bs ks) 0 as.length 0 bs.length L->L.length<64)(hzf:fs.length<=90) :
  AW c (AU (AM (AQ p) 203)) [("self",.ref x)] ((x,.inst 242 d)::(d,.ns fs)::H)
   fun f _ H'=>∃ r L,f=.ret (.ref r)/\Blk (Bm as bs) (C7 as idx) (CU bs ks) 0 as.length 0 bs.length L/\AI [] H' [] ((r,.list ((IF (0,0,0) L++[(as.length,bs.length,0)]).map (BZ 135)))::(x,.inst 242 d)::(d,.ns (("matching_blocks",.ref r)::fs))::H):=by
 have hn:=congrArg c0 hs
 conv at hn=>rhs;whnf
 refine AW.cutk fun Q0 hQ0=>?_
 have hC:=BM p
 have gl:An c "len" (.bi "len"):=B.len hn (by kernel_rfl)
 have lSe:Lc c "self":=AG hn (by kernel_rfl)
 have lLa:Lc c "la":=AG hn (by kernel_rfl)
 have lLb:Lc c "lb":=AG hn (by kernel_rfl)
 have lQ:Lc c "queue":=AG hn (by kernel_rfl)
 have lM:Lc c "matching_blocks":=AG hn (by kernel_rfl)
 have sx:AK c ((x,.inst 242 d)::(d,.ns fs)::H) x (.inst 242 d):=.mem mS
 have sd:AK c ((x,.inst 242 d)::(d,.ns fs)::H) d (.ns fs):=.mem (mT mS)
 refine AB (Ad (Co ?_))
 refine AB (BU (.isntNone (Pu.attr B hC sx sd (by kernel_rfl) (.n lSe) hm) .nn) (fun h=>nomatch h) fun _=>AX ?_)
 refine AB (HY hn (by kernel_rfl) (.len gl (Pu.attr B hC sx sd (by kernel_rfl) (.n lSe) ha) (.mem (mT (mT hra))) (by rw[V8];exact AJ 1 (.l Y0 (.n 1000)) (.l Y0 (.n 1000000)) [_] h5) (hE:=fun _ h=>AZ h)) (.len gl (Pu.attr B hC sx sd (by kernel_rfl) (.n lSe) hb) (.mem (mT (mT hrb))) (by rw[V8];exact AJ 1 (.l Y0 (.n 1000)) (.l Y0 (.n 1000000)) [_] h6) (hE:=fun _ h=>AZ h)) lLa lLb ?_)
 rw[V8,V8]
 refine AB (Ac (Bn (AA (Pu.tup (xs:=[.int 0,.int (as.length:Nat),.int 0,.int (bs.length:Nat)]) (.cons .one (.cons (.n lLa) (.cons .one (.cons (.n lLb) .nil)))) (by simp) _ (AC ⟨bB rfl,fun qu=>AE lQ.1 ?_⟩)))))
 refine AB (Ac (Bn (AC ⟨bB rfl,fun mb=>AE lM.1 ?_⟩)))
 refine AW.less (Aa (m':=Jp mb qu x as.length bs.length) Ab.k) ?_
 refine Me p c hf B hs hfm ha hb hD hS hra hrb hes hks hidx hpw hpn h5 h6 fun ms m H2 htd hl=>?_
 obtain⟨L,hL,hp⟩:=htd.done
 obtain⟨p1,p2,p3,p4⟩:=hL.props (WJ _) (WJ _)
 refine AW.less hl (AW.mono (Mf p c hf B hs hzf hp p2 (fun x hx=>(p1 x hx).2.2.2.2) (hmin L hL)) ?_)
 rintro f m' H' ⟨r,rfl,hl2⟩
 exact hQ0 _ _ _ ⟨r,L,rfl,hL,hl2⟩
theorem QE(p:cy){c:Ctx}{k:Nat}(hf:c.fuel=k+1+1+1+1)(B:Base c (AQ p)){m:Lo}{Q:V->Lo->Hp->Prop}{H:Hp}{x d ra rb D S:Addr}{fs:List (Str×V)}{as bs:List Int}{ep:Nat}{es:List (IS×V)}{z:C8}{ks:List IS}{idx:Int->List Nat}(hm:fs.lookup ("matching_blocks":Str)=some .none)(hfm:fs.lookup ("find_longest_match":Str)=.none)(ha:fs.lookup ("a":Str)=some (.ref ra))(hb:fs.lookup ("b":Str)=some (.ref rb))(hD:fs.lookup ("b2j":Str)=some (.ref D))(hS:fs.lookup ("bjunk":Str)=some (.ref S))(hra:(ra,O.list (as.map .int))∈H)(hrb:(rb,O.list (bs.map .int))∈H)(hes:(D,O.dict ep es)∈H)(hks:(S,O.set z ks)∈H)(hidx:DR H es idx)(hpw:∀ v,(idx v).Pairwise (·<·))(hpn:∀ v,(idx v).length<=1000)(h5:as.length<=1000)(h6:bs.length<=1000)(hmin:∀ L,Blk (Bm as bs) (C7 as idx) (CU bs ks) 0 as.length 0 bs.length L->L.length<64)(hzf:fs.length<=90)(h:∀ r L,Blk (Bm as bs) (C7 as idx) (CU bs ks) 0 as.length 0 bs.length L->Q (.ref r) m ((r,.list ((IF (0,0,0) L++[(as.length,bs.length,0)]).map (BZ 135)))::(x,.inst 242 d)::(d,.ns (("matching_blocks",.ref r)::fs))::H)):Ao c (.ref 203) [.ref x] m ((x,.inst 242 d)::(d,.ns fs)::H) Q:=by
 refine DE (fd:=AM (AQ p) 203) (bs:=c8 [("self":Str)] [V.ref x]) B hf (Bs (by kernel_rfl)) (by kernel_rfl) (by kernel_rfl) (fun s vvs X r=>Ax rfl (fun vvs hl=>?_) s vvs X r) fun L c2 hc hk B2=>?_
 .exact Lr (fun v0=>by kernel_rfl) vvs hl
 .have e1:CY (AM (AQ p) 203).scope.names (c8 [("self":Str)] [V.ref x])=[(("self":Str),V.ref x)]:=by kernel_rfl
  have e2:Aw L (AM (AQ p) 203) (c8 [("self":Str)] [V.ref x])=[]:=by kernel_rfl
  rw[e1,e2]
  refine AW.post (AW.mono (Sl p c2 hk B2 hc.scope hm hfm ha hb hD hS hra hrb hes hks hidx hpw hpn h5 h6 hmin hzf) ?_)
  rintro f m' H' ⟨r,L,rfl,hL,hl⟩
  exact⟨[],_,⟨(fun _ _ e=>nomatch e),hl.2⟩,h r L hL⟩
section
open PySem PySem.W PyProof.Rows
open Float64
theorem D9{n:Nat}(h:n≠0):∀ x:Nat,(n * 2 ^ x).log2=n.log2+x
 | 0=>by rw[Nat.pow_zero,Nat.mul_one,cA]
 | x+1=>by
  rw[Nat.pow_succ,<- dJ,Nat.mul_comm,Nat.log2_two_mul (dK h (XE (dL x))),D9 h x];rfl
theorem JC(n d x:Nat)(k:Int):shift (n * 2 ^ x) (d * 2 ^ x) k=((shift n d k).1 * 2 ^ x,(shift n d k).2 * 2 ^ x):=by
 unfold shift
 split
 .exact Prod.ext (dM _ _ _) rfl
 .exact Prod.ext rfl (dM _ _ _)
theorem Gf(n d x:Nat):halfEven (n * 2 ^ x) (d * 2 ^ x)=halfEven n d:=by
 have hp:=dL x
 unfold halfEven
 rw[Nat.mul_div_mul_right _ _ hp,Nat.mul_mod_mul_right]
 dsimp only
 rw[<- dJ]
 have e1:(2 * (n % d) * 2 ^ x > d * 2 ^ x)=(2 * (n % d) > d):=propext (Nat.mul_lt_mul_right hp)
 have e2:(2 * (n % d) * 2 ^ x==d * 2 ^ x)=(2 * (n % d)==d):=by
  rw[VV,beq_iff_eq,beq_iff_eq];exact Nat.mul_left_inj (XE hp)
 rw[e2]
 simp only[e1]
theorem Da{n d:Nat}(hn:n≠0)(hd:d≠0)(x:Nat):roundMag (n * 2 ^ x) (d * 2 ^ x)=roundMag n d:=by
 have hp:=dL x
 unfold roundMag
 rw[D9 hn,D9 hd,if_neg (fun e=>dK hn (XE hp) (beq_iff_eq.mp e)),if_neg (fun e=>hn (beq_iff_eq.mp e))]
 have el:(((n.log2+x:Nat):Int)-((d.log2+x:Nat):Int))=(n.log2:Int)-(d.log2:Int):=by rw[dN,dN];exact Int.add_sub_add_right _ _ _
 rw[el]
 simp only[JC,Gf]
 have eg:∀ a b:Nat,(a * 2 ^ x≥b * 2 ^ x)=(a≥b):=fun a b=>propext (Nat.mul_le_mul_right_iff hp)
 simp only[eg]
noncomputable def RE(m:Nat):Bool:=match decode (ofInt (m:Nat)) with
 | .fin false k e=>k==m * 2 ^ (52-m.log2)&&e==-((52-m.log2:Nat):Int)
 | _=>false
theorem Mk:(Xn 512).all (fun m=>m==0 || RE m)=true:=by kernel_rfl
theorem Oc{m:Nat}(h0:m≠0)(h:m<512):decode (ofInt (m:Nat))=.fin false (m * 2 ^ (52-m.log2)) (-((52-m.log2:Nat):Int)):=by
 have c:=X7.mp Mk m (dH.mpr h)
 rw[ZB]at c
 have c:=c.resolve_left (by simpa using h0)
 unfold RE at c
 generalize decode (ofInt (m:Nat))=q at c
 cases q with
 | nan=>cases c
 | inf _=>cases c
 | fin s k e=>
  cases s with
  | true=>cases c
  | false=>
   rw[X5,beq_iff_eq,beq_iff_eq]at c
   rw[c.1,c.2]
theorem Mj:(Xn 128).all (fun m=>mul 0x4000000000000000 (ofInt (m:Nat))==ofInt ((2 * m:Nat):Nat))=true:=by kernel_rfl
theorem Sq{m:Nat}(h:m<128):mul 0x4000000000000000 (ofInt (m:Nat))=ofInt ((2 * m:Nat):Nat):=beq_iff_eq.mp (X7.mp Mj m (dH.mpr h))
theorem QJ:decode (ofInt (0:Nat))=.fin false 0 (-1074):=by kernel_rfl
theorem GF(d:Nat):roundMag 0 d=0:=by unfold roundMag;rfl
theorem Jj{x y:Nat}(h:-(x:Int) - -(y:Int)≥0):(-(x:Int) - -(y:Int)).toNat+x=y:=by
 have e:-(x:Int) - -(y:Int)=(y:Int)-x:=by rw[Int.sub_neg,Int.add_comm,Int.sub_eq_add_neg]
 rw[e]at h ⊢
 have h2:x<=y:=VP.mp (Int.sub_nonneg.mp h)
 rw[<- Int.ofNat_sub h2,VQ,bP h2]
theorem Ma{x y:Nat}(h:¬ -(x:Int) - -(y:Int)≥0):(-(-(x:Int) - -(y:Int))).toNat+y=x:=by
 have e:-(-(x:Int) - -(y:Int))=-(y:Int) - -(x:Int):=Int.neg_sub _ _
 rw[e]
 exact Jj (by rw[<- e];exact Int.neg_nonneg_of_nonpos (bx (Int.not_le.mp h)))
theorem Sr{a n:Nat}(ha:a<512)(h0:n≠0)(hn:n<512):dO (ofInt (a:Nat)) (ofInt (n:Nat))=ofFrac false a n:=by
 unfold dO
 rw[Oc h0 hn]
 have hk:n * 2 ^ (52-n.log2)≠0:=dK h0 (XE (dL _))
 by_cases z:a=0
 .subst z
  rw[QJ]
  simp only[beq_eq_false_iff_ne.mpr hk,bv,if_false]
  unfold shift ofFrac
  split
  .simp only[Nat.zero_mul,GF];rfl
  .simp only[GF];rfl
 .rw[Oc z ha]
  simp only[beq_eq_false_iff_ne.mpr hk,bv,if_false]
  unfold shift ofFrac
  split
  .rename_i q
   dsimp only
   rw[show(false != false)=false from rfl]
   have e:(-((52-a.log2:Nat):Int) - -((52-n.log2:Nat):Int)).toNat+(52-a.log2)=52-n.log2:=Jj q
   rw[dJ,<- Nat.pow_add,Nat.add_comm,e,Da z h0]
  .rename_i q
   dsimp only
   rw[show(false != false)=false from rfl]
   have e:(-(-((52-a.log2:Nat):Int) - -((52-n.log2:Nat):Int))).toNat+(52-n.log2)=52-a.log2:=Ma q
   rw[dJ,<- Nat.pow_add,Nat.add_comm,e,Da z h0]
theorem Hq:(Xn 512).all (fun m=>!isInf (ofInt (m:Nat))&&(m==0 || !isZero (ofInt (m:Nat))))=true:=by kernel_rfl
theorem IQ{m:Nat}(h:m<512):¬ isInf (ofInt (m:Nat))=true:=by
 have c:=X7.mp Hq m (dH.mpr h)
 rw[X5,X6]at c
 rw[c.1];decide
theorem RD{m:Nat}(h0:m≠0)(h:m<512):¬ isZero (ofInt (m:Nat))=true:=by
 have c:=X7.mp Hq m (dH.mpr h)
 rw[X5,ZB,X6,X6]at c
 rw[c.2.resolve_left (by simpa using h0)];decide
noncomputable def KS(m n:Nat):UInt64:=ofFrac false (2 * m) n
theorem Jt{m n:Nat}(hm:m<128)(h0:n≠0)(hn:n<512):dO (mul 0x4000000000000000 (ofInt (m:Nat))) (ofInt (n:Nat))=KS m n:=by
 rw[Sq hm,Sr (Vp (Nat.mul_lt_mul_of_pos_left hm (by decide)) (by decide)) h0 hn];rfl
end
theorem QQ(x:Int):compare x x=Ordering.eq:=by
 show compareOfLessAndEq x x=_
 unfold compareOfLessAndEq
 rw[if_neg (Int.lt_irrefl x),if_pos rfl]
theorem J0(m n:Nat):dP (KS m n) (KS m n)=some .eq:=by
 have h:Float64.isNaN (KS m n)=false:=by unfold KS Float64.ofFrac;exact PySem.W.isNaN_pack _ (PySem.W.roundMag_le _ _)
 unfold Float64.isNaN at h
 unfold dP
 generalize Float64.decode (KS m n)=q at h
 cases q with
 | nan=>cases h
 | inf a=>cases a<;>rfl
 | fin a k e=>
  dsimp only
  unfold Float64.align
  rw[QQ]
section
variable{c:Ctx}{m:Lo}{H:Hp}{pos p1 p2:Pos}{Q:V->Lo->Hp->Prop}
theorem Pu.flo{f:UInt64}{k:Nat}:Pu c (.Constant (.float f) k pos) m H (.float f):=fun Q h s R=>.val R h fun P k=>wpAny_Constant_float (k _ _ ⟨_,rfl,XE R.tp⟩)
theorem Np{f:UInt64}{b:Int}(h:Q (.float (Float64.mul f (dQ b))) m H)(h0:¬ Float64.isInf (dQ b)=true):PO c .Mult (.float f) (.int b) m H Q:=fun s va vb R ra rb=>by
 obtain⟨t,rfl,_⟩:=ra;obtain⟨u,rfl⟩:=rb
 exact .val R h fun P k=>AutoFloatOps.mul_fi_1 h0 (k _ _ ⟨_,rfl,XE R.tp⟩)
theorem Nq{f:UInt64}{b:Int}(h:Q (.float (dO f (dQ b))) m H)(h0:¬ Float64.isInf (dQ b)=true)(h1:¬ Float64.isZero (dQ b)=true):PO c .Div (.float f) (.int b) m H Q:=fun s va vb R ra rb=>by
 obtain⟨t,rfl,_⟩:=ra;obtain⟨u,rfl⟩:=rb
 exact .val R h fun P k=>AutoFloatOps.truediv_fi_2 h0 h1 (k _ _ ⟨_,rfl,XE R.tp⟩)
theorem RG{f g:UInt64}(h:Q (.bool (dP f g != some .eq)) m H):KG c .NotEq (.float f) (.float g) m H Q:=fun s va vb R ra rb=>by
 obtain⟨t,rfl,_⟩:=ra;obtain⟨u,rfl,_⟩:=rb
 exact .val R h fun P k=>AutoFloatOps.ne_0 (k _ _ rfl)
noncomputable def Bj(m n:Nat):UInt64:=if n=0 then 0x3ff0000000000000 else KS m n
end
theorem Nb(p:cy)(c:Ctx)(hs:c.env.scope=(AM (AQ p) 145).scope){H:Hp}{m n:Nat}(hm:m<128)(hn2:n<512)
  :AW c (AU (AM (AQ p) 145)) [("length",.int n),("matches",.int m)] H fun f m' H'=>f=.ret (.float (Bj m n))/\H'=H:=by
 have hn:=congrArg c0 hs
 conv at hn=>rhs;whnf
 have lL:Lc c "length":=AG hn (by kernel_rfl)
 have lM:Lc c "matches":=AG hn (by kernel_rfl)
 unfold Bj
 refine AB (EP (Dl ((Pu.n lL) _ (H9 (EX (fun h=>?_) fun h=>?_))) (by intro _;rfl)))
 .have h0:n≠0:=fun e=>by subst e;cases h
  rw[if_neg h0,<- Jt hm h0 hn2]
  exact AB (BG (BP (BP (Pu.flo _ ((Pu.n lM) _ (Np ((Pu.n lL) _ (Nq ⟨rfl,rfl⟩ (IQ hn2) (RD h0 hn2))) (IQ (Yh hm (by decide)))))))))
 .have h0:n=0:=by simpa using h
  rw[if_pos h0]
  exact AX (AB (BG (Pu.flo _ ⟨rfl,rfl⟩)))
theorem ET(p:cy){c:Ctx}{k:Nat}(hf:c.fuel=k+1)(B:Base c (AQ p)){m:Lo}{Q:V->Lo->Hp->Prop}{H:Hp}{a n:Nat}(ha:a<128)(hn:n<512)(h:Q (.float (Bj a n)) m H):Ao c (.ref 145) [.int a,.int n] m H Q:=by
 refine DE (fd:=AM (AQ p) 145) (bs:=c8 [("matches":Str),"length"] [V.int a,.int n]) B hf (Bs (by kernel_rfl)) (by kernel_rfl) (by kernel_rfl) (fun s vvs X r=>Ax rfl (fun vvs hl=>?_) s vvs X r) fun L c2 hc hk B2=>?_
 .exact Lq (fun v0 v1=>by kernel_rfl) vvs hl
 .have e1:CY (AM (AQ p) 145).scope.names (c8 [("matches":Str),"length"] [V.int a,.int n])=[(("length":Str),V.int n),("matches",.int a)]:=by kernel_rfl
  have e2:Aw L (AM (AQ p) 145) (c8 [("matches":Str),"length"] [V.int a,.int n])=[]:=by kernel_rfl
  rw[e1,e2]
  refine AW.post (AW.mono (Nb p c2 hc.scope ha hn) ?_)
  rintro f m' H' ⟨rfl,rfl⟩
  exact⟨[],_,⟨(fun _ _ e=>nomatch e),fun _ h=>h,id⟩,h⟩
section
variable{c:Ctx}{m:Lo}{H:Hp}{pos:Pos}
theorem Td{Q:V->Lo->Hp->Prop}{a b:Nat}(h:Q (.int (min a b:Nat)) m H):Ck c (.bi "min") [.int a,.int b] m H Q:=fun s vf vvs R rf rv=>by
 cases (rf:vf=_)
 obtain⟨va,vb,rfl,ra,rb⟩:=rv.two
 obtain⟨t,rfl⟩:=ra;obtain⟨u,rfl⟩:=rb
 refine .grow R h fun P k=>min_two_ints c.hh fun h' tk hg=>?_
 by_cases e:(b:Int)<a
 .rw[if_pos e];exact k _ h' tk hg ⟨u,by rw[VU (VP.mp (bx e))]⟩
 .rw[if_neg e];exact k _ h' tk hg ⟨t,by rw[VT (VP.mp (aF.mp e))]⟩
theorem Pu.min{a b:Nat}{l r:Expr}{p1:Pos}(gm:An c "min" (.bi "min"))(h1:Pu c l m H (.int a))(h2:Pu c r m H (.int b))(he:autoParam (V3 [l,r] c.env=(false,eval l c.env)::V3 [r] c.env) AV)(he2:autoParam (V3 [r] c.env=(false,eval r c.env)::V3 [] c.env) AV)(hE:∀ Q,(Af c (.Name ("min":Str) p1) m H fun f m0 H0=>BJ c pos [l,r] m0 H0 fun vs m1 H1=>Ba c f H1/\Ck c f vs m1 H1 Q)->Af c (.Call (.Name ("min":Str) p1) [l,r] [] pos) m H Q):Pu c (.Call (.Name ("min":Str) p1) [l,r] [] pos) m H (.int (Min.min a b:Nat)):=
 .call2 (.glob gm (hd:=by decide)) h1 h2 Av (fun _ h=>Td h) he he2 hE
end
theorem IN(p:cy){c:Ctx}(B:Base c (AQ p)){ns:List (Str×Wt)}(hn:c.env.scope.names=ns)(h:ns.lookup ("_calculate_ratio":Str)=some .globalImplicit):An c "_calculate_ratio" (.ref 145):=B.glob (BO hn h) (by kernel_rfl) rfl
theorem RY(p:cy)(c:Ctx){k:Nat}(hf:c.fuel=k+1)(B:Base c (AQ p))(hs:c.env.scope=(AM (AQ p) 239).scope){H:Hp}{x d ra rb:Addr}{fs:List (Str×V)}{as bs:List V}(hx:(x,O.inst 242 d)∈H)(hd:(d,O.ns fs)∈H)(ha:fs.lookup ("a":Str)=some (.ref ra))(hb:fs.lookup ("b":Str)=some (.ref rb))(hra:(ra,O.list as)∈H)(hrb:(rb,O.list bs)∈H)(h5:as.length<128)(h6:bs.length<300)
  :AW c (AU (AM (AQ p) 239)) [("self",.ref x)] H fun f m' H'=>f=.ret (.float (Bj (min as.length bs.length) (as.length+bs.length)))/\H'=H:=by
 have hn:=congrArg c0 hs
 conv at hn=>rhs;whnf
 have hC:=BM p
 have gl:An c "len" (.bi "len"):=B.len hn (by kernel_rfl)
 have gm:An c "min" (.bi "min"):=B.min hn (by kernel_rfl)
 have gC:=IN p B hn (by kernel_rfl)
 have lSe:Lc c "self":=AG hn (by kernel_rfl)
 have lLa:Lc c "la":=AG hn (by kernel_rfl)
 have lLb:Lc c "lb":=AG hn (by kernel_rfl)
 refine AB (Ad (Co ?_))
 refine AB (HY hn (by kernel_rfl) (.len gl (Pu.attr B hC (.mem hx) (.mem hd) (by kernel_rfl) (.n lSe) ha) (.mem hra) (Yi (W7 h5) (by decide)) (hE:=fun _ h=>AZ h)) (.len gl (Pu.attr B hC (.mem hx) (.mem hd) (by kernel_rfl) (.n lSe) hb) (.mem hrb) (Yi (W7 h6) (by decide)) (hE:=fun _ h=>AZ h)) lLa lLb ?_)
 exact AB (BG (AZ (BW gC (AA ((Pu.min gm (.n lLa) (.n lLb) (hE:=fun _ h=>AZ h)) _ (AA ((Pu.addN (.n lLa) (.n lLb)) _ (AC ⟨Aq B (by kernel_rfl),Ao.cal (ET p hf B (W4 (Nat.min_le_left _ _) h5) (Vp (dR h5 h6) (by decide)) ⟨rfl,rfl⟩)⟩))))))))
theorem RZ(p:cy){c:Ctx}{k:Nat}(hf:c.fuel=k+1+1)(B:Base c (AQ p)){m:Lo}{Q:V->Lo->Hp->Prop}{H:Hp}{x d ra rb:Addr}{fs:List (Str×V)}{as bs:List V}(hx:(x,O.inst 242 d)∈H)(hd:(d,O.ns fs)∈H)(ha:fs.lookup ("a":Str)=some (.ref ra))(hb:fs.lookup ("b":Str)=some (.ref rb))(hra:(ra,O.list as)∈H)(hrb:(rb,O.list bs)∈H)(h5:as.length<128)(h6:bs.length<300)(h:Q (.float (Bj (min as.length bs.length) (as.length+bs.length))) m H):Ao c (.ref 239) [.ref x] m H Q:=by
 refine DE (fd:=AM (AQ p) 239) (bs:=c8 [("self":Str)] [V.ref x]) B hf (Bs (by kernel_rfl)) (by kernel_rfl) (by kernel_rfl) (fun s vvs X r=>Ax rfl (fun vvs hl=>?_) s vvs X r) fun L c2 hc hk B2=>?_
 .exact Lr (fun v0=>by kernel_rfl) vvs hl
 .have e1:CY (AM (AQ p) 239).scope.names (c8 [("self":Str)] [V.ref x])=[(("self":Str),V.ref x)]:=by kernel_rfl
  have e2:Aw L (AM (AQ p) 239) (c8 [("self":Str)] [V.ref x])=[]:=by kernel_rfl
  rw[e1,e2]
  refine AW.post (AW.mono (RY p c2 hk B2 hc.scope hx hd ha hb hra hrb h5 h6) ?_)
  rintro f m' H' ⟨rfl,rfl⟩
  exact⟨[],_,⟨(fun _ _ e=>nomatch e),fun _ h=>h,id⟩,h⟩
section
variable{c:Ctx}{m:Lo}{H:Hp}{pos:Pos}{Q:V->Lo->Hp->Prop}
theorem Ib{f d:Addr}{ep:Nat}{es:List (IS×V)}{k:IS}(hf:AK c H f (.obj (AY "dict.__contains__" d)))(hx:AK c H d (.dict ep es))(h:Q (.bool (dictAt es k).isSome) m H):Ck c (.ref f) [k.v] m H Q:=fun s vf vvs R rf rv=>by
 cases (rf:vf=_)
 obtain⟨vk,rfl,rk⟩:=AS.sole rv
 obtain⟨h0,kvs,ha,hd,hp⟩:=Am (hx m s R)
 obtain⟨hfo,_⟩:=hf m s R
 obtain⟨o,des,ho,hex,hdat,_⟩:=ha
 refine .val R h fun P kk=>Cr HS hfo ho hex.1 (fun k e=>by rw[hdat]at e;cases e) (PySem.F.args_dict_contains_2 _ _) PySem.F.entry_dict_contains (meets_dict_contains (Ag c.prog c.w) d (BI rk) h0) ⟨_,hd.mapOf,kk _ _ ?_⟩
 cases q:dictAt es k with
 | none=>rw[hp.at.1.mp q];rfl
 | some w=>obtain⟨v,hv,hr⟩:=hp.at.2 w q;rw[hv];rfl
end
section
variable{c:Ctx}{m:Lo}{H:Hp}{pos p1:Pos}
theorem GB{x:Str}{iter:Expr}{b r:List Stmt}{a:Addr}{xs:List Int}{Q:Fl->Lo->Hp->Prop}(h1:Pu c iter m H (.ref a))(lx:Lc c x)(I:Nat->Lo->Hp->Prop)(i0:I 0 m H)(see:∀ i m2 H2,I i m2 H2->AK c H2 a (.list (xs.map .int)))(step:∀ i v m2 H2,xs[i]?=some v->I i m2 H2->AW c b ((x,.int v)::m2) H2 fun f m4 H4=>f=.next/\I (i+1) m4 H4)(fin:∀ m2 H2,I xs.length m2 H2->AW c r m2 H2 Q)(hs:autoParam (∀ x,WH iter c.env x=pure x) C4):AW c (.For (.Name x p1) iter b [] pos::r) m H Q:=by
 refine D7 (h1 _ ⟨a,xs.map .int,rfl,I,i0,see,fun i v m2 H2 hv hI=>?_,fun m2 H2 hI=>fin m2 H2 (by rwa [V8]at hI)⟩) rfl hs
 rw[Zu,Option.map_eq_some_iff]at hv
 obtain⟨w,hw,rfl⟩:=hv
 refine AP (AE lx.1 (AW.mono (step i w m2 H2 hw hI) ?_))
 rintro f m4 H4 ⟨rfl,q⟩
 exact q
theorem LP{o i e:Expr}{d:Addr}{k:IS}{v:V}{ep:Nat}{es:List (IS×V)}{F:O->Hp}{Q:Fl->Lo->Hp->Prop}(he:Pu c e m H v)(ho:Pu c o m H (.ref d))(hi:Pu c i m H k.v)(sp:DF d (.dict ep es) H F)(hz:es.length<=1000000)(h:∀ ep',Q .next m (F (.dict ep' (BQ es k v))))(hs:autoParam (WE [.Subscript o i p1] e pos.line c.env=pure false) AV)(hw:autoParam (WF [.Subscript o i p1] e c.env=pure .none) AV):DX c (.Assign [.Subscript o i p1] e pos) m H Q:=
 GD (he _ (Lw (ho _ (hi _ (HX sp h hz))))) (hs:=hs) (hw:=hw)
theorem Pu.dget{o i:Expr}{apos:Pos}{d:Addr}{k:IS}{u:V}{dv:Expr}{ep:Nat}{es:List (IS×V)}(ho:Pu c o m H (.ref d))(hi:Pu c i m H k.v)(hd:Pu c dv m H u)(hx:AK c H d (.dict ep es))(hE:LD c o "get" apos [i,dv] pos)(s1:autoParam (V3 [i,dv] c.env=(false,eval i c.env)::V3 [dv] c.env) AV)(s2:autoParam (V3 [dv] c.env=(false,eval dv c.env)::V3 [] c.env) AV):Pu c (.Call (.Attribute o "get" apos) [i,dv] [] pos) m H ((dictAt es k).getD u):=fun _ h=>
 hE _ _ _ (ho _ ⟨_,_,Ea hx YK dD,AA (hi _ (AA (hd _ (AC ⟨Av,Qz hx h⟩)) s2)) s1⟩)
theorem Pu.dsub{o i:Expr}{d:Addr}{k:IS}{u:V}{ep:Nat}{es:List (IS×V)}(ho:Pu c o m H (.ref d))(hi:Pu c i m H k.v)(hx:AK c H d (.dict ep es))(hu:dictAt es k=some u)(hs:∀ o t,WV i false (.ref o) t=operate [.ref o,t] (WW (.ref o) t)):Pu c (.Subscript o i pos) m H u:=fun _ h=>RF (ho _ (hi _ (NO hx hu h hs)))
theorem C5.gtI{l r:Expr}{a b:Int}(h1:Pu c l m H (.int a))(h2:Pu c r m H (.int b))(hm:autoParam (V0 .Gt r=false) CZ):C5 c (.Compare l [.Gt] [r] pos) m H (decide (b<a)):=fun _ h=>CG (h1 _ (h2 _ (T9 (Ak h)))) hm
end
noncomputable def DS(es:List (IS×V))(l:List Int):Prop:=∀ v:Int,(dictAt es (.i v)).getD (.int 0)=.int (l.count v:Nat)
theorem DS.nil:DS [] []:=fun _=>rfl
noncomputable def LG(es:List (IS×V))(cs as:List Int)(t:Nat):Prop:=∀ v:Int,dictAt es (.i v)=if v∈as.take t then some (.int ((cs.count v:Nat)-((as.take t).count v:Nat):Int)) else .none
theorem LG.nil(cs as:List Int):LG [] cs as 0:=fun v=>by rw[dS,if_neg List.not_mem_nil];rfl
noncomputable def EU(as cs:List Int)(t:Nat):Nat:=((Xn t).filter fun i=>decide ((as.take i).count (as.getD i 0)<cs.count (as.getD i 0))).length
theorem Nd(as cs:List Int)(t:Nat):EU as cs (t+1)=EU as cs t+if (as.take t).count (as.getD t 0)<cs.count (as.getD t 0) then 1 else 0:=by
 unfold EU
 rw[Xo,aV,XS]
 congr 1
 by_cases h:(as.take t).count (as.getD t 0)<cs.count (as.getD t 0)
 .rw[if_pos h,Wu,if_pos (decide_eq_true h)];rfl
 .rw[if_neg h,Wu,if_neg (by simpa using h)];rfl
theorem Es(as cs:List Int):∀ t,EU as cs t<=t:=fun t=>Yi (aX _ _) (Z5 dT)
theorem AI.cons{m m':Lo}{H H':Hp}{x:Str}{u:V}(l:AI m H m' H'):AI ((x,u)::m) H ((x,u)::m') H':=by
 refine⟨fun y v e=>?_,l.2⟩
 rw[Vt]at e ⊢
 cases q:y==x with
 | true=>rw[q]at e;exact e
 | false=>rw[q]at e;exact l.1 y v e
theorem Pu.as{c:Ctx}{e:Expr}{m:Lo}{H:Hp}{u v:V}(h:Pu c e m H u)(q:u=v):Pu c e m H v:=q▸h
theorem LG.succ{es:List (IS×V)}{cs as:List Int}{t:Nat}{v:Int}(h:LG es cs as t)(hv:as[t]?=some v):LG (BQ es (.i v) (.int ((cs.count v:Nat)-((as.take t).count v:Nat)-1:Int))) cs as (t+1):=fun w=>by
 have e1:as.take (t+1)=as.take t++[v]:=by rw[cf,hv];rfl
 rw[DK,e1,dU]
 by_cases q:w=v
 .subst q
  rw[if_pos rfl,if_pos (XN _ mS),dW,dN,Int.sub_sub];rfl
 .rw[if_neg fun x=>q (by injection x),h w]
  have e2:(w∈as.take t++[v])=(w∈as.take t):=by rw[W9,XQ];exact propext ⟨fun x=>x.resolve_right q,.inl⟩
  have e3:dX w [v]=0:=dY.mpr fun x=>q (XQ.mp x)
  rw[e3,cA]
  simp only[e2]
noncomputable abbrev US(n f0 A fc x:Nat):Lo:=[("matches",.int (n:Nat)),("availhas",.ref f0),("avail",.ref A),("fullbcount",.ref fc),("self",.ref x)]
theorem LR(p:cy)(c:Ctx){k:Nat}(hf:c.fuel=k+1)(B:Base c (AQ p))(hs:c.env.scope=(AM (AQ p) 232).scope){H:Hp}{x d ra rb fc:Addr}{fs:List (Str×V)}{as bs cs:List Int}{ep:Nat}{es:List (IS×V)}(hx:(x,O.inst 242 d)∈H)(hd:(d,O.ns fs)∈H)(ha:fs.lookup ("a":Str)=some (.ref ra))(hb:fs.lookup ("b":Str)=some (.ref rb))(hF:fs.lookup ("fullbcount":Str)=some (.ref fc))(hra:(ra,O.list (as.map .int))∈H)(hrb:(rb,O.list (bs.map .int))∈H)(hfc:(fc,O.dict ep es)∈H)(hcnt:DS es cs)(h5:as.length<300)(h6:bs.length<300)(h7:as.length+bs.length<512)(hq7:EU as cs as.length<128)
  :AW c ((AU (AM (AQ p) 232)).drop 2) [("self",.ref x)] H fun f m' H'=>f=.ret (.float (Bj (EU as cs as.length) (as.length+bs.length)))/\AI m' H' [] H:=by
 have hn:=congrArg c0 hs
 conv at hn=>rhs;whnf
 have hC:=BM p
 have gl:An c "len" (.bi "len"):=B.len hn (by kernel_rfl)
 have gC:=IN p B hn (by kernel_rfl)
 have lSe:Lc c "self":=AG hn (by kernel_rfl)
 have lFu:Lc c "fullbcount":=AG hn (by kernel_rfl)
 have lAv:Lc c "avail":=AG hn (by kernel_rfl)
 have lAh:Lc c "availhas":=AG hn (by kernel_rfl)
 have lM:Lc c "matches":=AG hn (by kernel_rfl)
 have lE:Lc c "elt":=AG hn (by kernel_rfl)
 have lNu:Lc c "numb":=AG hn (by kernel_rfl)
 have h5':as.length<=1000000:=Yi (W7 h5) (by decide)
 refine AB (Al lFu (Pu.attr B hC (.mem hx) (.mem hd) (by kernel_rfl) (.n lSe) hF) ?_)
 refine AB (Ac (Gp B fun A=>AE lAv.1 ?_))
 refine AB (JG hn (by kernel_rfl) (Du (AA (EG ((Pu.n lAv) _ (G5 Ic (.mem mS) (by decide) fun f0=>AA ((Pu.one (i:=0)) _ (AC ⟨[.ref f0,.int 0],rfl,bB rfl,.ref f0,.int 0,rfl,AE lM.1 (AE lAh.1 ?_)⟩))))))))
 have up:∀ {P1 P2:Addr×O} {q:Addr×O},q∈H->q∈P1::P2::H:=fun h=>mT (mT h)
 refine GB (xs:=as) (Pu.attr B hC (.mem (up hx)) (.mem (up hd)) (by kernel_rfl) (.n lSe) ha) lE (fun t m2 H2=>∃ ep2 es2,LG es2 cs as t/\es2.length<=t/\AI m2 H2 (US (EU as cs t) f0 A fc x) ((f0,.obj (AY "dict.__contains__" A))::(A,.dict ep2 es2)::H)) ⟨0,[],LG.nil cs as,Vn _,Aa Ab.k⟩ ?_ ?_ ?_
 .rintro t m2 H2 ⟨ep2,es2,_,_,hl⟩
  exact AK.less hl (up hra)
 .rintro t v m2 H2 hv ⟨ep2,es2,hav,hlen,hl⟩
  have ht:t<as.length:=(WX.mp hv).1
  refine AW.less (m':=("elt",.int v)::US (EU as cs t) f0 A fc x) (AI.cons hl) ?_
  generalize hnb:((cs.count v:Nat)-((as.take t).count v:Nat):Int)=nb
  refine KP (("numb",.int nb)::("elt",.int v)::US (EU as cs t) f0 A fc x) ((f0,.obj (AY "dict.__contains__" A))::(A,.dict ep2 es2)::H) ?_ ?_
  .refine BU (.val (.call1 (.n lAh) (v:=(IS.i v).v) (.n lE) (Ga (.mem mS)) (fun Q h=>Ib (k:=.i v) (.mem mS) (.mem (mT mS)) h) (hE:=fun _ h=>AZ h)) (by intro _;rfl)) (fun h=>?_) (fun h=>?_)
   .have e:dictAt es2 (.i v)=some (.int nb):=by
     have q:=hav v
     by_cases z:v∈as.take t
     .rw[q,if_pos z,hnb]
     .rw[q,if_neg z]at h;cases h
    exact AB (Al lNu (Pu.dsub (k:=.i v) (.n lAv) (.n lE) (.mem (mT mS)) e (by intro _ _;with_unfolding_all rfl)) (AX (Aa Ab.k)))
   .have z:v∉as.take t:=fun z=>by rw[hav v,if_pos z]at h;cases h
    refine AB (Al lNu (v:=.int nb) ((Pu.dget (k:=.i v) (u:=.int 0) (.n lFu) (.n lE) .one (.mem (up hfc)) (fun _ _ _ h=>AO h)).as ?_) (AX (Aa Ab.k)))
    rw[hcnt v,<- hnb,dY.mpr z];exact congrArg _ (Int.sub_zero _).symm
  have hsucc:=hav.succ hv
  rw[hnb]at hsucc
  refine AB (LP (k:=.i v) (Pu.sub (.n lNu) .one) (.n lAv) (.n lE) (.tail (.head _)) (Yi hlen (Yi (W7 ht) h5')) fun ep3=>?_)
  have hq:=Nd as cs t
  rw[show as.getD t 0=v by rw[WN,hv];rfl]at hq
  have hd0:(0<nb)↔(as.take t).count v<cs.count v:=by rw[<- hnb,Int.sub_pos,dC]
  have hlen':=Yi (Df (es:=es2) (k:=.i v) (v:=.int (nb-1))) (XT hlen)
  refine AB (BU (.gtI (.n lNu) (.one (i:=0))) (fun h=>?_) (fun h=>?_))
  .rw[if_pos (hd0.mp (of_decide_eq_true h))]at hq
   refine AB (Al lM (.succ (.n lM)) (AX (AX ⟨rfl,ep3,_,hsucc,hlen',?_⟩)))
   rw[hq]
   exact Aa Ab.k
  .rw[if_neg fun z=>of_decide_eq_false h (hd0.mpr z),cA]at hq
   refine AX (AX ⟨rfl,ep3,_,hsucc,hlen',?_⟩)
   rw[hq]
   exact Aa Ab.k
 .rintro m2 H2 ⟨ep2,es2,_,_,hl⟩
  refine AW.less hl ?_
  exact AB (BG (AZ (BW gC (AA ((Pu.n lM) _ (AA (((Pu.addN (Pu.len gl (Pu.attr B hC (.mem (up hx)) (.mem (up hd)) (by kernel_rfl) (.n lSe) ha) (.mem (up hra)) (by rw[V8];exact h5') (hE:=fun _ h=>AZ h)) (Pu.len gl (Pu.attr B hC (.mem (up hx)) (.mem (up hd)) (by kernel_rfl) (.n lSe) hb) (.mem (up hrb)) (by rw[V8];exact Yi (W7 h6) (by decide)) (hE:=fun _ h=>AZ h))).as (v:=.int ((as.length+bs.length:Nat):Int)) (by rw[V8,V8])) _ (AC ⟨Aq B (by kernel_rfl),Ao.cal (ET p hf B hq7 h7 ⟨rfl,Cy Ab.nil (.cons _ (.cons _ (.refl _)))⟩)⟩))))))))
theorem TI(p:cy)(c:Ctx){k:Nat}(hf:c.fuel=k+1)(B:Base c (AQ p))(hs:c.env.scope=(AM (AQ p) 232).scope){H:Hp}{x d ra rb:Addr}{fs:List (Str×V)}{as bs:List Int}(ha:fs.lookup ("a":Str)=some (.ref ra))(hb:fs.lookup ("b":Str)=some (.ref rb))(hF:fs.lookup ("fullbcount":Str)=some .none)(hra:(ra,O.list (as.map .int))∈H)(hrb:(rb,O.list (bs.map .int))∈H)(h5:as.length<300)(h6:bs.length<300)(h7:as.length+bs.length<512)(hq7:EU as bs as.length<128)(hz:fs.length<=90)
  :AW c (AU (AM (AQ p) 232)) [("self",.ref x)] ((x,.inst 242 d)::(d,.ns fs)::H) fun f m' H'=>f=.ret (.float (Bj (EU as bs as.length) (as.length+bs.length)))/\∃ D ep es,DS es bs/\AI m' H' [] ((D,.dict ep es)::(x,.inst 242 d)::(d,.ns (("fullbcount",.ref D)::fs))::H):=by
 have hn:=congrArg c0 hs
 conv at hn=>rhs;whnf
 have hC:=BM p
 have lSe:Lc c "self":=AG hn (by kernel_rfl)
 have lFu:Lc c "fullbcount":=AG hn (by kernel_rfl)
 have lE:Lc c "elt":=AG hn (by kernel_rfl)
 have h6':bs.length<=1000000:=Yi (W7 h6) (by decide)
 refine AB (Ad (Co ?_))
 refine CW (fun m1 H1=>∃ D ep es,DS es bs/\AI m1 H1 [("self",.ref x)] ((D,.dict ep es)::(x,.inst 242 d)::(d,.ns (("fullbcount",.ref D)::fs))::H)) (BU (.isNone (Pu.attr B hC (.mem mS) (.mem (mT mS)) (by kernel_rfl) (.n lSe) hF) .nn) (fun _=>?_) (fun h=>nomatch h)) ?_
 .refine AB (DI (Gp B fun D=>Az ((Pu.n lSe) _ (Ay B hC (by kernel_rfl) (.mem (mT mS)) (.tail (.tail (.head _))) (AP (AE lFu.1 ?_)) (Yi hz (by decide))))))
  refine GB (xs:=bs) (Pu.attr B hC (.mem (mT mS)) (.mem (mT (mT mS))) (by kernel_rfl) (.n lSe) hb) lE (fun t m2 H2=>∃ ep es,DS es (bs.take t)/\es.length<=t/\AI m2 H2 [("fullbcount",.ref D),("self",.ref x)] ((D,.dict ep es)::(x,.inst 242 d)::(d,.ns (("fullbcount",.ref D)::fs))::H)) ⟨0,[],DS.nil,Vn _,Aa Ab.k⟩ ?_ ?_ ?_
  .rintro t m2 H2 ⟨ep,es,_,_,hl⟩
   exact AK.less hl (mT (mT (mT hrb)))
  .rintro t v m2 H2 hv ⟨ep,es,hcnt,hlen,hl⟩
   have ht:t<bs.length:=(WX.mp hv).1
   refine AW.less (AI.cons hl) ?_
   have e1:bs.take (t+1)=bs.take t++[v]:=by rw[cf,hv];rfl
   refine AB (LP (k:=.i v) (v:=.int (((bs.take t).count v+1:Nat):Int)) (Pu.succ ((Pu.dget (k:=.i v) (u:=.int 0) (.n lFu) (.n lE) .one (.mem mS) (fun _ _ _ h=>AO h)).as (hcnt v))) (.n lFu) (.n lE) (.head _) (Yi hlen (Yi (W7 ht) h6')) fun ep3=>AX ⟨rfl,ep3,_,fun w=>?_,Yi Df (XT hlen),Aa Ab.k⟩)
   rw[DK,e1,dU]
   by_cases q:w=v
   .subst q
    rw[if_pos rfl,dW];rfl
   .rw[if_neg fun x=>q (by injection x),hcnt w,dY.mpr fun x=>q (XQ.mp x),cA]
  .rintro m2 H2 ⟨ep,es,hcnt,_,hl⟩
   rw[aO]at hcnt
   exact AX ⟨D,ep,es,hcnt,hl.trans (Aa Ab.k)⟩
 .rintro m1 H1 ⟨D,ep,es,hcnt,hl⟩
  refine AW.less hl (AW.mono (LR p c hf B hs (fs:=("fullbcount",.ref D)::fs) (mT mS) (mT (mT mS)) (by rw[AN (by decide)];exact ha) (by rw[AN (by decide)];exact hb) rfl (mT (mT (mT hra))) (mT (mT (mT hrb))) mS hcnt h5 h6 h7 hq7) ?_)
  rintro f m' H' ⟨rfl,hl2⟩
  exact⟨rfl,D,ep,es,hcnt,hl2⟩
theorem Rc(p:cy)(c:Ctx){k:Nat}(hf:c.fuel=k+1)(B:Base c (AQ p))(hs:c.env.scope=(AM (AQ p) 232).scope){H:Hp}{x d ra rb fc:Addr}{fs:List (Str×V)}{as bs cs:List Int}{ep:Nat}{es:List (IS×V)}(hx:(x,O.inst 242 d)∈H)(hd:(d,O.ns fs)∈H)(ha:fs.lookup ("a":Str)=some (.ref ra))(hb:fs.lookup ("b":Str)=some (.ref rb))(hF:fs.lookup ("fullbcount":Str)=some (.ref fc))(hra:(ra,O.list (as.map .int))∈H)(hrb:(rb,O.list (bs.map .int))∈H)(hfc:(fc,O.dict ep es)∈H)(hcnt:DS es cs)(h5:as.length<300)(h6:bs.length<300)(h7:as.length+bs.length<512)(hq7:EU as cs as.length<128)
  :AW c (AU (AM (AQ p) 232)) [("self",.ref x)] H fun f m' H'=>f=.ret (.float (Bj (EU as cs as.length) (as.length+bs.length)))/\AI m' H' [] H:=by
 have hn:=congrArg c0 hs
 conv at hn=>rhs;whnf
 have hC:=BM p
 have lSe:Lc c "self":=AG hn (by kernel_rfl)
 refine AB (Ad (Co ?_))
 exact AB (BU (.isNone (Pu.attr B hC (.mem hx) (.mem hd) (by kernel_rfl) (.n lSe) hF) .ref) (fun h=>nomatch h) fun _=>AX (LR p c hf B hs hx hd ha hb hF hra hrb hfc hcnt h5 h6 h7 hq7))
structure TupG(M:Wd)(h:Heap)(C:Addr):Prop where
 x:TupX M h C
 gi:Wc M h (Z0 (.ref C) "__getitem__") (some (.builtin "tuple.__getitem__"))
 dq:Wc M h (aa (.ref C) (.type "collections.deque")) false
noncomputable def KI(K:Frag)(C:Addr):Bool:=Hz K C&&findIn K (.ref C) "__getitem__" == some (some (.builtin "tuple.__getitem__"))&&subIn K (.ref C) (.type "collections.deque")==some false
theorem LI{K:Frag}{M:Wd}{h:Heap}(X:K.In h){C:Addr}(e:KI K C=true):TupG M h C:=by
 unfold KI at e
 simp only[X5,beq_iff_eq]at e
 obtain⟨⟨e1,e2⟩,e3⟩:=e
 exact⟨LH X e1,YA X e2,looks_subIn X e3⟩
theorem PX:ak "tuple.__getitem__" = some .slot:=by decide +kernel
theorem NK:aq "tuple.__getitem__" = some ("tuple","__getitem__"):=by decide +kernel
section
variable{prog:VY}{w:VZ}{A:Va}{E:VX->Vb->Prop}{s:Vb}{C t:Addr}{items:Array VX}
theorem IM{k:Int}{u:Tok}{j:Nat}{x:VX}{Q:VX->Vb->Prop}(ht:Bg s.heap (some C) t items)(T:TupG (model prog w) s.heap C)(hlo:-(2 ^ 63)<=k)(hhi:k<2 ^ 63)(hj:seqIndex? k items.size=some j)(hx:items[j]?=some x)(h:Q x s):Vc (model prog w) A (WW (.ref t) (.int k u)) Q E s:=by
 unfold WW
 refine Vd ?_
 have hsk:Vc (model prog w) A (sequenceKey (.ref t) (.int k u) "__getitem__") (fun v s'=>v=.int k u/\s'=s) E s:=by
  unfold sequenceKey
  refine Ve ((FW ht).here ?_)
  dsimp only
  unfold seqItemTypes
  refine Ve (Ve (T.dq.here ?_))
  refine WM ?_
  exact WM ⟨rfl,rfl⟩
 refine Ve (Vv hsk (fun v s' q=>?_) fun _ _ q=>q)
 obtain⟨rfl,rfl⟩:=q
 unfold ay
 refine Ve (Ve ((Bi ht T.gi).here ?_))
 dsimp only
 rw[slot_tuple_getitem.bind]
 refine Vd (Ve (WM (Ve (EM ht T.x PX NK slot_tuple_getitem.plain (args_tuple_getitem _ _) entry_tuple_getitem ?_))))
 show Vc _ _ (cF (.ref t) >>= _) _ _ s'
 obtain⟨o,n,ho,_,hd⟩:=ht
 refine Ve (m:=cF (.ref t)) (Ve (Zs ho hd (WM ?_)))
 refine Ve (wpAny_typeOf (Xk s' k u) ?_)
 rw[if_neg (by decide)]
 refine Ve (aU (T:="int") (Xk s' k u) int_index ?_)
 rw[if_neg (by simp)]
 refine Ve (ZM (a:=k) rfl ?_)
 rw[if_neg (by simp only[ZB,decide_eq_true_eq,not_or,aF,ge_iff_le,Int.not_le];exact⟨hlo,hhi⟩)]
 rw[show((seqIndex? k items.size).bind fun x=>items[x]?)=some x from hj▸hx]
 exact WM ⟨_,rfl,WM (WM h)⟩
theorem L8{value slice:Expr}{k:Int}{u:Tok}{j:Nat}{x:VX}{Q:VX->Vb->Prop}(ht:Bg s.heap (some C) t items)(T:TupG (model prog w) s.heap C)(hlo:-(2 ^ 63)<=k)(hhi:k<2 ^ 63)(hj:seqIndex? k items.size=some j)(hx:items[j]?=some x)(hs:WV slice false (.ref t) (.int k u)=operate [.ref t,.int k u] (WW (.ref t) (.int k u)))(h:Q x s):Vc (model prog w) A (WU value slice (.ref t) (.int k u)) Q E s:=by
 unfold WU
 refine Ve ?_
 rw[getitemInPython_of_ne (fun q=>by cases q)]
 refine Ve ((Bi ht T.gi).here ?_)
 dsimp only
 refine WM (Ve ?_)
 rw[hs]
 exact wpAny_operating (IM ht T hlo hhi hj hx (Ve (wpAny_letTemporaryGo (WM h))))
end
section
variable{M:Wd}{A:Va}{E:VX->Vb->Prop}{s:Vb}
theorem FP{env:Env}{c P:Addr}{ps:Array VX}{pos:Pos}{qn:Str}{scope:XG}{Q:VX->Vb->Prop}(hc:env.code=.ref c)(hd:CodeHd s.heap c P)(hP:s.heap.get? P=some (tabObj ps))(ht:aQ ps.toList)(hQ:∀ code h' tk ps',bH P s.heap h'->s.heap.objs.size<=h'.objs.size->h'.get? P=some (tabObj ps')->aQ ps'.toList->Q code { s with heap:=h',toks:=tk }):Vc M A (genexprCode env pos qn scope) Q E s:=by
 cases hnf:codeAmong pos ps.toList with
 | none=>
  refine wpAny_genexprCodeX hc (hd.code hP ht) (hd.tab hP) hnf fun c' h' tk hx hge hlt _ _ htab _=>?_
  refine hQ _ h' tk _ hx (W7 (W4 hge hlt)) htab.2 ?_
  have q:=TriplesOk_snoc pos.line pos.col (.ref c') ps.toList ht
  rw[WT]
  exact q
 | some cv=>
  obtain⟨o,vs,file,tf,flags,tg,inF,text,tt,e1,_,e3,_,f3,_⟩:=hd
  unfold genexprCode codeAt
  rw[hc,if_neg (show ¬ ((Zz c==ZZ)=true) from ab)]
  refine Ve (Zp e1 e3 ?_)
  rw[f3]
  refine Ve (Zp hP rfl ?_)
  rw[hnf]
  exact WM (hQ cv s.heap s.toks ps (Heap.ExtBut.refl _ _) (Vn _) hP ht)
end
theorem JP(n:Nat):passing (fun _=>true) n 0=Xn n:=by
 unfold passing
 rw[aM]
 exact ct.mpr fun _ _=>rfl
theorem D8(L:List Tri):∀ j,preSum (fun i=>(((L.map (·.2.2)).getD i 0:Nat):Int)) j=((((L.map (·.2.2)).take j).sum:Nat):Int)
 | 0=>by rw[dS];rfl
 | j+1=>by
  show preSum _ j+_=_
  rw[D8 L j,cf,bX,dN]
  congr 1
  show(((L.map (·.2.2))[j]?.getD 0:Nat):Int)=_
  cases (L.map (·.2.2))[j]? with
  | none=>rfl
  | some v=>exact congrArg Int.ofNat (cA v).symm
theorem I5(l:List Nat)(j:Nat):(l.take j).sum<=l.sum:=by
 conv=>rhs;rw[<- Ym j l,bX]
 exact W5 _ _
theorem GV{v:Nat}:∀ {l:List Nat},v∈l->v<=l.sum
 | x::l,h=>by
  rw[bY]
  rcases Vq.mp h with rfl|h
  .exact W5 _ _
  .exact Yi (GV h) (Nat.le_add_left _ _)
theorem Jr(l:List Nat)(j:Nat):l.getD j 0<=l.sum:=by
 show l[j]?.getD 0<=_
 cases q:l[j]? with
 | none=>exact WJ _
 | some v=>exact GV (Zy q)
theorem Hn{n:Nat}(h:n<=1000):InLong ((n:Nat):Int):=⟨VN (by decide) (VO n),Int.lt_of_le_of_lt (VP.mpr h) (by decide)⟩
theorem T3{P:Prop}(h:∀ G:Prop,(P->G)->G):P:=h P id
theorem VG{α β γ δ ε ζ η θ:Type}{P:α->β->γ->δ->ε->ζ->η->θ->Prop}(a:α)(b:β)(c:γ)(d:δ)(e:ε)(f:ζ)(g:η)(h:θ)(q:P a b c d e f g h):∃ a b c d e f g h,P a b c d e f g h:=⟨a,b,c,d,e,f,g,h,q⟩
theorem Rel.gens{c:Ctx}{st:St}{s:Vb}(R:Rel c st s){g:Array GenState}{n:Nat}(hg:Vl g)(hn:0<n):Rel c st { s with gens:=g,toks:=n }:=⟨R.loc,R.obj,R.nd,R.apart,R.keep,R.gl,hg,hn⟩
section
variable{c:Ctx}{m:Lo}{H:Hp}{pos p1 p2 p3 p4 p5 p6 px:Pos}{k1:Nat}{Q:V->Lo->Hp->Prop}{mg:Str->Option VX}{cc P C:Addr}
theorem QF{prog:VY}{w:VZ}{A:Va}{E:VX->Vb->Prop}{s:Vb}{cenv:Env}{x:Str}{mm:Str->Option VX}{v:VX}{t:Tri}(hn:s.heap.Ns cenv.locals mm)(hv:mm x=some v)(hk:cenv.scope.kind=.function)(hl:cenv.scope.names.lookup x=some .local)(hd:(x==("__debug__":Str))=false)(ht:V.rep s.heap (BZ C t) v)(T:TupG (model prog w) s.heap C):Vc (model prog w) A (eval (.Subscript (.Name x p1) (.UnaryOp .USub (.Constant (.int 1) k1 p2) p3) p4) cenv) (fun y s'=>(∃ u,y=.int ((t.2.2:Nat):Int) u)/\Keeps s s') E s:=by
 obtain⟨a,items,rfl,hit,hr⟩:=ht
 obtain⟨v0,r0,e0,_,v1,r1,e1,_,v2,r2,e2,⟨u,hu⟩,e3⟩:=hr
 refine Subscript_ (ldG hn hv (wpAny_UnaryOp (wpAny_Constant_int (neg_int ?_))) hk hl hd)
 have hi:items.toList=[v0,v1,v2]:=by rw[e0,e1,e2,e3]
 have hz:items.size=3:=by rw[<- V9,hi];rfl
 exact L8 (s:={ s with toks:=_ }) hit T (by decide) (by decide) (j:=2) (by rw[hz];rfl) (x:=v2) (by rw[<- WO,hi];rfl) (by with_unfolding_all rfl) ⟨⟨u,hu⟩,s.heap,_,rfl,fun _ _ e=>e⟩
theorem Ju{x:Str}{iter:Expr}{scope:XG}(gS:An c "sum" (.bi "sum"))(LB:LamBase c mg cc P)(hlim:c.Knows Wz)(hT:c.Knows fun h=>TupG (model c.prog c.w) h C)(hco:scope.isCoroutine=false)(hclos:Xb scope c.env=pure [])(hcell:∀ y∈scope.names,y.2≠.cell)(h0:scope.names.lookup (".0":Str)=some NameKind.local)(hx:scope.names.lookup x=some .local)(hxd:(x==("__debug__":Str))=false)(hkind:scope.kind=.function)(h:Af c iter m H fun u m1 H1=>∃ l,∃ L:List Tri,∃ ps F,u=.ref l/\(l,O.list (L.map (BZ C)))∈H1/\(L.map (·.2.2)).sum<=1000/\DF P (.obj (tabObj ps)) H1 F/\aQ ps.toList/\∀ ps',aQ ps'.toList->Q (.int (((L.map (·.2.2)).sum:Nat):Int)) m1 (F (.obj (tabObj ps'))))(he:eval (.Call (.Name ("sum":Str) p5) [.GeneratorExp (.Subscript (.Name x p1) (.UnaryOp .USub (.Constant (.int 1) k1 p2) p3) p4) [⟨.Name x px,iter,[],0⟩] scope p6] [] pos) c.env=(do callWith pos (<- eval (.Name ("sum":Str) p5) c.env) [] (backTo pos (V3 [.GeneratorExp (.Subscript (.Name x p1) (.UnaryOp .USub (.Constant (.int 1) k1 p2) p3) p4) [⟨.Name x px,iter,[],0⟩] scope p6] c.env)) (backToKw pos (keywordEach [] c.env))))(hs:∀ v,genFold iter c.env v=pure v)
  :Af c (.Call (.Name ("sum":Str) p5) [.GeneratorExp (.Subscript (.Name x p1) (.UnaryOp .USub (.Constant (.int 1) k1 p2) p3) p4) [⟨.Name x px,iter,[],0⟩] scope p6] [] pos) m H Q:=fun s R Pk k=>by
 have hroom:c.A.depth<Vk:=W4 (W5 _ _) c.hd
 refine Ctx.wpT ?_
 refine Call_ (BW gS (Q:=fun f m0 H0=>f=.bi "sum"/\m0=m/\H0=H) ⟨rfl,rfl,rfl⟩ (by decide) s R _ fun f vf m1 H1 h1 tk1 R1 F1 r1 q1=>?_) he
 obtain⟨rfl,rfl,rfl⟩:=q1
 cases (r1:vf=_)
 refine callWith_of (P:=fun h=>∃ k,(k=WZ∨k=Wa∨k=Wb)/\Wc (model c.prog c.w) h (keeperOf (.builtin "sum")) k) rfl (fun h q=>q) ?_
 have main:Vc (model c.prog c.w) c.A (spliced (backTo pos (V3 [.GeneratorExp (.Subscript (.Name x p1) (.UnaryOp .USub (.Constant (.int 1) k1 p2) p3) p4) [⟨.Name x px,iter,[],0⟩] scope p6] c.env))) (fun vs s₁=>(∃ k,(k=WZ∨k=Wa∨k=Wb)/\Wc (model c.prog c.w) s₁.heap (keeperOf (.builtin "sum")) k)/\Vc (model c.prog c.w) c.A (call (.builtin "sum") ([]++vs) []) (fun v s'=>s.toks<=s'.toks->Pk v s') (fun _ _=>False) s₁) (fun _ _=>False) (sw s h1 tk1):=by
  refine wpAny_items_cons ?_ rfl
  refine wpAny_GeneratorExp_walksQ c.hh hco hclos hcell h0 hx hkind hroom ?_ hs
  refine h _ R1 _ fun u vu m2 H2 h2 tk2 R2 F2 r2 q2=>?_
  refine T3 fun G hG=>?_
  obtain⟨l,L,ps,F,rfl,hl,hsum,sp,htr,q⟩:=q2
  cases (r2:vu=_)
  obtain⟨items,hit,_,hr⟩:=R2.obj _ _ hl
  have hrl:=hr.length
  rw[V8]at hrl
  refine hG (WP (s:=sw (sw s h1 tk1) h2 tk2) hit ?_)
  clear hG
  have hP:=(R2.obj _ _ (sp.upd (.obj (tabObj ps))).mem).1
  have hln:l≠P:=fun e=>by
   obtain⟨o,ho,hcl,_⟩:=hit
   rw[e,hP]at ho;cases ho;cases hcl
  have hgrow:∀ b o,h2.get? b=some o->(h2.push { cls:=.type "list_iterator",data:=.fields #[.ref l,.int 0 0] }).get? b=some o:=fun b o e=>WQ _ e
  have hItP:h2.objs.size≠P:=fun e=>by rw[<- e,Bk (Vn _)]at hP;cases hP
  have hlim2:(h2.push { cls:=.type "list_iterator",data:=.fields #[.ref l,.int 0 0] }).NoLimit:=(hlim _ R2.keep).push _
  refine⟨hlim2,FP LB.hc ((LB.code h2 R2.keep).keeps hgrow) (hgrow _ _ hP) htr fun code h3 tk3 ps' hx3 hsz3 hP3 htr3=>?_⟩
  have hk3:∀ b o,b≠P->h2.get? b=some o->h3.get? b=some o:=fun b o hb e=>hx3 b o hb (hgrow b o e)
  have hgl3:∀ b o,c.G b=some o->h3.get? b=some o:=fun b o e=>hk3 b o (fun q=>by
   have h9:=(R2.apart P (Vm.mpr ⟨_,(sp.upd (.obj (tabObj ps))).mem,rfl⟩)).2
   rw[q,h9]at e;cases e) (R2.keep b o e)
  refine T3 fun G hG=>?_
  obtain⟨bm,ob,b1,b2,b3,b4,b5,b6⟩:=LB.bm h3 hgl3
  refine hG (wpAny_builtinsFor (by rw[LB.hg];exact LB.glo h3 hgl3) b1 b2 b3 b4 b5 b6 ?_)
  clear hG
  have hgs:=LB.glo h3 hgl3
  have hl3:h3.IsList l items:=by
   obtain⟨o,ho,r⟩:=hit
   exact⟨o,hk3 _ _ hln ho,r⟩
  have hlim3:h3.NoLimit:=hlim h3 hgl3
  have hltl:l<h2.objs.size:=by obtain⟨o,ho,_⟩:=hit;exact WB ho
  have hsz3':h2.objs.size+1<=h3.objs.size:=by
   have e:(h2.push { cls:=.type "list_iterator",data:=.fields #[.ref l,.int 0 0] }).objs.size<=h3.objs.size:=hsz3
   rw[cW]at e
   exact e
  have hgit:h3.get? h2.objs.size=some { cls:=.type "list_iterator",data:=.fields #[.ref l,.int 0 0] }:=hx3 _ _ hItP (WR _ rfl)
  have hcw:cStatics∉[h2.objs.size]:=fun e=>by
   obtain⟨_,⟨o,es,ep,ho,hd,_⟩,_⟩:=hlim3
   rw[XQ.mp e,hgit]at ho;cases ho;cases hd
  refine VG h2.objs.size [h2.objs.size,l] [h2.objs.size] items.size (fun i v=>items[i]?=some v) _ (fun _=>true) (fun i y=>∃ u,y=.int (((L.map (·.2.2)).getD i 0:Nat):Int) u) ⟨rfl,(fun A' hA=>Walks.list hA _ _ (WA hltl) items),⟨⟨_,hgit,rfl,rfl⟩,hl3⟩,?_,hlim3,hcw,?_,?_⟩
  .intro b hb
   rcases Vq.mp hb with rfl|hb
   .exact Nat.lt_of_succ_le hsz3'
   .cases XQ.mp hb
    exact Vp hltl (Yi (Vo _) hsz3')
  .intro href hhref
   refine⟨fun A' E' i v s₂ m₂ _ _ _ _ _=>?_,fun A' E' i v s₂ m₂ hA hi _ hn hm hkk=>?_⟩
   .exact WM ⟨rfl,s₂.heap,s₂.toks,rfl,fun _ _ e=>e⟩
   .have QC:items.toList[i]?=some v:=by rw[WO];exact hi
    have hiL:i<L.length:=by rw[<- hrl];exact(WX.mp QC).1
    obtain⟨v',hv',hrep⟩:=hr.get (show(L.map (BZ C))[i]?=some (BZ C L[i]) by rw[Zu,Z6 hiL];rfl)
    rw[QC]at hv';cases hv'
    have hkeep:∀ b o,b≠P->h2.get? b=some o->s₂.heap.get? b=some o:=fun b o hb e=>hkk b (dH.mpr (Vp (WB e) (Yi (Vo _) hsz3'))) (fun q=>by
     cases XQ.mp q
     rw[Bk (Vn _)]at e;cases e) o (hhref b o (hk3 b o hb e))
    have hrep2:V.rep s₂.heap (BZ C L[i]) v:=by
     obtain⟨a,its,rfl,⟨o,n,ho,r⟩,hr2⟩:=hrep
     refine⟨a,its,rfl,⟨o,n,hkeep a o (fun q=>?_) ho,r⟩,hr2⟩
     rw[q,hP]at ho;cases ho;cases r.1
    have T2:TupG (model c.prog c.w) s₂.heap C:=hT _ fun b o e=>hkeep b o (fun q=>by
     have h9:=(R2.apart P (Vm.mpr ⟨_,(sp.upd (.obj (tabObj ps))).mem,rfl⟩)).2
     rw[q,h9]at e;cases e) (R2.keep b o e)
    refine Vv (QF (cenv:=genEnv scope [] h3.objs.size code Xh c.env) hn hm hkind hx hxd hrep2 T2) (fun y s' q=>⟨?_,q.2⟩) fun _ _ e=>e
    have eg:(L.map (·.2.2)).getD i 0=L[i].2.2:=by show(L.map (·.2.2))[i]?.getD 0=_;rw[Zu,Z6 hiL];rfl
    rw[eg]
    exact q.1
  .intro a h5 tk5 gs hgb hag hsz5 hk5 W hat
   refine wpAny_items_nil ⟨⟨.machine,.inr (.inl rfl),.now⟩,?_⟩
   rw[JP]at W
   have W1:=W.in4_1
   refine call_sum_walkS (W1.self 0 _ _ _ hat ⟨a,_,_,_,_,_,_,(fun i=>(((L.map (·.2.2)).getD i 0:Nat):Int)),rfl,W1,hat,?_,?_,?_,?_⟩)
   .intro b hb
    show b<h5.objs.size
    rw[hsz5]
    rcases Vq.mp hb with rfl|hb
    .exact Z3 _
    .rcases Vq.mp hb with rfl|hb
     .exact Ye hag
     .exact Ye (Yh (dH.mp hb) hag)
   .rintro j v ⟨i,hi,hF⟩
    rw[List.getElem?_range (by
     have:=(WX.mp hi).1
     rw[dT]at this
     exact this)]at hi
    cases hi
    exact hF
   .intro j _
    refine⟨Hn (Yi (Jr _ j) hsum),?_⟩
    rw[D8]
    exact Hn (Yi (I5 _ _) hsum)
   .intro s' t' hm hto
    rw[D8,dT,aH (by rw[V8,<- hrl,V9];exact Vn _)]
    have hb5:Vl s'.gens:=AllBare.movedS (s:={ (sw (sw s h1 tk1) h2 tk2) with heap:=h5,toks:=tk5,gens:=tk2.gens.push gs }) (AllBare.push R2.bare hgb) hm
    have hk6:∀ b o,b≠P->h2.get? b=some o->s'.heap.get? b=some o:=fun b o hb e=>hm.heap b o (fun q=>by
     rcases Vq.mp q with q|q
     .subst q;exact absurd (WB e) (WL.mpr (Yi (Vo _) hsz3'))
     .cases XQ.mp q
      rw[Bk (Vn _)]at e;cases e) (hk5 b o (hk3 b o hb e))
    have hP6:s'.heap.get? P=some (tabObj ps'):=hm.heap P _ (fun q=>by
     rcases Vq.mp q with q|q
     .exact absurd (WB hP3) (by rw[q];exact WK _)
     .exact hItP (XQ.mp q).symm) (hk5 P _ hP3)
    have al:∃ o,s'.heap.get? P=some o:=⟨_,hP6⟩
    have up:=sp.upd (.obj (tabObj ps'))
    have F3:=Fp.upd (L:=c.env.locals) up hk6 al
    have R3:=(R2.gens (g:=s'.gens) hb5 (Vp R.tp hto)).upd (h':=s'.heap) ⟨s'.toks,s'.drawn,s'.gens⟩ up hk6 al (fun _=>⟨hP6,by unfold Mine.Internal.Obj.fixed;trivial⟩) rfl
    obtain⟨hp',gg',dd',kk',oo'⟩:=s'
    have eo:oo'=s.os:=hm.os
    subst eo
    exact k (.int (((L.map (·.2.2)).sum:Nat):Int)) _ _ _ _ ⟨kk',dd',gg'⟩ R3 (F1.trans R1.hasL (F2.trans R2.hasL F3)) ⟨t',rfl⟩ (q ps' htr3)
 exact evalArgs_plain main
end
theorem GW(p:cy):KI (AQ p) 135=true:=by kernel_rfl
theorem Di(p:cy){fa:Addr}{c:Ctx}{k:Nat}(hf:c.fuel=k+1)(B:Base c (AQ p)){m:Lo}{Q:V->Lo->Hp->Prop}{H:Hp}{x:Addr}(h1:OZ (AQ p) fa=true)(h2:DA ((AM (AQ p) fa).scope.names.map (·.1))=true)(h3:OE (AM (AQ p) fa).scope.names [("self":Str)]=true)(h4:∀ v0,X8 (AM (AQ p) fa) { pos:=[v0] }=pure ([("self":Str)].zip [v0]))(h5:∀ x,CY (AM (AQ p) fa).scope.names [(("self":Str),V.ref x)]=[(("self":Str),V.ref x)])(h6:∀ L x,Aw L (AM (AQ p) fa) [(("self":Str),V.ref x)]=[])(h:∀ L c2,Called c (AM (AQ p) fa) L c2->c2.fuel=k->Base c2 (AQ p)->AW c2 (AU (AM (AQ p) fa)) [("self",.ref x)] H fun f _ H'=>∃ H2,AI [] H' [] H2/\Q f.val m H2):Ao c (.ref fa) [.ref x] m H Q:=by
 refine DE (fd:=AM (AQ p) fa) (bs:=[(("self":Str),V.ref x)]) B hf (Bs h1) h2 h3 (fun s vvs X r=>Ax (ps:=[("self":Str)]) (vs:=[V.ref x]) rfl (fun vvs hl=>Lr h4 vvs hl) s vvs X r) fun L c2 hc hk B2=>?_
 rw[h5,h6]
 refine AW.post (AW.mono (h L c2 hc hk B2) ?_)
 rintro f m' H' ⟨H2,hl,q⟩
 exact⟨[],H2,⟨(fun _ _ e=>nomatch e),hl.2⟩,q⟩
theorem Jo(p:cy){c:Ctx}{k:Nat}(hf:c.fuel=k+1)(B:Base c (AQ p)){m:Lo}{Q:V->Lo->Hp->Prop}{H:Hp}{x d r:Addr}{fs:List (Str×V)}(hx:(x,O.inst 242 d)∈H)(hd:(d,O.ns fs)∈H)(hm:fs.lookup ("matching_blocks":Str)=some (.ref r))(h:Q (.ref r) m H):Ao c (.ref 203) [.ref x] m H Q:=by
 refine Di p hf B (by kernel_rfl) (by kernel_rfl) (by kernel_rfl) (fun _=>by kernel_rfl) (fun _=>by kernel_rfl) (fun _ _=>by kernel_rfl) fun L c2 hc hk B2=>?_
 have hn:=congrArg c0 hc.scope
 conv at hn=>rhs;whnf
 have hC:=BM p
 have lSe:Lc c2 "self":=AG hn (by kernel_rfl)
 refine AB (Ad (Co ?_))
 refine AB (BU (.isntNone (Pu.attr B2 hC (.mem hx) (.mem hd) (by kernel_rfl) (.n lSe) hm) .ref) (fun _=>?_) (fun h=>nomatch h))
 exact AB (BG ((Pu.attr B2 hC (.mem hx) (.mem hd) (by kernel_rfl) (.n lSe) hm) _ ⟨_,AI.refl _ _,h⟩))
structure RatB(c:Ctx)(mg:Str->Option VX):Prop where
 glo:c.Knows fun h=>h.Ns Xg mg
 bm:c.Knows fun h=>∃ bm ob,mg "__builtins__" = some (.ref bm)/\bm≠Xh/\h.get? bm=some ob/\ob.cls=.type "module"/\ob.dict=some Xh/\ob.data=.plain
 code:c.Knows fun h=>CodeHd h 224 220
theorem RatB.called{c c2:Ctx}{mg:Str->Option VX}{fd:Wx}{L:Addr}(h:RatB c mg)(hc:Called c fd L c2):RatB c2 mg:=⟨hc.knows _ h.glo,hc.knows _ h.bm,hc.knows _ h.code⟩
theorem Base.sum{c:Ctx}{K:Frag}{ns:List (Str×Wt)}(B:Base c K)(hn:c.env.scope.names=ns)(h:M7 K ns "sum" = true):An c "sum" (.bi "sum"):=B.blt hn h (by kernel_rfl) rfl
theorem Rb(p:cy)(c:Ctx){k:Nat}(hf:c.fuel=k+1)(B:Base c (AQ p)){mg:Str->Option VX}(G:RatB c mg)(hs:c.env.scope=(AM (AQ p) 225).scope)(hcd:c.env.code=.ref 224){F:O->Hp}{x d ra rb r:Addr}{fs:List (Str×V)}{as bs:List V}{L:List Tri}{ps:Array VX}(sp:∀ o,DF 220 o (F o) F)(hx:∀ o,(x,O.inst 242 d)∈F o)(hd:∀ o,(d,O.ns fs)∈F o)(ha:fs.lookup ("a":Str)=some (.ref ra))(hb:fs.lookup ("b":Str)=some (.ref rb))(hm:fs.lookup ("matching_blocks":Str)=some (.ref r))(hg:fs.lookup ("get_matching_blocks":Str)=.none)(hra:∀ o,(ra,O.list as)∈F o)(hrb:∀ o,(rb,O.list bs)∈F o)(hr:∀ o,(r,O.list (L.map (BZ 135)))∈F o)(hps:aQ ps.toList)(h5:as.length<128)(h6:bs.length<300)(hS:(L.map (·.2.2)).sum<128)
  :AW c (AU (AM (AQ p) 225)) [("self",.ref x)] (F (.obj (tabObj ps))) fun f m' H'=>f=.ret (.float (Bj (L.map (·.2.2)).sum (as.length+bs.length)))/\∃ ps',aQ ps'.toList/\H'=F (.obj (tabObj ps')):=by
 have hn:=congrArg c0 hs
 conv at hn=>rhs;whnf
 have hC:=BM p
 have gl:An c "len" (.bi "len"):=B.len hn (by kernel_rfl)
 have gS:An c "sum" (.bi "sum"):=B.sum hn (by kernel_rfl)
 have gC:=IN p B hn (by kernel_rfl)
 have lSe:Lc c "self":=AG hn (by kernel_rfl)
 have lM:Lc c "matches":=AG hn (by kernel_rfl)
 have LB:LamBase c mg 224 220:=⟨G.glo,G.bm,G.code,hcd,B.g⟩
 refine AB (Ad (Co ?_))
 refine AB (Ac (Ju gS LB B.lim (fun h hh=>LI (B.kin h hh) (GW p)) rfl rfl (by decide) rfl rfl (by decide) rfl (AO ((Pu.n lSe) _ ⟨_,_,A9 (K:=AQ p) (C:=242) (f:=203) B hC (by kernel_rfl) (by kernel_rfl) (.mem (hx _)) (.mem (hd _)) hg,AC ⟨Aq B (by kernel_rfl),Ao.cal (Jo p hf B (hx _) (hd _) hm ⟨r,L,ps,_,rfl,hr _,Yi (W7 hS) (by decide),sp _,hps,fun ps' hps'=>AE lM.1 ?_⟩)⟩⟩)) rfl (fun _=>rfl)))
 exact AB (BG (AZ (BW gC (AA ((Pu.n lM) _ (AA (((Pu.addN (Pu.len gl (Pu.attr B hC (.mem (hx _)) (.mem (hd _)) (by kernel_rfl) (.n lSe) ha) (.mem (hra _)) (Yi (W7 h5) (by decide)) (hE:=fun _ h=>AZ h)) (Pu.len gl (Pu.attr B hC (.mem (hx _)) (.mem (hd _)) (by kernel_rfl) (.n lSe) hb) (.mem (hrb _)) (Yi (W7 h6) (by decide)) (hE:=fun _ h=>AZ h)))) _ (AC ⟨Aq B (by kernel_rfl),Ao.cal (ET p hf B hS (Vp (dR h5 h6) (by decide)) ⟨rfl,ps',hps',rfl⟩)⟩))))))))
theorem Ph(p:cy){c:Ctx}{k:Nat}(hf:c.fuel=k+1+1)(B:Base c (AQ p)){mg:Str->Option VX}(G:RatB c mg){m:Lo}{Q:V->Lo->Hp->Prop}{F:O->Hp}{x d ra rb r:Addr}{fs:List (Str×V)}{as bs:List V}{L:List Tri}{ps:Array VX}(sp:∀ o,DF 220 o (F o) F)(hx:∀ o,(x,O.inst 242 d)∈F o)(hd:∀ o,(d,O.ns fs)∈F o)(ha:fs.lookup ("a":Str)=some (.ref ra))(hb:fs.lookup ("b":Str)=some (.ref rb))(hm:fs.lookup ("matching_blocks":Str)=some (.ref r))(hg:fs.lookup ("get_matching_blocks":Str)=.none)(hra:∀ o,(ra,O.list as)∈F o)(hrb:∀ o,(rb,O.list bs)∈F o)(hr:∀ o,(r,O.list (L.map (BZ 135)))∈F o)(hps:aQ ps.toList)(h5:as.length<128)(h6:bs.length<300)(hS:(L.map (·.2.2)).sum<128)(h:∀ ps',aQ ps'.toList->Q (.float (Bj (L.map (·.2.2)).sum (as.length+bs.length))) m (F (.obj (tabObj ps')))):Ao c (.ref 225) [.ref x] m (F (.obj (tabObj ps))) Q:=
 Di p hf B (by kernel_rfl) (by kernel_rfl) (by kernel_rfl) (fun _=>by kernel_rfl) (fun _=>by kernel_rfl) (fun _ _=>by kernel_rfl) fun L c2 hc hk B2=>
  AW.mono (Rb p c2 hk B2 (G.called hc) hc.scope (hc.code.trans (by kernel_rfl)) sp hx hd ha hb hm hg hra hrb hr hps h5 h6 hS) fun f m' H' q=>by
   obtain⟨rfl,ps',hps',rfl⟩:=q
   exact⟨_,AI.refl _ _,h ps' hps'⟩
section
variable{c:Ctx}{m:Lo}{H:Hp}{Q:V->Lo->Hp->Prop}
end
noncomputable def Ce(c:Ctx)(x:Str)(a:Addr):Prop:=E0 c x=some a/\(x==("__debug__":Str))=false
section
variable{c:Ctx}{m:Lo}{H:Hp}{pos p1 p2:Pos}{k1:Nat}{Q:V->Lo->Hp->Prop}
noncomputable def Ut(ns:List (Str×Wt))(x:Str):Bool:=ns.lookup x==some .cell&&!(x==("__debug__":Str))
theorem B8{ns:List (Str×Wt)}{cs:List (Str×Addr)}(hn:c.env.scope.names=ns)(hc:c.env.cells=cs){x:Str}{a:Addr}(h:Ut ns x=true)(hl:cs.lookup x=some a):Ce c x a:=by
 unfold Ut at h
 rw[X5]at h
 refine⟨?_,by simpa using h.2⟩
 unfold E0
 rw[BO hn (beq_iff_eq.mp h.1),hc]
 exact hl
theorem Pu.cel{x:Str}{a:Addr}{u:V}(l:Ce c x a)(hv:AK c H a (.cell (some u))):Pu c (.Name x pos) m H u:=fun _ h=>Ol l.1 hv h l.2
theorem Fy{x:Str}{v:V}{a:Addr}{u:Option V}{H':Hp}{Q:Lo->Hp->Prop}(hk:c.env.kindOf x=some .cell)(l:Ce c x a)(up:Cd a (.cell u) (.cell (some v)) H H')(h:Q m H'):O9 c x v m H Q:=by
 refine NQ hk ?_ up h
 obtain⟨h1,h2⟩:=Eh l.1
 exact h1
theorem FS{xs:List V}(f:V->Option V):(Xn xs.length).filterMap (fun i=>f (xs.getD i .none))=xs.filterMap f:=by
 conv=>rhs;rw[show xs=(Xn xs.length).map (fun i=>xs.getD i .none) by
  refine Zw (by simp) fun i h1 h2=>?_
  simp[WN,h1]]
 rw[List.filterMap_map]
 rfl
theorem Af.post{e:Expr}(h:Af c e m H fun v m' H'=>∃ m2 H2,AI m' H' m2 H2/\Q v m2 H2):Af c e m H Q:=
 fun s R P k=>h s R P fun b v m' H' h tk R' F r t8=>t8.elim fun m2 t9=>t9.elim fun H2 t9=>t9.elim fun l q=>k b v m2 H2 h tk (R'.weaken l.1 l.2.1 (l.2.2 R'.nd)) ⟨F.keep,fun b hb=>F.dom b (by obtain⟨p,hp,e⟩:=Vm.mp hb;exact e▸Vm.mpr ⟨p,l.2.1 p hp,rfl⟩),F.alive⟩ r q
end
section
variable{c:Ctx}{m:Lo}{H:Hp}{pos p1 p2:Pos}{k1:Nat}{Q:V->Lo->Hp->Prop}
theorem IW{α:Type}{f:α->V}{v e:Expr}{p:Pos}{l:Addr}{xs:List α}{n:Nat}(h1:Pu c v m H (.ref l))(h2:Pu c e m H (.int n))(hx:AK c H l (.list (xs.map f)))(hz:xs.length<=1000)(h:∀ x,Q (.ref x) m ((x,.list ((xs.take n).map f))::H))(ht:autoParam (∀ o r,Xy v o r=pure ()) G0):Af c (.Subscript v (.Slice .none (some e) .none p) pos) m H Q:=by
 refine Lk (h1 _ ?_) ht
 show Af c e m H _
 refine h2 _ ⟨n,rfl,l,xs.map f,rfl,hx,by rw[V8];exact AJ 1 (.l Y0 (.n 1000)) (.l Y0 (.n 1000000)) [_] hz,fun x=>?_⟩
 rw[MJ,<- cq]
 exact h x
theorem Oi{α:Type}{f:α->V}{v e:Expr}{p:Pos}{l:Addr}{xs:List α}{n:Nat}(h1:Pu c v m H (.ref l))(h2:Pu c e m H (.int n))(hx:AK c H l (.list (xs.map f)))(hz:xs.length<=1000)(h:∀ x,Q (.ref x) m ((x,.list ((xs.drop n).map f))::H))(ht:autoParam (∀ o r,Xy v o r=pure ()) G0):Af c (.Subscript v (.Slice (some e) .none .none p) pos) m H Q:=by
 refine Lk (h1 _ ?_) ht
 show Af c e m H _
 refine h2 _ ⟨n,rfl,?_⟩
 show ∃ l xs,_
 refine⟨l,xs.map f,rfl,hx,by rw[V8];exact AJ 1 (.l Y0 (.n 1000)) (.l Y0 (.n 1000000)) [_] hz,fun x=>?_⟩
 rw[ML,<- List.map_drop]
 exact h x
end
theorem Pu.lenM{c:Ctx}{m:Lo}{H:Hp}{pos p1:Pos}{α:Type}{f:α->V}{e:Expr}{a:Addr}{xs:List α}(gl:An c "len" (.bi "len"))(h2:Pu c e m H (.ref a))(ha:AK c H a (.list (xs.map f)))(hz:xs.length<=1000)(he:autoParam (V3 [e] c.env=(false,eval e c.env)::V3 [] c.env) AV)(hE:∀ Q,(Af c (.Name ("len":Str) p1) m H fun f m0 H0=>BJ c pos [e] m0 H0 fun vs m1 H1=>Ba c f H1/\Ck c f vs m1 H1 Q)->Af c (.Call (.Name ("len":Str) p1) [e] [] pos) m H Q):Pu c (.Call (.Name ("len":Str) p1) [e] [] pos) m H (.int (xs.length:Nat)):=by
 have:=Pu.len gl h2 ha (by rw[V8];exact AJ 1 (.l Y0 (.n 1000)) (.l Y0 (.n 1000000)) [_] hz) he hE
 rwa [V8]at this
noncomputable abbrev Bv(as bs:List Int)(L:List Tri):List Tri:=IF (0,0,0) L++[(as.length,bs.length,0)]
theorem Pg(p:cy)(c:Ctx){k:Nat}(hf:c.fuel=k+1+1+1+1)(B:Base c (AQ p)){mg:Str->Option VX}(G:RatB c mg)(hs:c.env.scope=(AM (AQ p) 225).scope)(hcd:c.env.code=.ref 224){F:O->Hp}{x d ra rb D S:Addr}{fs:List (Str×V)}{as bs:List Int}{ep:Nat}{es:List (IS×V)}{z:C8}{ks:List IS}{idx:Int->List Nat}{ps:Array VX}(sp:∀ o,DF 220 o (F o) F)(hm:fs.lookup ("matching_blocks":Str)=some .none)(hfm:fs.lookup ("find_longest_match":Str)=.none)(ha:fs.lookup ("a":Str)=some (.ref ra))(hb:fs.lookup ("b":Str)=some (.ref rb))(hD:fs.lookup ("b2j":Str)=some (.ref D))(hS:fs.lookup ("bjunk":Str)=some (.ref S))(hg:fs.lookup ("get_matching_blocks":Str)=.none)(hra:∀ o,(ra,O.list (as.map .int))∈F o)(hrb:∀ o,(rb,O.list (bs.map .int))∈F o)(hes:∀ o,(D,O.dict ep es)∈F o)(hks:∀ o,(S,O.set z ks)∈F o)(hidx:∀ o,DR (F o) es idx)(hpw:∀ v,(idx v).Pairwise (·<·))(hpn:∀ v,(idx v).length<=1000)(h5:as.length<128)(h6:bs.length<300)(hmin:∀ L,Blk (Bm as bs) (C7 as idx) (CU bs ks) 0 as.length 0 bs.length L->L.length<64/\((Bv as bs L).map (·.2.2)).sum<128)(hzf:fs.length<=90)(hps:aQ ps.toList)
  :AW c (AU (AM (AQ p) 225)) [("self",.ref x)] ((x,.inst 242 d)::(d,.ns fs)::F (.obj (tabObj ps))) fun f m' H'=>∃ r L ps',Blk (Bm as bs) (C7 as idx) (CU bs ks) 0 as.length 0 bs.length L/\aQ ps'.toList/\f=.ret (.float (Bj ((Bv as bs L).map (·.2.2)).sum (as.length+bs.length)))/\H'=(r,.list ((Bv as bs L).map (BZ 135)))::(x,.inst 242 d)::(d,.ns (("matching_blocks",.ref r)::fs))::F (.obj (tabObj ps')):=by
 have hn:=congrArg c0 hs
 conv at hn=>rhs;whnf
 have hC:=BM p
 have gl:An c "len" (.bi "len"):=B.len hn (by kernel_rfl)
 have gS:An c "sum" (.bi "sum"):=B.sum hn (by kernel_rfl)
 have gC:=IN p B hn (by kernel_rfl)
 have lSe:Lc c "self":=AG hn (by kernel_rfl)
 have lM:Lc c "matches":=AG hn (by kernel_rfl)
 have LB:LamBase c mg 224 220:=⟨G.glo,G.bm,G.code,hcd,B.g⟩
 have h5':as.length<=1000:=Yi (W7 h5) (by decide)
 have h6':bs.length<=1000:=Yi (W7 h6) (by decide)
 refine AB (Ad (Co ?_))
 refine AB (Ac (Ju gS LB B.lim (fun h hh=>LI (B.kin h hh) (GW p)) rfl rfl (by decide) rfl rfl (by decide) rfl (AO ((Pu.n lSe) _ ⟨_,_,A9 (K:=AQ p) (C:=242) (f:=203) B hC (by kernel_rfl) (by kernel_rfl) (.mem (.head _)) (.mem (.tail _ (.head _))) hg,AC ⟨Aq B (by kernel_rfl),Ao.cal (QE p hf B hm hfm ha hb hD hS (hra _) (hrb _) (hes _) (hks _) (hidx _) hpw hpn h5' h6' (fun L hL=>(hmin L hL).1) hzf fun r L hL=>⟨r,Bv as bs L,ps,_,rfl,.head _,Yi (W7 (hmin L hL).2) (by decide),.tail (.tail (.tail (sp _))),hps,fun ps' hps'=>AE lM.1 ?_⟩)⟩⟩)) rfl (fun _=>rfl)))
 have hS2:=(hmin L hL).2
 show AW c _ _ _ _
 refine AB (BG (AZ (BW gC (AA ((Pu.n lM) _ (AA (((Pu.addN (Pu.lenM gl (Pu.attr B hC (.mem (.tail _ (.head _))) (.mem (.tail _ (.tail _ (.head _)))) (by kernel_rfl) (.n lSe) ((AN (by decide)).trans ha)) (.mem (.tail _ (.tail _ (.tail _ (hra _))))) h5' (hE:=fun _ h=>AZ h)) (Pu.lenM gl (Pu.attr B hC (.mem (.tail _ (.head _))) (.mem (.tail _ (.tail _ (.head _)))) (by kernel_rfl) (.n lSe) ((AN (by decide)).trans hb)) (.mem (.tail _ (.tail _ (.tail _ (hrb _))))) h6' (hE:=fun _ h=>AZ h)))) _ (AC ⟨Aq B (by kernel_rfl),Ao.cal (ET p hf B hS2 (Vp (dR h5 h6) (by decide)) ⟨r,L,ps',hL,hps',rfl,rfl⟩)⟩))))))))
theorem Nc(p:cy){c:Ctx}{k:Nat}(hf:c.fuel=k+1+1+1+1+1)(B:Base c (AQ p)){mg:Str->Option VX}(G:RatB c mg){m:Lo}{Q:V->Lo->Hp->Prop}{F:O->Hp}{x d ra rb D S:Addr}{fs:List (Str×V)}{as bs:List Int}{ep:Nat}{es:List (IS×V)}{z:C8}{ks:List IS}{idx:Int->List Nat}{ps:Array VX}(sp:∀ o,DF 220 o (F o) F)(hm:fs.lookup ("matching_blocks":Str)=some .none)(hfm:fs.lookup ("find_longest_match":Str)=.none)(ha:fs.lookup ("a":Str)=some (.ref ra))(hb:fs.lookup ("b":Str)=some (.ref rb))(hD:fs.lookup ("b2j":Str)=some (.ref D))(hS:fs.lookup ("bjunk":Str)=some (.ref S))(hg:fs.lookup ("get_matching_blocks":Str)=.none)(hra:∀ o,(ra,O.list (as.map .int))∈F o)(hrb:∀ o,(rb,O.list (bs.map .int))∈F o)(hes:∀ o,(D,O.dict ep es)∈F o)(hks:∀ o,(S,O.set z ks)∈F o)(hidx:∀ o,DR (F o) es idx)(hpw:∀ v,(idx v).Pairwise (·<·))(hpn:∀ v,(idx v).length<=1000)(h5:as.length<128)(h6:bs.length<300)(hmin:∀ L,Blk (Bm as bs) (C7 as idx) (CU bs ks) 0 as.length 0 bs.length L->L.length<64/\((Bv as bs L).map (·.2.2)).sum<128)(hzf:fs.length<=90)(hps:aQ ps.toList)(h:∀ r L ps',Blk (Bm as bs) (C7 as idx) (CU bs ks) 0 as.length 0 bs.length L->aQ ps'.toList->Q (.float (Bj ((Bv as bs L).map (·.2.2)).sum (as.length+bs.length))) m ((r,.list ((Bv as bs L).map (BZ 135)))::(x,.inst 242 d)::(d,.ns (("matching_blocks",.ref r)::fs))::F (.obj (tabObj ps')))):Ao c (.ref 225) [.ref x] m ((x,.inst 242 d)::(d,.ns fs)::F (.obj (tabObj ps))) Q:=
 Di p hf B (by kernel_rfl) (by kernel_rfl) (by kernel_rfl) (fun _=>by kernel_rfl) (fun _=>by kernel_rfl) (fun _ _=>by kernel_rfl) fun L c2 hc hk B2=>
  AW.mono (Pg p c2 hk B2 (G.called hc) hc.scope (hc.code.trans (by kernel_rfl)) sp hm hfm ha hb hD hS hg hra hrb hes hks hidx hpw hpn h5 h6 hmin hzf hps) fun f m' H' q=>by
   obtain⟨r,L,ps',hL,hps',rfl,rfl⟩:=q
   exact⟨_,AI.refl _ _,h r L ps' hL hps'⟩
section
variable(p:cy){c:Ctx}{k:Nat}{m:Lo}{Q:V->Lo->Hp->Prop}{H:Hp}{x d:Addr}{fs:List (Str×V)}
theorem Rd(hf:c.fuel=k+1+1)(B:Base c (AQ p)){ra rb:Addr}{as bs:List Int}(ha:fs.lookup ("a":Str)=some (.ref ra))(hb:fs.lookup ("b":Str)=some (.ref rb))(hF:fs.lookup ("fullbcount":Str)=some .none)(hra:(ra,O.list (as.map .int))∈H)(hrb:(rb,O.list (bs.map .int))∈H)(h5:as.length<300)(h6:bs.length<300)(h7:as.length+bs.length<512)(hq7:EU as bs as.length<128)(hz:fs.length<=90)(h:∀ D ep es,DS es bs->Q (.float (Bj (EU as bs as.length) (as.length+bs.length))) m ((D,.dict ep es)::(x,.inst 242 d)::(d,.ns (("fullbcount",.ref D)::fs))::H)):Ao c (.ref 232) [.ref x] m ((x,.inst 242 d)::(d,.ns fs)::H) Q:=
 Di p hf B (by kernel_rfl) (by kernel_rfl) (by kernel_rfl) (fun _=>by kernel_rfl) (fun _=>by kernel_rfl) (fun _ _=>by kernel_rfl) fun L c2 hc hk B2=>
  AW.mono (TI p c2 hk B2 hc.scope ha hb hF hra hrb h5 h6 h7 hq7 hz) fun f m' H' q=>by
   obtain⟨rfl,D,ep,es,hc,hl⟩:=q
   exact⟨_,⟨(fun _ _ e=>nomatch e),hl.2⟩,h D ep es hc⟩
theorem Pi(hf:c.fuel=k+1+1)(B:Base c (AQ p)){ra rb fc:Addr}{as bs cs:List Int}{ep:Nat}{es:List (IS×V)}(hx:(x,O.inst 242 d)∈H)(hd:(d,O.ns fs)∈H)(ha:fs.lookup ("a":Str)=some (.ref ra))(hb:fs.lookup ("b":Str)=some (.ref rb))(hF:fs.lookup ("fullbcount":Str)=some (.ref fc))(hra:(ra,O.list (as.map .int))∈H)(hrb:(rb,O.list (bs.map .int))∈H)(hfc:(fc,O.dict ep es)∈H)(hcnt:DS es cs)(h5:as.length<300)(h6:bs.length<300)(h7:as.length+bs.length<512)(hq7:EU as cs as.length<128)(h:Q (.float (Bj (EU as cs as.length) (as.length+bs.length))) m H):Ao c (.ref 232) [.ref x] m H Q:=
 Di p hf B (by kernel_rfl) (by kernel_rfl) (by kernel_rfl) (fun _=>by kernel_rfl) (fun _=>by kernel_rfl) (fun _ _=>by kernel_rfl) fun L c2 hc hk B2=>
  AW.mono (Rc p c2 hk B2 hc.scope hx hd ha hb hF hra hrb hfc hcnt h5 h6 h7 hq7) fun f m' H' q=>by
   obtain⟨rfl,hl⟩:=q
   exact⟨_,⟨(fun _ _ e=>nomatch e),hl.2⟩,h⟩
theorem ME(hf:c.fuel=k+1+1+1)(B:Base c (AQ p)){ra rb:Addr}{ua ub:At}(hfa:fs.lookup ("a":Str)=some (.at ua))(hua:(V.at ua).notBi=true)(hne:CP ra ua H)(hfb:fs.lookup ("b":Str)=some (.at ub))(hub:(V.at ub).notBi=true)(hnb:CP rb ub H){bs:List IS}{J:V}{on:Bool}(hfj:fs.lookup ("isjunk":Str)=some J)(hfo:fs.lookup ("autojunk":Str)=some (.bool on))(hJb:J.notBi=true){jk:IS->Bool}{W:Hp}(hJ:BY c k J jk W)(hW:∀ p∈W,p∈H)(hrb:(rb,O.list (bs.map IS.v))∈H)(hfc:fs.lookup ("_SequenceMatcher__chain_b":Str)=.none)(h1:fs.lookup ("set_seq1":Str)=.none)(h2:fs.lookup ("set_seq2":Str)=.none)(hz:fs.length<=80)(hbi:∀ x∈bs,∃ n,x=IS.i n)(hbz:bs.length<=1000)(h:∀ D S S2 z1 z2 ep G,gP G=Lg bs->Q .none m ((S2,.set z2 (((G.filter fun e=>!jk e.1).filter (BB bs.length on)).map (·.1)))::(S,.set z1 ((G.map (·.1)).filter jk))::(D,.dict ep (gD ((G.filter fun e=>!jk e.1).filter fun e=>!BB bs.length on e)))::(x,.inst 242 d)::(d,.ns (("bpopular",.ref S2)::("bjunk",.ref S)::("b2j",.ref D)::("fullbcount",.none)::("opcodes",.none)::("matching_blocks",.none)::("b",.ref rb)::("opcodes",.none)::("matching_blocks",.none)::("a",.ref ra)::fs))::(gL G++H))):Ao c (.ref 167) [.ref x,.ref ra,.ref rb] m ((x,.inst 242 d)::(d,.ns fs)::H) Q:=by
 refine DE (fd:=AM (AQ p) 167) (bs:=c8 [("self":Str),"a","b"] [V.ref x,V.ref ra,V.ref rb]) B hf (Bs (by kernel_rfl)) (by kernel_rfl) (by kernel_rfl) (fun s vvs X r=>Ax rfl (fun vvs hl=>?_) s vvs X r) fun L c2 hc hk B2=>?_
 .exact RH (fun v0 v1 v2=>by kernel_rfl) vvs hl
 have e1:CY (AM (AQ p) 167).scope.names (c8 [("self":Str),"a","b"] [V.ref x,V.ref ra,V.ref rb])=[(("b":Str),V.ref rb),("a",V.ref ra),("self",V.ref x)]:=by kernel_rfl
 have e2:Aw L (AM (AQ p) 167) (c8 [("self":Str),"a","b"] [V.ref x,V.ref ra,V.ref rb])=[]:=by kernel_rfl
 rw[e1,e2]
 have hn:=congrArg c0 hc.scope
 conv at hn=>rhs;whnf
 have hC:=BM p
 have lSe:Lc c2 "self":=AG hn (by kernel_rfl)
 have lA:Lc c2 "a":=AG hn (by kernel_rfl)
 have lB:Lc c2 "b":=AG hn (by kernel_rfl)
 refine AB (Ad (Co ?_))
 refine AB (Ad (AO ((Pu.n lSe) _ ⟨_,_,A9 (K:=AQ p) (C:=242) (f:=174) B2 hC (by kernel_rfl) (by kernel_rfl) (.mem mS) (.mem (mT mS)) h1,AA ((Pu.n lA) _ (AC ⟨Aq B2 (by kernel_rfl),Ao.cal (GA p hk B2 hfa hua hne (Yi hz (by decide)) ?_)⟩))⟩)))
 refine AB (Ad (AO ((Pu.n lSe) _ ⟨_,_,A9 (K:=AQ p) (C:=242) (f:=181) B2 hC (by kernel_rfl) (by kernel_rfl) (.mem mS) (.mem (mT mS)) ((AN (by decide)).trans ((AN (by decide)).trans ((AN (by decide)).trans h2))),AA ((Pu.n lB) _ (AC ⟨Aq B2 (by kernel_rfl),Ao.cal (JD p hk B2 (fs:=("opcodes",.none)::("matching_blocks",.none)::("a",.ref ra)::fs) (ub:=ub) ?_ hub hnb ?_ ?_ hJb (hJ.called hc) hW hrb ?_ (Yi (da hz 3) (by decide)) hbi hbz fun D S S2 z1 z2 ep G hG=>AX (h D S S2 z1 z2 ep G hG))⟩))⟩)))
 .exact(AN (by decide)).trans ((AN (by decide)).trans ((AN (by decide)).trans hfb))
 .exact(AN (by decide)).trans ((AN (by decide)).trans ((AN (by decide)).trans hfj))
 .exact(AN (by decide)).trans ((AN (by decide)).trans ((AN (by decide)).trans hfo))
 .exact(AN (by decide)).trans ((AN (by decide)).trans ((AN (by decide)).trans hfc))
end
section
variable{q E:Nat->Nat->Bool}{d:Nat->Bool}{K:Nat}
end
theorem Tw{bs:List IS}{G:GL}(gi:IsGrp bs bs.length (gP G)){k:IS}:k∈G.map (·.1)↔k∈bs:=by
 rw[<- Ds,gi.mem,db]
 exact⟨fun t8=>t8.elim fun i t9=>t9.elim fun _ h=>⟨i,h⟩,fun t8=>t8.elim fun i h=>⟨i,(WX.mp h).1,h⟩⟩
noncomputable def Pj(bs:List Int)(v:Int):List Nat:=(Xn bs.length).filter fun i=>decide (bs[i]?=some v)
theorem LS{bs:List Int}{v:Int}{j:Nat}:j∈Pj bs v↔bs[j]?=some v:=by
 unfold Pj
 rw[cr,dH,decide_eq_true_eq]
 exact⟨fun h=>h.2,fun h=>⟨(WX.mp h).1,h⟩⟩
theorem Hb(v:Int):∀ bs:List Int,(Pj bs v).length=bs.count v
 | []=>rfl
 | b::bs=>by
  have e:((List.map Nat.succ (Xn bs.length)).filter fun i=>decide ((b::bs)[i]?=some v)).length=bs.count v:=by
   rw[c9,V8,<- Hb v bs];rfl
  unfold Pj
  rw[bT,List.range_succ_eq_map,Wu,List.count_cons]
  by_cases h:b=v
  .subst h;simp[e]
  .simp[h,e]
noncomputable def Nf(bs:List Int)(on:Bool)(v:Int):Bool:=on&&decide (200<=bs.length)&&decide (bs.length / 100+1<bs.count v)
noncomputable def HL(bs:List Int)(jk:Int->Bool)(on:Bool)(v:Int):List Nat:=if jk v || Nf bs on v then [] else Pj bs v
theorem P7(bs:List Int)(jk:Int->Bool)(on:Bool)(v:Int):(HL bs jk on v).Pairwise (·<·):=by
 unfold HL;split
 .exact .nil
 .exact List.Pairwise.filter _ Yw
theorem OP(bs:List Int)(jk:Int->Bool)(on:Bool)(v:Int)(h:bs.length<=1000):(HL bs jk on v).length<=1000:=by
 unfold HL;split
 .exact WJ _
 .exact Yi (aX _ _) (by rw[dT];exact h)
theorem Jq{bs:List Int}{j:Nat}{v:Int}(h:j<bs.length):bs[j]?=some v↔v=bs.getD j 0:=by
 rw[Z6 h,dc,Z6 h,Option.getD_some,Yy]
 exact eq_comm
theorem Sa(as bs:List Int)(jk:Int->Bool)(on:Bool)(i j:Nat)(hj:j<bs.length):C7 as (HL bs jk on) i j=(decide (as.getD i 0=bs.getD j 0)&&!(jk (as.getD i 0) || Nf bs on (as.getD i 0))):=by
 show decide _=_
 unfold HL
 cases jk (as.getD i 0) || Nf bs on (as.getD i 0) with
 | true=>simp
 | false=>
  rw[if_neg (by decide),Bool.not_false,Bool.and_true,decide_eq_decide,LS]
  exact Jq hj
theorem IX{G:GL}{k:IS}(h:k∈G.map (·.1)):∃ e∈G,e.1=k/\dictAt (gD G) k=some (.ref e.2.1):=by
 obtain⟨G1,a,ps,G2,rfl,h1⟩:=HV h
 exact⟨_,W9.mpr (.inr mS),rfl,D1 h1⟩
section
variable{bs:List Int}{jk:Int->Bool}{on:Bool}{G:GL}{jk':IS->Bool}
theorem Lf(gi:IsGrp (bs.map IS.i) (bs.map IS.i).length (gP G)){e:IS×Addr×List Int}(he:e∈G){v:Int}(hv:e.1=.i v):e.2.2=(Pj bs v).map fun (n:Nat)=>(n:Int):=by
 have:=gi.at_ (e.1,e.2.2) (Vm.mpr ⟨e,he,rfl⟩)
 rw[show e.2.2=By _ _ _ from this]
 unfold By Pj
 rw[hv,V8]
 congr 1
 refine cu fun i _=>?_
 rw[decide_eq_decide,Zu]
 cases bs[i]? with
 | none=>simp
 | some w=>simp
theorem Le(gi:IsGrp (bs.map IS.i) (bs.map IS.i).length (gP G)){e:IS×Addr×List Int}(he:e∈G){v:Int}(hv:e.1=.i v):BB (bs.map IS.i).length on e=Nf bs on v:=by
 unfold BB Nf
 rw[Lf gi he hv,V8,V8,Hb]
theorem OO(hG:gP G=Lg (bs.map IS.i))(hjk:∀ v:Int,jk' (.i v)=jk v){H:Hp}(hL:∀ q∈gL G,q∈H):DR H (gD ((G.filter fun e=>!jk' e.1).filter fun e=>!BB (bs.map IS.i).length on e)) (HL bs jk on):=fun v=>by
 have gi:IsGrp (bs.map IS.i) (bs.map IS.i).length (gP G):=by rw[hG];exact Q3 _
 by_cases h:IS.i v∈(((G.filter fun e=>!jk' e.1).filter fun e=>!BB (bs.map IS.i).length on e)).map (·.1)
 .obtain⟨e,he,hv,hd⟩:=IX h
  rw[cr,cr]at he
  obtain⟨⟨h1,h2⟩,h3⟩:=he
  rw[Le gi h1 hv]at h3
  rw[hv,hjk]at h2
  refine .inr ⟨e.2.1,hd,?_⟩
  have:=hL _ (OX h1)
  rw[Lf gi h1 hv,XC]at this
  unfold HL
  rw[if_neg (by simpa using⟨by simpa using h2,by simpa using h3⟩)]
  exact this
 .refine .inl ⟨Dg h,?_⟩
  unfold HL
  split
  .rfl
  .rename_i q
   rw[ZB,not_or]at q
   unfold Pj
   rw[aW]
   intro i _ hi
   have hm:IS.i v∈bs.map IS.i:=Vm.mpr ⟨v,db.mpr ⟨i,of_decide_eq_true hi⟩,rfl⟩
   obtain⟨e,he,hv⟩:=Vm.mp ((Tw gi).mpr hm)
   refine h (Vm.mpr ⟨e,?_,hv⟩)
   rw[cr,cr,Le gi he hv,hv,hjk]
   exact⟨⟨he,by simpa using q.1⟩,by simpa using q.2⟩
end
section
variable{q E:Nat->Nat->Bool}{d:Nat->Bool}
theorem Fk{alo ahi blo bhi i j k:Nat}(hE:∀ x y,E x y=true->q x y=true)(h1:alo<=ahi)(h2:blo<=bhi)(h:EI q (DT E alo ahi blo bhi) d alo ahi blo bhi i j k) :
  (∀ t,t<k->q (i+t) (j+t)=true)/\∀ x y n,(∀ t,t<n->E (x+t) (y+t)=true)->alo<=x->x+n<=ahi->blo<=y->y+n<=bhi->n<=k:=by
 obtain⟨bi,bj,bz,l,r,hb,hl,hr,rfl,rfl,rfl⟩:=h
 obtain⟨a1,a2,a3,a4⟩:=Lu h1 h2 hb
 obtain⟨b1,b2⟩:=Nm hl.1 a1 a3
 refine⟨fun t ht=>?_,fun x y n hn x1 x2 y1 y2=>?_⟩
 .rcases Yp t l with z|z
  .have:=(C2.mp (hl.1.1 (l-1-t) (by exact AJ 2 (.t Y0 Y1) (.t (.s (.s Y1 N1) Y0) Y1) [_,_] z))).2.2
   rwa [show bi-1-(l-1-t)=bi-l+t by exact AL 4 (.l (.a Y0 Y1) Y2) (.t Y3 Y1) (.e (.s (.s Y2 N1) (.s (.s Y1 N1) Y3)) (.a (.s Y2 Y1) Y3)) [_,_,_,_] b1 z,show bj-1-(l-1-t)=bj-l+t by exact AL 4 (.l (.a Y0 Y1) Y2) (.t Y3 Y1) (.e (.s (.s Y2 N1) (.s (.s Y1 N1) Y3)) (.a (.s Y2 Y1) Y3)) [_,_,_,_] b2 z]at this
  .rcases Yp t (l+bz) with z2|z2
   .have:=hE _ _ (C9.mp (hb.run (t-l) (by exact AL 3 (.l Y0 Y1) (.t Y1 (.a Y0 Y2)) (.t (.s Y1 Y0) Y2) [_,_,_] z z2))).2.2.2.2
    rwa [show bi+(t-l)=bi-l+t by exact AL 4 (.l (.a Y0 Y1) Y2) (.l Y1 Y3) (.e (.a Y2 (.s Y3 Y1)) (.a (.s Y2 Y1) Y3)) [_,_,_,_] b1 z,show bj+(t-l)=bj-l+t by exact AL 4 (.l (.a Y0 Y1) Y2) (.l Y1 Y3) (.e (.a Y2 (.s Y3 Y1)) (.a (.s Y2 Y1) Y3)) [_,_,_,_] b2 z]at this
   .have:=(Dt.mp (hr.1.1 (t-l-bz) (by exact AL 4 (.t Y0 (.a (.a Y1 Y2) Y3)) (.l (.a Y1 Y2) Y0) (.t (.s (.s Y0 Y1) Y2) Y3) [_,_,_,_] ht z2))).2.2
    rwa [show bi+bz+(t-l-bz)=bi-l+t by exact AL 5 (.l (.a Y0 Y1) Y2) (.l (.a Y1 Y3) Y4) (.e (.a (.a Y2 Y3) (.s (.s Y4 Y1) Y3)) (.a (.s Y2 Y1) Y4)) [_,_,_,_,_] b1 z2,show bj+bz+(t-l-bz)=bj-l+t by exact AL 5 (.l (.a Y0 Y1) Y2) (.l (.a Y1 Y3) Y4) (.e (.a (.a Y2 Y3) (.s (.s Y4 Y1) Y3)) (.a (.s Y2 Y1) Y4)) [_,_,_,_,_] b2 z2]at this
 .rcases Zj n with z|z
  .exact AJ 4 (.e Y0 (.n 0)) (.l Y0 (.a (.a Y1 Y2) Y3)) [_,_,_,_] z
  .have w:∀ t,t<n->DT E alo ahi blo bhi (x+t) (y+t)=true:=fun t ht=>C9.mpr ⟨by exact AJ 3 (.l Y0 Y1) (.l Y0 (.a Y1 Y2)) [_,_,_] x1,by exact AL 4 (.l (.a Y0 Y1) Y2) (.t Y3 Y1) (.t (.a Y0 Y3) Y2) [_,_,_,_] x2 ht,by exact AJ 3 (.l Y0 Y1) (.l Y0 (.a Y1 Y2)) [_,_,_] y1,by exact AL 4 (.l (.a Y0 Y1) Y2) (.t Y3 Y1) (.t (.a Y0 Y3) Y2) [_,_,_,_] y2 ht,hn t ht⟩
   have:=hb.most (x+n-1) (y+n-1) n (by have:=w (n-1) (by exact AJ 1 (.t (.n 0) Y0) (.t (.s Y0 N1) Y0) [_] z);rwa [show x+(n-1)=x+n-1 by exact AJ 2 (.t (.n 0) Y0) (.e (.a Y1 (.s Y0 N1)) (.s (.a Y1 Y0) N1)) [_,_] z,show y+(n-1)=y+n-1 by exact AJ 2 (.t (.n 0) Y0) (.e (.a Y1 (.s Y0 N1)) (.s (.a Y1 Y0) N1)) [_,_] z]at this) (by exact Bh 2 (.l Y0 (.a (.s (.a Y1 Y0) N1) N1)) [_,_]) (by exact Bh 2 (.l Y0 (.a (.s (.a Y1 Y0) N1) N1)) [_,_]) (fun t ht=>by
    have:=w t ht
    rwa [show x+n-1+1-n+t=x+t by exact AJ 3 (.t (.n 0) Y0) (.e (.a (.s (.a (.s (.a Y1 Y0) N1) N1) Y0) Y2) (.a Y1 Y2)) [_,_,_] z,show y+n-1+1-n+t=y+t by exact AJ 3 (.t Y0 Y1) (.e (.a (.s (.a (.s (.a Y2 Y1) N1) N1) Y1) Y0) (.a Y2 Y0)) [_,_,_] ht])
   exact AJ 4 (.l Y0 Y1) (.l Y0 (.a (.a Y2 Y1) Y3)) [_,_,_,_] this
end
noncomputable def cw(a:Nat->Int)(v:Int)(lo:Nat):Nat->Nat
 | 0=>0
 | n+1=>cw a v lo n+if a (lo+n)=v then 1 else 0
theorem DL(a:Nat->Int)(v:Int)(lo n:Nat):cw a v lo (n+1)=cw a v lo n+if a (lo+n)=v then 1 else 0:=rfl
theorem Gq(a:Nat->Int)(v:Int)(lo n:Nat):∀ m,cw a v lo (n+m)=cw a v lo n+cw a v (lo+n) m
 | 0=>rfl
 | m+1=>by rw[<- dd,DL,Gq a v lo n m,DL,dd,dd lo n m]
theorem Dh{a:Nat->Int}{v:Int}{lo:Nat}:∀ {n},0<cw a v lo n->∃ x,lo<=x/\x<lo+n/\a x=v
 | 0,h=>absurd h (WK 0)
 | n+1,h=>by
  rw[DL]at h
  by_cases q:a (lo+n)=v
  .exact⟨lo+n,W5 _ _,by exact Bh 2 (.t (.a Y0 Y1) (.a Y0 (.a Y1 N1))) [_,_],q⟩
  .rw[if_neg q,cA]at h
   obtain⟨x,h1,h2,h3⟩:=Dh h
   exact⟨x,h1,by exact AJ 3 (.t Y0 (.a Y1 Y2)) (.t Y0 (.a Y1 (.a Y2 N1))) [_,_,_] h2,h3⟩
theorem Op{a:Nat->Int}{v:Int}{lo:Nat}:∀ {n x},lo<=x->x<lo+n->a x=v->0<cw a v lo n
 | 0,x,h1,h2,_=>absurd h1 (by exact AJ 2 (.t Y0 (.a Y1 (.n 0))) (.no (.l Y1 Y0)) [_,_] h2)
 | n+1,x,h1,h2,h3=>by
  rw[DL]
  rcases Yp x (lo+n) with q|q
  .exact Vp (Op h1 q h3) (W5 _ _)
  .rw[show lo+n=x by exact AL 3 (.t Y0 (.a Y1 (.a Y2 N1))) (.l (.a Y1 Y2) Y0) (.e (.a Y1 Y2) Y0) [_,_,_] h2 q,if_pos h3];exact Bh 1 (.t (.n 0) (.a Y0 N1)) [_]
theorem Lm{a b:Nat->Int}{v:Int}{i j:Nat}:∀ {k},(∀ t,t<k->a (i+t)=b (j+t))->cw a v i k=cw b v j k
 | 0,_=>rfl
 | k+1,h=>by rw[DL,DL,Lm fun t ht=>h t (Ye ht),h k (Z3 k)]
theorem MS{aL aR bL bR m:Nat}(h1:0<m->(aL=0∨bL=0)/\(aR=0∨bR=0)/\(aR=0∨bL=0)/\(aL=0∨bR=0))(h0:m=0->(aR=0/\bR=0)∨(aL=0/\bL=0)) :
  min (aL+(m+aR)) (bL+(m+bR))=min aL bL+(m+min aR bR):=by
 rcases Zj m with z|z
 .rw[z,cE,cE,cE]
  rcases h0 z with ⟨e1,e2⟩|⟨e1,e2⟩
  .rw[e1,e2];rfl
  .rw[e1,e2,cE,cE,Nat.min_self,cE]
 .obtain⟨p1,p2,p3,p4⟩:=h1 z
  have key:(aL=0/\aR=0)∨(bL=0/\bR=0):=p1.elim (fun a=>p2.elim (fun b=>.inl ⟨a,b⟩) fun b=>p3.elim (fun c=>.inl ⟨a,c⟩) fun c=>.inr ⟨c,b⟩) fun b=>p4.elim (fun a=>p2.elim (fun c=>.inl ⟨a,c⟩) fun c=>.inr ⟨b,c⟩) fun c=>.inr ⟨b,c⟩
  rcases key with ⟨e1,e2⟩|⟨e1,e2⟩
  .rw[e1,e2,Nat.zero_min,Nat.zero_min,cE,cA]
   exact VT (Yi (W5 m bR) (Nat.le_add_left _ _))
  .rw[e1,e2,Nat.min_zero,Nat.min_zero,cE,cA]
   exact VU (Yi (W5 m aR) (Nat.le_add_left _ _))
noncomputable def MA(a:Nat->Int)(v:Int)(L:List Tri):Nat:=(L.map fun x=>cw a v x.1 x.2.2).sum
section
variable{a b:Nat->Int}{na nb:Nat}{q E:Nat->Nat->Bool}{d:Nat->Bool}
structure SortQ(a b:Nat->Int)(na nb:Nat)(q E:Nat->Nat->Bool):Prop where
 ha:∀ x y,x<=y->y<na->a x<=a y
 hb:∀ x y,x<=y->y<nb->b x<=b y
 hq:∀ x y,q x y=true->a x=b y
 hE:∀ x y,x<na->y<nb->a x=b y->E x y=true
 hEq:∀ x y,E x y=true->q x y=true
theorem Ht(S:SortQ a b na nb q E){alo ahi blo bhi i j k:Nat}(h1:alo<=ahi)(h2:blo<=bhi)(h3:ahi<=na)(h4:bhi<=nb)(h:EI q (DT E alo ahi blo bhi) d alo ahi blo bhi i j k)(hk:0<k){v:Int} :
  (∀ x y t,x<i->alo<=x->t<k->a x=v->blo<=y->y<j->b y=v->a (i+t)=v->False) /\
  (∀ x y t,i+k<=x->x<ahi->t<k->a x=v->j+k<=y->y<bhi->b y=v->a (i+t)=v->False) /\
  (∀ x y t,i+k<=x->x<ahi->t<k->a x=v->blo<=y->y<j->b y=v->a (i+t)=v->False) /\
  (∀ x y t,alo<=x->x<i->t<k->a x=v->j+k<=y->y<bhi->b y=v->a (i+t)=v->False):=by
 obtain⟨run,mx⟩:=Fk S.hEq h1 h2 h
 obtain⟨w1,w2,w3,w4⟩:=Ec h1 h2 h
 have eqv:∀ t,t<k->a (i+t)=b (j+t):=fun t ht=>S.hq _ _ (run t ht)
 have long:∀ x y,alo<=x->x+(k+1)<=ahi->blo<=y->y+(k+1)<=bhi->(∀ t,t<k+1->a (x+t)=b (y+t))->False:=fun x y p1 p2 p3 p4 p5=>by
  have:=mx x y (k+1) (fun t ht=>S.hE _ _ (by exact Be 5 (.l Y0 Y1) (.l (.a Y2 (.a Y3 N1)) Y0) (.t Y4 (.a Y3 N1)) (.t (.a Y2 Y4) Y1) [_,_,_,_,_] h3 p2 ht) (by exact Be 5 (.l Y0 Y1) (.l (.a Y2 (.a Y3 N1)) Y0) (.t Y4 (.a Y3 N1)) (.t (.a Y2 Y4) Y1) [_,_,_,_,_] h4 p4 ht) (p5 t ht)) p1 p2 p3 p4
  exact AJ 1 (.l (.a Y0 N1) Y0) .f [_] this
 refine⟨fun x y t p1 p2 p3 p4 p5 p6 p7 p8=>?_,fun x y t p1 p2 p3 p4 p5 p6 p7 p8=>?_,fun x y t p1 p2 p3 p4 p5 p6 p7 p8=>?_,fun x y t p1 p2 p3 p4 p5 p6 p7 p8=>?_⟩
 .-- before both
  have ea:a (i-1)=v:=b9 (p8▸S.ha _ _ (by exact Bh 2 (.l (.s Y0 N1) (.a Y0 Y1)) [_,_]) (by exact Be 5 (.l Y0 Y1) (.l (.a Y2 Y3) Y0) (.t Y4 Y3) (.t (.a Y2 Y4) Y1) [_,_,_,_,_] h3 w2 p3)) (p4▸S.ha _ _ (by exact AJ 2 (.t Y0 Y1) (.l Y0 (.s Y1 N1)) [_,_] p1) (by exact Be 5 (.l Y0 Y1) (.l (.a Y2 Y3) Y0) (.t Y4 Y3) (.t (.s Y2 N1) Y1) [_,_,_,_,_] h3 w2 p3))
  have eb:b (j-1)=v:=b9 (p8▸eqv t p3▸S.hb _ _ (by exact Bh 2 (.l (.s Y0 N1) (.a Y0 Y1)) [_,_]) (by exact Be 5 (.l Y0 Y1) (.l (.a Y2 Y3) Y0) (.t Y4 Y3) (.t (.a Y2 Y4) Y1) [_,_,_,_,_] h4 w4 p3)) (p7▸S.hb _ _ (by exact AJ 2 (.t Y0 Y1) (.l Y0 (.s Y1 N1)) [_,_] p6) (by exact Be 5 (.l Y0 Y1) (.l (.a Y2 Y3) Y0) (.t Y4 Y2) (.t (.s Y2 N1) Y1) [_,_,_,_,_] h4 w4 p6))
  refine long (i-1) (j-1) (by exact AL 3 (.t Y0 Y1) (.l Y2 Y0) (.l Y2 (.s Y1 N1)) [_,_,_] p1 p2) (by exact AL 4 (.l (.a Y0 Y1) Y2) (.t Y3 Y0) (.l (.a (.s Y0 N1) (.a Y1 N1)) Y2) [_,_,_,_] w2 p1) (by exact AL 3 (.l Y0 Y1) (.t Y1 Y2) (.l Y0 (.s Y2 N1)) [_,_,_] p5 p6) (by exact AL 4 (.l (.a Y0 Y1) Y2) (.t Y3 Y0) (.l (.a (.s Y0 N1) (.a Y1 N1)) Y2) [_,_,_,_] w4 p6) fun s hs=>?_
  rcases Zj s with z|z
  .subst z;rw[cA,cA,ea,eb]
  .have:=eqv (s-1) (by exact AL 2 (.t Y0 (.a Y1 N1)) (.t (.n 0) Y0) (.t (.s Y0 N1) Y1) [_,_] hs z)
   rwa [show i+(s-1)=i-1+s by exact AL 3 (.t Y0 Y1) (.t (.n 0) Y2) (.e (.a Y1 (.s Y2 N1)) (.a (.s Y1 N1) Y2)) [_,_,_] p1 z,show j+(s-1)=j-1+s by exact AL 3 (.t Y0 Y1) (.t (.n 0) Y2) (.e (.a Y1 (.s Y2 N1)) (.a (.s Y1 N1) Y2)) [_,_,_] p6 z]at this
 .-- behind both
  have ea:a (i+k)=v:=b9 (p4▸S.ha _ _ (by exact AJ 3 (.l (.a Y0 Y1) Y2) (.l (.a Y0 Y1) Y2) [_,_,_] p1) (by exact AL 3 (.l Y0 Y1) (.t Y2 Y0) (.t Y2 Y1) [_,_,_] h3 p2)) (p8▸S.ha _ _ (by exact AJ 3 (.t Y0 Y1) (.l (.a Y2 Y0) (.a Y2 Y1)) [_,_,_] p3) (by exact Be 5 (.l Y0 Y1) (.l (.a Y2 Y3) Y4) (.t Y4 Y0) (.t (.a Y2 Y3) Y1) [_,_,_,_,_] h3 p1 p2))
  have eb:b (j+k)=v:=b9 (p7▸S.hb _ _ (by exact AJ 3 (.l (.a Y0 Y1) Y2) (.l (.a Y0 Y1) Y2) [_,_,_] p5) (by exact AL 3 (.l Y0 Y1) (.t Y2 Y0) (.t Y2 Y1) [_,_,_] h4 p6)) (p8▸eqv t p3▸S.hb _ _ (by exact AJ 3 (.t Y0 Y1) (.l (.a Y2 Y0) (.a Y2 Y1)) [_,_,_] p3) (by exact Be 5 (.l Y0 Y1) (.l (.a Y2 Y3) Y4) (.t Y4 Y0) (.t (.a Y2 Y3) Y1) [_,_,_,_,_] h4 p5 p6))
  refine long i j (by exact AJ 2 (.l Y0 Y1) (.l Y0 Y1) [_,_] w1) (by exact AL 4 (.l (.a Y0 Y1) Y2) (.t Y2 Y3) (.l (.a Y0 (.a Y1 N1)) Y3) [_,_,_,_] p1 p2) (by exact AJ 2 (.l Y0 Y1) (.l Y0 Y1) [_,_] w3) (by exact AL 4 (.l (.a Y0 Y1) Y2) (.t Y2 Y3) (.l (.a Y0 (.a Y1 N1)) Y3) [_,_,_,_] p5 p6) fun s hs=>?_
  rcases Yp s k with z|z
  .exact eqv s z
  .rw[show s=k by exact AL 2 (.t Y0 (.a Y1 N1)) (.l Y1 Y0) (.e Y0 Y1) [_,_] hs z,ea,eb]
 .-- behind in a,before in b: all is v
  have ev:∀ s,s<k->b (j+s)=v:=fun s hs=>by
   refine b9 ?_ (p7▸S.hb _ _ (by exact AJ 3 (.t Y0 Y1) (.l Y0 (.a Y1 Y2)) [_,_,_] p6) (by exact Be 5 (.l Y0 Y1) (.l (.a Y2 Y3) Y0) (.t Y4 Y3) (.t (.a Y2 Y4) Y1) [_,_,_,_,_] h4 w4 hs))
   rw[<- eqv s hs];exact p4▸S.ha _ _ (by exact AL 4 (.l (.a Y0 Y1) Y2) (.t Y3 Y1) (.l (.a Y0 Y3) Y2) [_,_,_,_] p1 hs) (by exact AL 3 (.l Y0 Y1) (.t Y2 Y0) (.t Y2 Y1) [_,_,_] h3 p2)
  have ea:a (i+k)=v:=b9 (p4▸S.ha _ _ (by exact AJ 3 (.l (.a Y0 Y1) Y2) (.l (.a Y0 Y1) Y2) [_,_,_] p1) (by exact AL 3 (.l Y0 Y1) (.t Y2 Y0) (.t Y2 Y1) [_,_,_] h3 p2)) (p8▸S.ha _ _ (by exact AJ 3 (.t Y0 Y1) (.l (.a Y2 Y0) (.a Y2 Y1)) [_,_,_] p3) (by exact Be 5 (.l Y0 Y1) (.l (.a Y2 Y3) Y4) (.t Y4 Y0) (.t (.a Y2 Y3) Y1) [_,_,_,_,_] h3 p1 p2))
  have eb:b (j-1)=v:=b9 (ev 0 hk▸S.hb _ _ (by exact Bh 1 (.l (.s Y0 N1) (.a Y0 (.n 0))) [_]) (by exact Be 4 (.l Y0 Y1) (.t (.n 0) Y2) (.l (.a Y3 Y2) Y0) (.t (.a Y3 (.n 0)) Y1) [_,_,_,_] h4 hk w4)) (p7▸S.hb _ _ (by exact AJ 2 (.t Y0 Y1) (.l Y0 (.s Y1 N1)) [_,_] p6) (by exact Be 5 (.l Y0 Y1) (.l (.a Y2 Y3) Y0) (.t Y4 Y2) (.t (.s Y2 N1) Y1) [_,_,_,_,_] h4 w4 p6))
  refine long i (j-1) (by exact AJ 2 (.l Y0 Y1) (.l Y0 Y1) [_,_] w1) (by exact AL 4 (.l (.a Y0 Y1) Y2) (.t Y2 Y3) (.l (.a Y0 (.a Y1 N1)) Y3) [_,_,_,_] p1 p2) (by exact AL 3 (.l Y0 Y1) (.t Y1 Y2) (.l Y0 (.s Y2 N1)) [_,_,_] p5 p6) (by exact AL 4 (.l (.a Y0 Y1) Y2) (.t Y3 Y0) (.l (.a (.s Y0 N1) (.a Y1 N1)) Y2) [_,_,_,_] w4 p6) fun s hs=>?_
  have e1:a (i+s)=v:=by
   rcases Yp s k with z|z
   .rw[eqv s z,ev s z]
   .rw[show s=k by exact AL 2 (.t Y0 (.a Y1 N1)) (.l Y1 Y0) (.e Y0 Y1) [_,_] hs z,ea]
  have e2:b (j-1+s)=v:=by
   rcases Zj s with z|z
   .rw[z,cA,eb]
   .have:=ev (s-1) (by exact AL 2 (.t Y0 (.a Y1 N1)) (.t (.n 0) Y0) (.t (.s Y0 N1) Y1) [_,_] hs z)
    rwa [show j+(s-1)=j-1+s by exact AL 3 (.t Y0 Y1) (.t (.n 0) Y2) (.e (.a Y1 (.s Y2 N1)) (.a (.s Y1 N1) Y2)) [_,_,_] p6 z]at this
  rw[e1,e2]
 .have ev:∀ s,s<k->a (i+s)=v:=fun s hs=>by
   refine b9 ?_ (p4▸S.ha _ _ (by exact AJ 3 (.t Y0 Y1) (.l Y0 (.a Y1 Y2)) [_,_,_] p2) (by exact Be 5 (.l Y0 Y1) (.l (.a Y2 Y3) Y0) (.t Y4 Y3) (.t (.a Y2 Y4) Y1) [_,_,_,_,_] h3 w2 hs))
   rw[eqv s hs];exact p7▸S.hb _ _ (by exact AL 4 (.l (.a Y0 Y1) Y2) (.t Y3 Y1) (.l (.a Y0 Y3) Y2) [_,_,_,_] p5 hs) (by exact AL 3 (.l Y0 Y1) (.t Y2 Y0) (.t Y2 Y1) [_,_,_] h4 p6)
  have eb:b (j+k)=v:=b9 (p7▸S.hb _ _ (by exact AJ 3 (.l (.a Y0 Y1) Y2) (.l (.a Y0 Y1) Y2) [_,_,_] p5) (by exact AL 3 (.l Y0 Y1) (.t Y2 Y0) (.t Y2 Y1) [_,_,_] h4 p6)) (p8▸eqv t p3▸S.hb _ _ (by exact AJ 3 (.t Y0 Y1) (.l (.a Y2 Y0) (.a Y2 Y1)) [_,_,_] p3) (by exact Be 5 (.l Y0 Y1) (.l (.a Y2 Y3) Y4) (.t Y4 Y0) (.t (.a Y2 Y3) Y1) [_,_,_,_,_] h4 p5 p6))
  have ea:a (i-1)=v:=b9 (ev 0 hk▸S.ha _ _ (by exact Bh 1 (.l (.s Y0 N1) (.a Y0 (.n 0))) [_]) (by exact Be 4 (.l Y0 Y1) (.t (.n 0) Y2) (.l (.a Y3 Y2) Y0) (.t (.a Y3 (.n 0)) Y1) [_,_,_,_] h3 hk w2)) (p4▸S.ha _ _ (by exact AJ 2 (.t Y0 Y1) (.l Y0 (.s Y1 N1)) [_,_] p2) (by exact Be 5 (.l Y0 Y1) (.l (.a Y2 Y3) Y0) (.t Y4 Y3) (.t (.s Y2 N1) Y1) [_,_,_,_,_] h3 w2 p3))
  refine long (i-1) j (by exact AL 3 (.l Y0 Y1) (.t Y1 Y2) (.l Y0 (.s Y2 N1)) [_,_,_] p1 p2) (by exact AL 4 (.l (.a Y0 Y1) Y2) (.t Y3 Y0) (.l (.a (.s Y0 N1) (.a Y1 N1)) Y2) [_,_,_,_] w2 p2) (by exact AJ 2 (.l Y0 Y1) (.l Y0 Y1) [_,_] w3) (by exact AL 4 (.l (.a Y0 Y1) Y2) (.t Y2 Y3) (.l (.a Y0 (.a Y1 N1)) Y3) [_,_,_,_] p5 p6) fun s hs=>?_
  have e1:b (j+s)=v:=by
   rcases Yp s k with z|z
   .rw[<- eqv s z,ev s z]
   .rw[show s=k by exact AL 2 (.t Y0 (.a Y1 N1)) (.l Y1 Y0) (.e Y0 Y1) [_,_] hs z,eb]
  have e2:a (i-1+s)=v:=by
   rcases Zj s with z|z
   .rw[z,cA,ea]
   .have:=ev (s-1) (by exact AL 2 (.t Y0 (.a Y1 N1)) (.t (.n 0) Y0) (.t (.s Y0 N1) Y1) [_,_] hs z)
    rwa [show i+(s-1)=i-1+s by exact AL 3 (.t Y0 Y1) (.t (.n 0) Y2) (.e (.a Y1 (.s Y2 N1)) (.a (.s Y1 N1) Y2)) [_,_,_] p2 z]at this
  rw[e1,e2]
theorem Lp(S:SortQ a b na nb q E){alo ahi blo bhi:Nat}{L:List Tri}(h:Blk q E d alo ahi blo bhi L)(v:Int):alo<=ahi->blo<=bhi->ahi<=na->bhi<=nb->MA a v L=min (cw a v alo (ahi-alo)) (cw b v blo (bhi-blo)):=by
 induction h using Blk.ind with
 | @none alo ahi blo bhi i j hf=>
  intro h1 h2 h3 h4
  obtain⟨_,mx⟩:=Fk S.hEq h1 h2 hf
  show 0=_
  rcases Zj (cw a v alo (ahi-alo)) with z|z
  .exact AJ 2 (.e Y0 (.n 0)) (.e (.n 0) (.mn Y0 Y1)) [_,_] z
  .rcases Zj (cw b v blo (bhi-blo)) with z2|z2
   .exact AJ 2 (.e Y0 (.n 0)) (.e (.n 0) (.mn Y1 Y0)) [_,_] z2
   .obtain⟨x,x1,x2,x3⟩:=Dh z
    obtain⟨y,y1,y2,y3⟩:=Dh z2
    have:=mx x y 1 (fun t ht=>by rw[bN.mp ht];exact S.hE _ _ (by exact Be 4 (.l Y0 Y1) (.l Y1 Y2) (.t Y3 (.a Y0 (.s Y1 Y0))) (.t (.a Y3 (.n 0)) Y2) [_,_,_,_] h1 h3 x2) (by exact Be 4 (.l Y0 Y1) (.l Y1 Y2) (.t Y3 (.a Y0 (.s Y1 Y0))) (.t (.a Y3 (.n 0)) Y2) [_,_,_,_] h2 h4 y2) (x3.trans y3.symm)) x1 (by exact AL 3 (.l Y0 Y1) (.t Y2 (.a Y0 (.s Y1 Y0))) (.l (.a Y2 N1) Y1) [_,_,_] h1 x2) y1 (by exact AL 3 (.l Y0 Y1) (.t Y2 (.a Y0 (.s Y1 Y0))) (.l (.a Y2 N1) Y1) [_,_,_] h2 y2)
    exact AJ 2 (.l N1 (.n 0)) (.e (.n 0) (.mn Y0 Y1)) [_,_] this
 | @some alo ahi blo bhi i j k L1 L2 hf hk _ _ ih1 ih2=>
  intro h1 h2 h3 h4
  obtain⟨w1,w2,w3,w4⟩:=Ec h1 h2 hf
  have run:=(Fk S.hEq h1 h2 hf).1
  have e1:=ih1 w1 w3 (by exact AL 4 (.l Y0 Y1) (.l (.a Y2 Y3) Y0) (.l Y2 Y1) [_,_,_,_] h3 w2) (by exact AL 4 (.l Y0 Y1) (.l (.a Y2 Y3) Y0) (.l Y2 Y1) [_,_,_,_] h4 w4)
  have e2:=ih2 w2 w4 h3 h4
  have ea:cw a v alo (ahi-alo)=cw a v alo (i-alo)+(cw a v i k+cw a v (i+k) (ahi-(i+k))):=by
   rw[show ahi-alo=(i-alo)+(k+(ahi-(i+k))) by exact AL 4 (.l Y0 Y1) (.l (.a Y1 Y2) Y3) (.e (.s Y3 Y0) (.a (.s Y1 Y0) (.a Y2 (.s Y3 (.a Y1 Y2))))) [_,_,_,_] w1 w2,Gq,Gq,show alo+(i-alo)=i by exact AJ 2 (.l Y0 Y1) (.e (.a Y0 (.s Y1 Y0)) Y1) [_,_] w1]
  have eb:cw b v blo (bhi-blo)=cw b v blo (j-blo)+(cw b v j k+cw b v (j+k) (bhi-(j+k))):=by
   rw[show bhi-blo=(j-blo)+(k+(bhi-(j+k))) by exact AL 4 (.l Y0 Y1) (.l (.a Y1 Y2) Y3) (.e (.s Y3 Y0) (.a (.s Y1 Y0) (.a Y2 (.s Y3 (.a Y1 Y2))))) [_,_,_,_] w3 w4,Gq,Gq,show blo+(j-blo)=j by exact AJ 2 (.l Y0 Y1) (.e (.a Y0 (.s Y1 Y0)) Y1) [_,_] w3]
  have em:cw b v j k=cw a v i k:=(Lm fun t ht=>S.hq _ _ (run t ht)).symm
  have es:MA a v (L1++(i,j,k)::L2)=MA a v L1+(cw a v i k+MA a v L2):=by
   unfold MA;rw[XA,bX];rfl
  obtain⟨s1,s2,s3,s4⟩:=Ht S h1 h2 h3 h4 hf hk (v:=v)
  rw[es,e1,e2,ea,eb,em]
  refine(MS (fun hm=>?_) fun hm=>?_).symm
  .obtain⟨z,z1,z2,z3⟩:=Dh hm
   have ez:a (i+(z-i))=v:=by rw[show i+(z-i)=z by exact AJ 2 (.l Y0 Y1) (.e (.a Y0 (.s Y1 Y0)) Y1) [_,_] z1];exact z3
   have two:∀ A B:Nat,(0<A->0<B->False)->A=0∨B=0:=fun A B h=>by
    rcases Zj A with y|y
    .exact .inl y
    .exact .inr (de fun z=>h y z)
   refine⟨two _ _ fun p q=>?_,two _ _ fun p q=>?_,two _ _ fun p q=>?_,two _ _ fun p q=>?_⟩ <;>
    (obtain⟨x,x1,x2,x3⟩:=Dh p;obtain⟨y,y1,y2,y3⟩:=Dh q)
   .exact s1 x y (z-i) (by exact AL 3 (.l Y0 Y1) (.t Y2 (.a Y0 (.s Y1 Y0))) (.t Y2 Y1) [_,_,_] w1 x2) x1 (by exact AL 3 (.l Y0 Y1) (.t Y1 (.a Y0 Y2)) (.t (.s Y1 Y0) Y2) [_,_,_] z1 z2) x3 y1 (by exact AL 3 (.l Y0 Y1) (.t Y2 (.a Y0 (.s Y1 Y0))) (.t Y2 Y1) [_,_,_] w3 y2) y3 ez
   .exact s2 x y (z-i) x1 (by exact AL 4 (.l (.a Y0 Y1) Y2) (.t Y3 (.a (.a Y0 Y1) (.s Y2 (.a Y0 Y1)))) (.t Y3 Y2) [_,_,_,_] w2 x2) (by exact AL 3 (.l Y0 Y1) (.t Y1 (.a Y0 Y2)) (.t (.s Y1 Y0) Y2) [_,_,_] z1 z2) x3 y1 (by exact AL 4 (.l (.a Y0 Y1) Y2) (.t Y3 (.a (.a Y0 Y1) (.s Y2 (.a Y0 Y1)))) (.t Y3 Y2) [_,_,_,_] w4 y2) y3 ez
   .exact s3 x y (z-i) x1 (by exact AL 4 (.l (.a Y0 Y1) Y2) (.t Y3 (.a (.a Y0 Y1) (.s Y2 (.a Y0 Y1)))) (.t Y3 Y2) [_,_,_,_] w2 x2) (by exact AL 3 (.l Y0 Y1) (.t Y1 (.a Y0 Y2)) (.t (.s Y1 Y0) Y2) [_,_,_] z1 z2) x3 y1 (by exact AL 3 (.l Y0 Y1) (.t Y2 (.a Y0 (.s Y1 Y0))) (.t Y2 Y1) [_,_,_] w3 y2) y3 ez
   .exact s4 x y (z-i) x1 (by exact AL 3 (.l Y0 Y1) (.t Y2 (.a Y0 (.s Y1 Y0))) (.t Y2 Y1) [_,_,_] w1 x2) (by exact AL 3 (.l Y0 Y1) (.t Y1 (.a Y0 Y2)) (.t (.s Y1 Y0) Y2) [_,_,_] z1 z2) x3 y1 (by exact AL 4 (.l (.a Y0 Y1) Y2) (.t Y3 (.a (.a Y0 Y1) (.s Y2 (.a Y0 Y1)))) (.t Y3 Y2) [_,_,_,_] w4 y2) y3 ez
  .have no:∀ t,t<k->a (i+t)≠v:=fun t ht e=>XE (Op (W5 i t) (by exact AJ 3 (.t Y0 Y1) (.t (.a Y2 Y0) (.a Y2 Y1)) [_,_,_] ht) e) hm
   have zr:∀ A:Nat,(0<A->False)->A=0:=fun A h=>de h
   rcases Int.lt_or_le v (a i) with hv|hv
   .refine .inl ⟨zr _ fun p=>?_,zr _ fun p=>?_⟩<;>obtain⟨x,x1,x2,x3⟩:=Dh p
    .exact absurd (x3▸S.ha i x (by exact AJ 3 (.l (.a Y0 Y1) Y2) (.l Y0 Y2) [_,_,_] x1) (by exact Be 5 (.l Y0 Y1) (.l (.a Y2 Y3) Y0) (.t Y4 (.a (.a Y2 Y3) (.s Y0 (.a Y2 Y3)))) (.t Y4 Y1) [_,_,_,_,_] h3 w2 x2)) (Int.not_le.mpr hv)
    .have e0:=S.hq _ _ (run 0 hk)
     rw[cA,cA]at e0
     exact absurd (x3▸S.hb j x (by exact AJ 3 (.l (.a Y0 Y1) Y2) (.l Y0 Y2) [_,_,_] x1) (by exact Be 5 (.l Y0 Y1) (.l (.a Y2 Y3) Y0) (.t Y4 (.a (.a Y2 Y3) (.s Y0 (.a Y2 Y3)))) (.t Y4 Y1) [_,_,_,_,_] h4 w4 x2)) (Int.not_le.mpr (e0▸hv))
   .refine .inr ⟨zr _ fun p=>?_,zr _ fun p=>?_⟩<;>obtain⟨x,x1,x2,x3⟩:=Dh p
    .have e3:a i=v:=b9 hv (x3▸S.ha x i (by exact AL 3 (.l Y0 Y1) (.t Y2 (.a Y0 (.s Y1 Y0))) (.l Y2 Y1) [_,_,_] w1 x2) (by exact Be 4 (.t (.n 0) Y0) (.l Y1 Y2) (.l (.a Y3 Y0) Y1) (.t Y3 Y2) [_,_,_,_] hk h3 w2))
     exact no 0 hk e3
    .have e0:=S.hq _ _ (run 0 hk)
     rw[cA,cA]at e0
     have e3:a i=v:=b9 hv (e0▸x3▸S.hb x j (by exact AL 3 (.l Y0 Y1) (.t Y2 (.a Y0 (.s Y1 Y0))) (.l Y2 Y1) [_,_,_] w3 x2) (by exact Be 4 (.t (.n 0) Y0) (.l Y1 Y2) (.l (.a Y3 Y0) Y1) (.t Y3 Y2) [_,_,_,_] hk h4 w4))
     exact no 0 hk e3
end
section
variable{a b:Nat->Int}{na nb:Nat}{q E:Nat->Nat->Bool}{d:Nat->Bool}
theorem Kx(S:SortQ a b na nb q E){alo ahi blo bhi:Nat}{L:List Tri}(h:Blk q E d alo ahi blo bhi L):alo<=ahi->blo<=bhi->ahi<=na->bhi<=nb ->
  (L.map fun x=>a x.1).Pairwise (·<·)/\∀ x∈L,(∃ y,alo<=y/\y<ahi/\a y=a x.1)/\∃ y,blo<=y/\y<bhi/\b y=a x.1:=by
 induction h using Blk.ind with
 | none _=>intro _ _ _ _;exact⟨.nil,fun x hx=>(nomatch hx)⟩
 | @some alo ahi blo bhi i j k L1 L2 hf hk _ _ ih1 ih2=>
  intro h1 h2 h3 h4
  obtain⟨w1,w2,w3,w4⟩:=Ec h1 h2 hf
  obtain⟨p1,m1⟩:=ih1 w1 w3 (by exact AL 4 (.l Y0 Y1) (.l (.a Y2 Y3) Y0) (.l Y2 Y1) [_,_,_,_] h3 w2) (by exact AL 4 (.l Y0 Y1) (.l (.a Y2 Y3) Y0) (.l Y2 Y1) [_,_,_,_] h4 w4)
  obtain⟨p2,m2⟩:=ih2 w2 w4 h3 h4
  obtain⟨s1,s2,_,_⟩:=Ht S h1 h2 h3 h4 hf hk (v:=a i)
  have e0:=S.hq _ _ ((Fk S.hEq h1 h2 hf).1 0 hk)
  rw[cA,cA]at e0
  have lt1:∀ x∈L1,a x.1<a i:=fun x hx=>by
   obtain⟨⟨y,y1,y2,y3⟩,z,z1,z2,z3⟩:=m1 x hx
   have le:a x.1<=a i:=y3▸S.ha y i (by exact AJ 2 (.t Y0 Y1) (.l Y0 Y1) [_,_] y2) (by exact Be 4 (.t (.n 0) Y0) (.l Y1 Y2) (.l (.a Y3 Y0) Y1) (.t Y3 Y2) [_,_,_,_] hk h3 w2)
   rcases df le with g|g
   .exact g
   .exact(s1 y z 0 y2 y1 hk (y3.trans g) z1 z2 (z3.trans g) rfl).elim
  have lt2:∀ x∈L2,a i<a x.1:=fun x hx=>by
   obtain⟨⟨y,y1,y2,y3⟩,z,z1,z2,z3⟩:=m2 x hx
   have le:a i<=a x.1:=y3▸S.ha i y (by exact AJ 3 (.l (.a Y0 Y1) Y2) (.l Y0 Y2) [_,_,_] y1) (by exact AL 3 (.l Y0 Y1) (.t Y2 Y0) (.t Y2 Y1) [_,_,_] h3 y2)
   rcases df le with g|g
   .exact g
   .exact(s2 y z 0 y1 y2 hk (y3.trans g.symm) z1 z2 (z3.trans g.symm) rfl).elim
  refine⟨?_,fun x hx=>?_⟩
  .rw[XA,Vu,Yn]
   refine⟨p1,Yq.mpr ⟨fun v hv=>?_,p2⟩,fun u hu v hv=>?_⟩
   .obtain⟨x,hx,rfl⟩:=Vm.mp hv
    exact lt2 x hx
   .obtain⟨x,hx,rfl⟩:=Vm.mp hu
    rcases Vq.mp hv with rfl|hv
    .exact lt1 x hx
    .obtain⟨y,hy,rfl⟩:=Vm.mp hv
     exact Int.lt_trans (lt1 x hx) (lt2 y hy)
  .rcases W9.mp hx with hx|hx
   .obtain⟨⟨y,y1,y2,y3⟩,z,z1,z2,z3⟩:=m1 x hx
    exact⟨⟨y,y1,by exact AL 4 (.l (.a Y0 Y1) Y2) (.t Y3 Y0) (.t Y3 Y2) [_,_,_,_] w2 y2,y3⟩,z,z1,by exact AL 4 (.l (.a Y0 Y1) Y2) (.t Y3 Y0) (.t Y3 Y2) [_,_,_,_] w4 z2,z3⟩
   .rcases Vq.mp hx with rfl|hx
    .exact⟨⟨i,w1,by exact AL 3 (.t (.n 0) Y0) (.l (.a Y1 Y0) Y2) (.t Y1 Y2) [_,_,_] hk w2,rfl⟩,j,w3,by exact AL 3 (.t (.n 0) Y0) (.l (.a Y1 Y0) Y2) (.t Y1 Y2) [_,_,_] hk w4,e0.symm⟩
    .obtain⟨⟨y,y1,y2,y3⟩,z,z1,z2,z3⟩:=m2 x hx
     exact⟨⟨y,by exact AL 4 (.l Y0 Y1) (.l (.a Y1 Y2) Y3) (.l Y0 Y3) [_,_,_,_] w1 y1,y2,y3⟩,z,by exact AL 4 (.l Y0 Y1) (.l (.a Y1 Y2) Y3) (.l Y0 Y3) [_,_,_,_] w3 z1,z2,z3⟩
end
theorem Nr:∀ (V X:List Int),V.Nodup->(∀ v∈V,v∈X)->V.length<=X.length
 | [],X,_,_=>WJ _
 | v::V,X,nd,h=>by
  have h1:=h v mS
  have h2:=Nr V (X.erase v) (Vr.mp nd).2 fun u hu=>(Xq fun e:u=v=>(Vr.mp nd).1 (e▸hu)).mpr (h u (mT hu))
  rw[Xr h1]at h2
  have:=Xs h1
  rw[bT]
  exact AL 2 (.l Y0 (.s Y1 N1)) (.t (.n 0) Y1) (.l (.a Y0 N1) Y1) [_,_] h2 this
noncomputable def BV(A:List Int)(L:List Tri):List Int:=L.flatMap fun x=>(A.drop x.1).take x.2.2
theorem CJ(A:List Int)(x:Tri)(L:List Tri):BV A (x::L)=(A.drop x.1).take x.2.2++BV A L:=rfl
theorem Cc(A:List Int)(L M:List Tri):BV A (L++M)=BV A L++BV A M:=List.flatMap_append
theorem Cv(A:List Int)(v:Int)(i:Nat):∀ k,i+k<=A.length->((A.drop i).take k).count v=cw (fun t=>A.getD t 0) v i k
 | 0,_=>rfl
 | k+1,h=>by
  have e:(A.drop i)[k]?=some (A.getD (i+k) 0):=by
   rw[aB,Z6 (by exact AJ 3 (.l (.a Y0 (.a Y1 N1)) Y2) (.t (.a Y0 Y1) Y2) [_,_,_] h),dc,Z6 (by exact AJ 3 (.l (.a Y0 (.a Y1 N1)) Y2) (.t (.a Y0 Y1) Y2) [_,_,_] h)];rfl
  rw[cf,e,dU,Cv A v i k (by exact AJ 3 (.l (.a Y0 (.a Y1 N1)) Y2) (.l (.a Y0 Y1) Y2) [_,_,_] h),DL]
  congr 1
  show dX v [A.getD (i+k) 0]=_
  rw[dg]
  by_cases q:A.getD (i+k) 0=v
  .rw[if_pos (beq_iff_eq.mpr q),if_pos q]
  .rw[if_neg fun x=>q (beq_iff_eq.mp x),if_neg q]
theorem EC{A:List Int}(v:Int):∀ {L:List Tri},(∀ x∈L,x.1+x.2.2<=A.length)->(BV A L).count v=MA (fun t=>A.getD t 0) v L
 | [],_=>rfl
 | x::L,h=>by
  rw[CJ,dU,Cv A v x.1 x.2.2 (h x mS),EC v fun y hy=>h y (mT hy)]
  rfl
theorem Jk(A:List Int):∀ (L:List Tri) (p:Nat),L.Pairwise Hv->(∀ x∈L,p<=x.1)->(BV A L).Sublist (A.drop p)
 | [],_,_,_=>List.nil_sublist _
 | x::L,p,h,hp=>by
  rw[CJ]
  have h1:=Jk A L (x.1+x.2.2) (Yq.mp h).2 fun y hy=>((Yq.mp h).1 y hy).1
  have e:A.drop x.1=(A.drop x.1).take x.2.2++A.drop (x.1+x.2.2):=by rw[<- dh,Ym]
  have h2:(A.drop x.1).Sublist (A.drop p):=by
   have:=di (x.1-p) (A.drop p)
   rwa [dh,show p+(x.1-p)=x.1 by have:=hp x mS;exact AJ 2 (.l Y0 Y1) (.e (.a Y0 (.s Y1 Y0)) Y1) [_,_] this]at this
  have h3:=(bA ((A.drop x.1).take x.2.2)).append h1
  rw[<- e]at h3
  exact h3.trans h2
theorem Ge(A:List Int):∀ (L:List Tri) (i j k:Nat),BV A (IF (i,j,k) L)=(A.drop i).take k++BV A L
 | [],i,j,k=>by
  rw[FZ]
  by_cases h:k=0
  .subst h;rfl
  .rw[if_neg h];rfl
 | (i2,j2,k2)::L,i,j,k=>by
  rw[Dc,CJ]
  by_cases h:i+k=i2/\j+k=j2
  .rw[if_pos h,Ge A L i j (k+k2),dk,dh,h.1,Wv]
  .rw[if_neg h,Cc,Ge A L i2 j2 k2]
   by_cases z:k=0
   .subst z;rfl
   .rw[if_neg z,CJ,show BV A []=[] from rfl,W8]
noncomputable def IZ(as cs:List Int)(t:Nat):List Int:=((Xn t).filter fun i=>decide ((as.take i).count (as.getD i 0)<cs.count (as.getD i 0))).map fun i=>as.getD i 0
theorem DB(as cs:List Int)(t:Nat):(IZ as cs t).length=EU as cs t:=V8 _
theorem CL(as cs:List Int)(v:Int):∀ t,t<=as.length->(IZ as cs t).count v=min ((as.take t).count v) (cs.count v)
 | 0,_=>by rw[dS];exact(Nat.zero_min _).symm
 | t+1,h=>by
  have ih:=CL as cs v t (by exact AJ 2 (.l (.a Y0 N1) Y1) (.l Y0 Y1) [_,_] h)
  have e:as[t]?=some (as.getD t 0):=by rw[Z6 (by exact AJ 2 (.l (.a Y0 N1) Y1) (.t Y0 Y1) [_,_] h),dc,Z6 (by exact AJ 2 (.l (.a Y0 N1) Y1) (.t Y0 Y1) [_,_] h)];rfl
  rw[cf,e,dU]
  unfold IZ at ih ⊢
  rw[Xo,aV,XA,dU,ih,Wu,List.filter_nil]
  have one:∀ u:Int,dX v [u]=if u=v then 1 else 0:=fun u=>by
   rw[dg]
   by_cases e:u=v
   .rw[if_pos (beq_iff_eq.mpr e),if_pos e]
   .rw[if_neg fun x=>e (beq_iff_eq.mp x),if_neg e]
  by_cases q:(as.take t).count (as.getD t 0)<cs.count (as.getD t 0)
  .rw[if_pos (decide_eq_true q)]
   show _+dX v [as.getD t 0]=min (_+dX v [as.getD t 0]) _
   generalize as.getD t 0=u at q
   rw[one]
   by_cases e:u=v
   .subst e;rw[if_pos rfl];exact AJ 2 (.t Y0 Y1) (.e (.a (.mn Y0 Y1) N1) (.mn (.a Y0 N1) Y1)) [_,_] q
   .rw[if_neg e];exact Bh 2 (.e (.a (.mn Y0 Y1) (.n 0)) (.mn (.a Y0 (.n 0)) Y1)) [_,_]
  .rw[if_neg fun x=>q (of_decide_eq_true x)]
   show _+0=min (_+dX v [as.getD t 0]) _
   generalize as.getD t 0=u at q
   rw[one]
   by_cases e:u=v
   .subst e;rw[if_pos rfl];exact AJ 2 (.no (.t Y0 Y1)) (.e (.a (.mn Y0 Y1) (.n 0)) (.mn (.a Y0 N1) Y1)) [_,_] q
   .rw[if_neg e];exact Bh 2 (.e (.a (.mn Y0 Y1) (.n 0)) (.mn (.a Y0 (.n 0)) Y1)) [_,_]
theorem I8{as cs A B C:List Int}{E:Nat->Nat->Bool}{q:Nat->Nat->Bool}{d:Nat->Bool}{L:List Tri}(hA:A.Perm as)(hB:B.Perm cs)(sA:A.Pairwise (·<=·))(hC:C.Perm (IZ as cs as.length))(sC:C.Pairwise (·<=·))(S:SortQ (fun t=>A.getD t 0) (fun t=>B.getD t 0) A.length B.length q E)(h:Blk q E d 0 A.length 0 B.length L):BV A (IF (0,0,0) L++[(A.length,B.length,0)])=C:=by
 obtain⟨p1,p2,_,_⟩:=h.props (WJ _) (WJ _)
 have inn:∀ x∈L,x.1+x.2.2<=A.length:=fun x hx=>(p1 x hx).2.1
 have e1:BV A (IF (0,0,0) L++[(A.length,B.length,0)])=BV A L:=by
  rw[Cc,Ge,CJ]
  show(A.drop 0).take 0++BV A L++((A.drop A.length).take 0++[])=_
  rw[dS,dS,Ww,W8,W8]
 rw[e1]
 have full:∀ X:List Int,∀ v,cw (fun t=>X.getD t 0) v 0 (X.length-0)=X.count v:=fun X v=>by
  rw[<- Cv X v 0 (X.length-0) (by exact Bh 1 (.l (.a (.n 0) (.s Y0 (.n 0))) Y0) [_]),aM,aN,aO]
 refine dm (fun x y _ _ h1 h2=>b9 h1 h2) ?_ sC (bU ?_ hC.symm)
 .have:=Jk A L 0 p2 fun _ _=>WJ _
  rw[aM]at this
  exact sA.sublist this
 .refine dp.mpr fun v=>?_
  rw[EC v inn,Lp S h v (WJ _) (WJ _) (Vn _) (Vn _),full,full,CL as cs v _ (Vn _),aO,hA.count_eq,hB.count_eq]
theorem Jl(A:List Int):∀ {L:List Tri},(∀ x∈L,x.1+x.2.2<=A.length)->(BV A L).length=(L.map (·.2.2)).sum
 | [],_=>rfl
 | x::L,h=>by
  rw[CJ,XS,Jl A fun y hy=>h y (mT hy),cb,dr]
  have:=h x mS
  rw[Vu,bY,VT (by exact AJ 3 (.l (.a Y0 Y1) Y2) (.l Y1 (.s Y2 Y0)) [_,_,_] this)]
theorem Oq(as cs:List Int):EU as cs as.length=EU cs as cs.length:=by
 rw[<- DB,<- DB]
 refine List.Perm.length_eq (dp.mpr fun v=>?_)
 rw[CL as cs v _ (Vn _),CL cs as v _ (Vn _),aO,aO,Nat.min_comm]
noncomputable abbrev iO(B:List Int):Int->List Nat:=HL B (fun _=>false) false
theorem Fj{l:List Int}{i:Nat}(h:i<l.length):l.getD i 0=l[i]:=by rw[dc,Z6 h];rfl
theorem LM{A:List Int}(h:A.Pairwise (·<=·))(x y:Nat)(hxy:x<=y)(hy:y<A.length):A.getD x 0<=A.getD y 0:=by
 have e:∀ z,z<A.length->A[z]?=some (A.getD z 0):=fun z hz=>by rw[Z6 hz,dc,Z6 hz];rfl
 have hx:=W4 hxy hy
 rcases Nat.lt_or_eq_of_le hxy with g|rfl
 .have:=Yj.mp h x y hx hy g
  rw[Fj hx,Fj hy]
  exact this
 .exact bn _
theorem Nl{A B:List Int}(sA:A.Pairwise (·<=·))(sB:B.Pairwise (·<=·)):SortQ (fun t=>A.getD t 0) (fun t=>B.getD t 0) A.length B.length (Bm A B) (C7 A (iO B)) where
 ha:=LM sA
 hb:=LM sB
 hq x y h:=of_decide_eq_true h
 hE x y hx hy h:=by
  have h:A.getD x 0=B.getD y 0:=h
  rw[Sa _ _ _ _ _ _ hy,decide_eq_true h];rfl
 hEq x y h:=by
  have h:decide (y∈Pj B (A.getD x 0))=true:=h
  have h:=LS.mp (of_decide_eq_true h)
  have hy:=(WX.mp h).1
  exact decide_eq_true ((Jq hy).mp h)
theorem IE:∀ (L:List Tri) (i j k:Nat),((IF (i,j,k) L).map (·.2.2)).sum=k+(L.map (·.2.2)).sum
 | [],i,j,k=>by
  rw[FZ]
  by_cases h:k=0
  .subst h;rfl
  .rw[if_neg h];rfl
 | (i2,j2,k2)::L,i,j,k=>by
  rw[Dc,Vu,bY]
  by_cases h:i+k=i2/\j+k=j2
  .rw[if_pos h,IE L,dd]
  .rw[if_neg h,XA,bX,IE L]
   by_cases z:k=0
   .subst z;simp
   .rw[if_neg z];rfl
theorem OY(as bs:List Int)(L:List Tri):((Bv as bs L).map (·.2.2)).sum=(L.map (·.2.2)).sum:=by
 rw[XA,bX,IE]
 show 0+_+0=_
 rw[cA,cE]
section
variable{as cs A B:List Int}{d:Nat->Bool}{L:List Tri}
theorem Nj(hA:A.Perm as)(hB:B.Perm cs)(sA:A.Pairwise (·<=·))(sB:B.Pairwise (·<=·))(h:Blk (Bm A B) (C7 A (iO B)) d 0 A.length 0 B.length L):(BV A L).Perm (IZ as cs as.length)/\∀ x∈L,x.1+x.2.2<=A.length:=by
 obtain⟨p1,p2,_,_⟩:=h.props (WJ _) (WJ _)
 have inn:∀ x∈L,x.1+x.2.2<=A.length:=fun x hx=>(p1 x hx).2.1
 have full:∀ X:List Int,∀ v,cw (fun t=>X.getD t 0) v 0 (X.length-0)=X.count v:=fun X v=>by
  rw[<- Cv X v 0 (X.length-0) (by rw[cE];exact Z5 (aN _)),aM,aN,aO]
 refine⟨dp.mpr fun v=>?_,inn⟩
 rw[EC v inn,Lp (Nl sA sB) h v (WJ _) (WJ _) (Vn _) (Vn _),full,full,CL as cs v _ (Vn _),aO,hA.count_eq,hB.count_eq]
theorem FY(hA:A.Perm as)(hB:B.Perm cs)(sA:A.Pairwise (·<=·))(sB:B.Pairwise (·<=·))(h:Blk (Bm A B) (C7 A (iO B)) d 0 A.length 0 B.length L):((Bv A B L).map (·.2.2)).sum=EU as cs as.length:=by
 obtain⟨h1,h2⟩:=Nj hA hB sA sB h
 rw[OY,<- Jl A h2,h1.length_eq,DB]
theorem LV(hA:A.Perm as)(hB:B.Perm cs)(sA:A.Pairwise (·<=·))(sB:B.Pairwise (·<=·))(hz:as.length<64∨∃ V:List Int,V.length<=3/\∀ x∈cs,x∈V)(h:Blk (Bm A B) (C7 A (iO B)) d 0 A.length 0 B.length L):L.length<64:=by
 rcases hz with hz|⟨V,hV,hz⟩
 .obtain⟨_,_,p3,_⟩:=h.props (WJ _) (WJ _)
  rw[aN,hA.length_eq]at p3
  exact W4 p3 hz
 .obtain⟨q1,q2⟩:=Kx (Nl sA sB) h (WJ _) (WJ _) (Vn _) (Vn _)
  have:=Nr (L.map fun (x:Tri)=>A.getD x.1 0) V (q1.imp fun {x y} (h:x<y)=>(Int.ne_of_lt h:x≠y)) fun v hv=>by
   obtain⟨x,hx,rfl⟩:=Vm.mp hv
   obtain⟨_,y,_,y2,y3⟩:=q2 x hx
   refine hz _ (hB.mem_iff.mp ?_)
   have y3:B.getD y 0=A.getD x.1 0:=y3
   show A.getD x.1 0∈B
   rw[<- y3,Fj y2]
   exact ZJ y2
  rw[V8]at this
  exact W4 (Yi this hV) (by decide)
theorem Pl(hA:A.Perm as)(hB:B.Perm cs)(sA:A.Pairwise (·<=·))(sB:B.Pairwise (·<=·))(h5:as.length<128)(hz:as.length<64∨∃ V:List Int,V.length<=3/\∀ x∈cs,x∈V)(h:Blk (Bm A B) (C7 A (iO B)) d 0 A.length 0 B.length L):L.length<64/\((Bv A B L).map (·.2.2)).sum<128:=
 ⟨LV hA hB sA sB hz h,by rw[FY hA hB sA sB h];exact W4 (Es _ _ _) h5⟩
theorem Nk{C:List Int}(hA:A.Perm as)(hB:B.Perm cs)(sA:A.Pairwise (·<=·))(sB:B.Pairwise (·<=·))(hC:C.Perm (IZ as cs as.length))(sC:C.Pairwise (·<=·))(h:Blk (Bm A B) (C7 A (iO B)) d 0 A.length 0 B.length L):BV A (Bv A B L)=C:=I8 hA hB sA hC sC (Nl sA sB) h
end
theorem JM(n:Nat):(Xd n (0:Int)).Pairwise (·<=·):=List.pairwise_replicate.mpr (.inr (bn _))
theorem Ra(m n:Nat):EU (Xd m 0) (Xd n 0) (Xd m (0:Int)).length=min m n:=by
 have e:∀ x∈IZ (Xd m 0) (Xd n 0) (Xd m (0:Int)).length,(0:Int)=x:=fun x hx=>by
  obtain⟨i,hi,rfl⟩:=Vm.mp hx
  have hi:=dH.mp (cr.mp hi).1
  rw[Fj hi,List.getElem_replicate]
 rw[<- DB,<- List.count_eq_length.mpr e,CL _ _ _ _ (Vn _),aO,dw,dw]
theorem Pd{items cs:List Int}{cut n k:Nat}(hk:items.length<=66)(he:cs=items.drop cut++Xd n 0)(h:k<=cut):(items.take k).length<64∨∃ V:List Int,V.length<=3/\∀ x∈cs,x∈V:=by
 rcases Yp k 64 with g|g
 .exact .inl (W4 (List.length_take_le _ _) g)
 .refine .inr ⟨0::items.drop cut,?_,fun x hx=>?_⟩
  .rw[bT,dr]
   exact Be 3 (.l Y0 (.n 66)) (.l Y1 Y2) (.l (.n 64) Y1) (.l (.a (.s Y0 Y2) N1) (.n 3)) [_,_,_] hk h g
  .rw[he]at hx
   rcases W9.mp hx with hx|hx
   .exact mT hx
   .rw[(dx.mp hx).2];exact mS
section
variable{c:Ctx}{m:Lo}{H:Hp}{pos:Pos}
end
noncomputable def UH(ks:List Str)(fs:List (Str×V)):Bool:=fs.all fun p=>ks.any fun k=>k==p.1
theorem GN{ks:List Str}{x:Str}(h:(ks.any fun k=>k==x)=false):∀ {fs:List (Str×V)},UH ks fs=true->fs.lookup x=.none
 | [],_=>rfl
 | (y,v)::fs,e=>by
  unfold UH at e
  rw[List.all_cons,X5]at e
  rw[Vt]
  cases q:x==y with
  | true=>rw[beq_iff_eq]at q;subst q;rw[h]at e;exact absurd e.1 (by decide)
  | false=>exact GN h e.2
noncomputable def LC(ks:List Str)(fs fs':List (Str×V)):Prop:=UH ks fs=true/\UH ks fs'=true/\ks.map (fun x=>fs.lookup x)=ks.map fun x=>fs'.lookup x
theorem Nz{α β:Type}{f g:α->β}:∀ {l:List α},l.map f=l.map g->∀ x∈l,f x=g x
 | y::l,e,x,hx=>by
  rw[Vu,Vu]at e
  injection e with e1 e2
  rcases Vq.mp hx with rfl|hx
  .exact e1
  .exact Nz e2 x hx
theorem LC.eq{ks:List Str}{fs fs':List (Str×V)}(h:LC ks fs fs')(x:Str):fs.lookup x=fs'.lookup x:=by
 cases q:ks.any fun k=>k==x with
 | true=>
  obtain⟨k,hk,e⟩:=List.any_eq_true.mp q
  cases beq_iff_eq.mp e
  exact Nz h.2.2 _ hk
 | false=>rw[GN q h.1,GN q h.2.1]
theorem O.ns_eq{prog:VY}{w:VZ}{h:Heap}{a:Addr}{fs fs':List (Str×V)}(e:∀ x,fs.lookup x=fs'.lookup x)(r:(O.ns fs).rep prog w h a):(O.ns fs').rep prog w h a:=by
 obtain⟨m,hm,q,hr⟩:=r
 exact⟨m,hm,fun x=>e x▸q x,fun x u hu=>hr x u ((e x).trans hu)⟩
noncomputable def To(c:Ctx)(m:Lo)(H:Hp)(m':Lo)(H':Hp):Prop:=(∀ s,Rel c ⟨m,H⟩ s->Rel c ⟨m',H'⟩ s)/\∀ b∈dom H',b∈dom H
section
variable{c:Ctx}{m m' m2:Lo}{H H' H2:Hp}{α β:Type}{Rr:Heap->β->α->Prop}
theorem To.less(l:AI m H m' H'):To c m H m' H':=⟨fun s R=>R.weaken l.1 l.2.1 (l.2.2 R.nd),fun b hb=>by obtain⟨p,hp,e⟩:=Vm.mp hb;exact e▸Vm.mpr ⟨p,l.2.1 p hp,rfl⟩⟩
theorem To.trans(h:To c m H m' H')(h':To c m' H' m2 H2):To c m H m2 H2:=⟨fun s R=>h'.1 s (h.1 s R),fun b hb=>h.2 b (h'.2 b hb)⟩
theorem To.ns{d:Addr}{fs fs':List (Str×V)}{P:Addr×O}(e:∀ x,fs.lookup x=fs'.lookup x):To c m (P::(d,.ns fs)::H) m (P::(d,.ns fs')::H):=by
 refine⟨fun s R=>⟨R.loc,fun a o ho=>?_,R.nd,R.apart,R.keep,R.gl,R.bare,R.tp⟩,fun b hb=>hb⟩
 rcases Vq.mp ho with e1|ho
 .exact R.obj a o (e1▸mS)
 .rcases Vq.mp ho with e1|ho
  .cases e1
   exact O.ns_eq e (R.obj _ _ (mT mS))
  .exact R.obj a o (mT (mT ho))
theorem Fp.pre{L:Addr}{h h':Heap}(s:∀ b∈Mine.Internal.dom H',b∈Mine.Internal.dom H)(F:Fp L H' H2 h h'):Fp L H H2 h h':=⟨fun b o hb hL e=>F.keep b o (fun q=>hb (s b q)) hL e,fun b hb=>(F.dom b hb).imp (s b) id,F.alive⟩
theorem Fp.post{L:Addr}{h h':Heap}(s:∀ b∈Mine.Internal.dom H2,b∈Mine.Internal.dom H')(F:Fp L H H' h h'):Fp L H H2 h h':=⟨F.keep,fun b hb=>F.dom b (s b hb),F.alive⟩
theorem AW.to{b:List Stmt}{Q:Fl->Lo->Hp->Prop}(l:To c m H m' H')(h:AW c b m' H' Q):AW c b m H Q:=fun s R P k=>h s (l.1 s R) P fun b v m' H2 h tk R' F r q=>k b v m' H2 h tk R' (F.pre l.2) r q
theorem Af.postT{e:Expr}{Q:V->Lo->Hp->Prop}(h:Af c e m H fun v m' H'=>∃ m2 H2,To c m' H' m2 H2/\Q v m2 H2):Af c e m H Q:=
 fun s R P k=>h s R P fun b v m' H' h tk R' F r t8=>t8.elim fun m2 t9=>t9.elim fun H2 t9=>t9.elim fun l q=>k b v m2 H2 h tk (l.1 _ R') (F.post l.2) r q
end
theorem AW.drop1{c:Ctx}{b:List Stmt}{Q:Fl->Lo->Hp->Prop}{m:Lo}{n:Addr×O}{R:Hp}(h:AW c b m R Q):AW c b m (n::R) Q:=AW.less (AI.heap (.cons _ (.refl _))) h
section
open PySem.SeqAt
section
variable{c:Ctx}{m:Lo}{H:Hp}{pos:Pos}{Q:V->Lo->Hp->Prop}
theorem Lb{h:Heap}:∀ {ns:List Int} {vs:List VX},AS h (ns.map V.int) vs->dy vs ns
 | [],_,r=>by cases (r:_=[]);exact .nil
 | n::ns,vs,r=>by
  obtain⟨a,r',rfl,⟨t,rfl⟩,r2⟩:=r
  exact .cons n t (Lb r2)
theorem Jg{a:Addr}{ns:List Int}{k:Int}(ha:AK c H a (.list (ns.map .int)))(h:Q (.int (ns.count k:Nat)) m H):Ck c (.bi "list.count") [.ref a,.int k] m H Q:=fun s vf vvs R rf rv=>by
 cases (rf:vf=_)
 obtain⟨va,vb,rfl,ra,rb⟩:=rv.two
 cases (ra:va=_);obtain⟨t,rfl⟩:=rb
 obtain⟨items,n,hl,hr⟩:=O.list_get (ha m s R)
 exact .val R h fun P p=>count_list_ints (vs:=items.toList) (by rw[Array.toArray_toList];exact IsL.isList hl) (Lb hr) (p _ _ ⟨_,rfl⟩)
end
end
section
open PySem.SeqAt
noncomputable def At.plain(x:At):Bool:=Nat.beq x.ctorIdx 2 || Nat.beq x.ctorIdx 3
noncomputable def V.plain:V->Bool
 | .tup .none xs=>xs.all At.plain
 | .at x=>x.plain
 | _=>false
theorem Lv{A:Va}{s:Vb}{x:At}{v w:VX}(h:x.plain=true)(hv:x.rep v)(hw:x.rep w):EqAt A s v w true:=by
 cases x with
 | int i=>
  have:=Hl (A:=A) (s:=s) (BI (k:=.i i) (h:=s.heap) hv) (BI (k:=.i i) (h:=s.heap) hw)
  rwa [decide_eq_true rfl]at this
 | str x=>
  have:=Hl (A:=A) (s:=s) (BI (k:=.s x) (h:=s.heap) hv) (BI (k:=.s x) (h:=s.heap) hw)
  rwa [decide_eq_true rfl]at this
 | _=>exact Bool.noConfusion (show false=true from h)
theorem Oz{A:Va}{s:Vb}{xs:List At}{vs ws:Array VX}(h:xs.all At.plain=true)(hv:B1 xs vs.toList)(hw:B1 xs ws.toList)(j:Nat)(h1:j<vs.size)(h2:j<ws.size):EqAt A s vs[j] ws[j] true:=by
 have e1:=B1.reps (h:=s.heap) hv
 have e2:=B1.reps (h:=s.heap) hw
 have hl:vs.size=xs.length:=by rw[<- V9,hv.length]
 have hj:j<xs.length:=hl▸h1
 obtain⟨a,ha,ra⟩:=e1.get (show(xs.map V.at)[j]?=some (.at xs[j]) by rw[Zu,Z6 hj];rfl)
 obtain⟨b,hb,rb⟩:=e2.get (show(xs.map V.at)[j]?=some (.at xs[j]) by rw[Zu,Z6 hj];rfl)
 rw[WO,dz h1]at ha
 rw[WO,dz h2]at hb
 cases ha;cases hb
 exact Lv (X7.mp h _ (ZJ hj)) ra rb
theorem G4(n:Nat):(Xn n).all (fun _=>true)=true:=X7.mpr fun _ _=>rfl
theorem MH{xs:List At}{vs ws:Array VX}(hv:B1 xs vs.toList)(hw:B1 xs ws.toList):vs.size=ws.size:=by
 rw[<- V9,<- V9,hv.length,hw.length]
section
variable{c:Ctx}{m:Lo}{H:Hp}{pos p1 p2:Pos}{k1:Nat}{Q:V->Lo->Hp->Prop}
theorem RO{s:Vb}{x:V}{v w:VX}(h:x.plain=true)(hv:x.rep s.heap v)(hw:x.rep s.heap w):EqAt c.A.in1 s v w true:=by
 cases x with
 | «at» x=>exact Lv h hv hw
 | tup k xs=>
  cases k with
  | some k=>cases h
  | none=>
   obtain⟨a,i1,rfl,t1,r1⟩:=hv
   obtain⟨b,i2,rfl,t2,r2⟩:=hw
   by_cases hab:a=b
   .subst hab;exact EqAt.same _
   .have key:=RcAt.tuples (A:=c.A.in1) (e:=fun _=>true) t1.plain t2.plain c.hu1 fun j h1 h2=>Oz h r1 r2 j h1 h2
    rw[G4,Bool.true_and,beq_iff_eq.mpr (MH r1 r2)]at key
    exact EqAt.of_refs hab key
theorem Ow{a b:Addr}{xs:List V}(hp:xs.all V.plain=true)(ha:AK c H a (.list xs))(hb:AK c H b (.list xs))(h:Q (.bool false) m H):KG c .NotEq (.ref a) (.ref b) m H Q:=fun s va vb R ra rb=>by
 cases (ra:va=_);cases (rb:vb=_)
 obtain⟨i1,n1,l1,r1⟩:=O.list_get (ha m s R)
 obtain⟨i2,n2,l2,r2⟩:=O.list_get (hb m s R)
 have z1:i1.size=xs.length:=by rw[<- V9,r1.length]
 have z2:i2.size=xs.length:=by rw[<- V9,r2.length]
 refine .val R h fun P k=>cmp_ofNotEq ?_
 refine RcNeAt.lists (IsL.isList l1) (IsL.isList l2) (z1.trans z2.symm) c.hu0 (e:=fun _=>true) (fun j h1 h2=>?_) _ _ _ _ (k _ s.toks ?_)
 .have hj:j<xs.length:=z1▸h1
  obtain⟨a,ha,ra⟩:=r1.get (Z6 hj)
  obtain⟨b,hb,rb⟩:=r2.get (Z6 hj)
  rw[WO,dz h1]at ha
  rw[WO,dz h2]at hb
  cases ha;cases hb
  exact RO (X7.mp hp _ (ZJ hj)) ra rb
 .show _=_
  rw[G4];rfl
end
theorem IB{α:Type}(xs:List α)(a b:Nat):pick xs (some a) (some b) none=(xs.drop a).take (b-a):=by
 have e:Z8 (some (a:Int)) (some (b:Int)) none xs.length=(((min a xs.length:Nat):Int),((min b xs.length:Nat):Int),1):=by
  simp only[Z8,aC]
  have h1:¬ ((a:Int)<0):=aF.mpr (VO a)
  have h2:¬ ((b:Int)<0):=aF.mpr (VO b)
  simp only[h1,h2,if_false,show(1:Int) > 0 by decide,if_true]
  congr 1
  .exact Fh
  .congr 1;exact Fh
 unfold pick
 rw[e]
 simp only[aG,Et]
 rcases VS a xs.length with q|q
 .rw[VT q]
  rcases VS b xs.length with r|r
  .rw[VT r]
  .rw[VU r,aH (by rw[dr];exact Vn _),aH (by rw[dr];exact Nat.sub_le_sub_right r a)]
 .rw[VU q,aJ,aK q,List.take_nil,List.take_nil]
section
variable{c:Ctx}{m:Lo}{H:Hp}{pos p1 p2:Pos}{k1:Nat}{Q:V->Lo->Hp->Prop}
end
end
section
variable{c:Ctx}{m:Lo}{H:Hp}{pos:Pos}{Q:V->Lo->Hp->Prop}
theorem Of{v:Expr}{lower upper:Option Expr}{p:Pos}(h:Af c v m H fun a m1 H1=>E3 c lower m1 H1 fun lo m2 H2=>E3 c upper m2 H2 fun hi m3 H3=>∃ l xs,a=.ref l/\AK c H3 l (.list xs)/\xs.length<=1000000/\∀ x,Q (.ref x) m3 ((x,.list (pick xs lo hi none))::H3)):Af c (.Subscript v (.Slice lower upper none p) pos) m H Q:=fun s R P k=>by
 refine Subscript_ (h s R _ fun a va m1 H1 h1 tk1 R1 F1 r1 q1=>wpAny_Slice (q1.run R1 _ fun vl lo m2 H2 h2 tk2 R2 F2 pl q2=>q2.run R2 _ fun vu hi m3 H3 h3 tk3 R3 F3 pu q3=>?_))
 rw[evalPart_none]
 refine WM ?_
 obtain⟨l,xs,rfl,hx,hz,q⟩:=q3
 cases (r1:va=_)
 obtain⟨items,n,hl,hr⟩:=O.list_get (hx m3 _ R3)
 have hlen:=hr.length
 have g1:∀ b o,h3.get? b=some o->(h3.push { cls:=.type "slice",data:=.fields #[vl,vu,.none] }).get? b=some o:=AH
 have hl1:(h3.push { cls:=.type "slice",data:=.fields #[vl,vu,.none] }).IsList l items:=IsL.isList (g1 _ _ hl)
 refine tail_any hl1.typeIs list_getitem_lookup (wpAny_getItem_list_slice hl1 (Heap.IsSliceOf.new ..) pl pu .none (by simp) ?_ ?_) (ops:=[_,_]) rfl
 .have g:∀ b o,h3.get? b=some o->((h3.push { cls:=.type "slice",data:=.fields #[vl,vu,.none] }).push { cls:=.type "list",data:=.seq (Z9 items lo hi none) }).get? b=some o:=fun b o e=>AH _ _ (AH _ _ e)
  have e1:(h3.push { cls:=.type "slice",data:=.fields #[vl,vu,.none] }).objs.size=h3.objs.size+1:=by simp
  have hn:h3.get? (h3.objs.size+1)=none:=Bk (Vo _)
  have hN:((h3.push { cls:=.type "slice",data:=.fields #[vl,vu,.none] }).push { cls:=.type "list",data:=.seq (Z9 items lo hi none) }).get? (h3.objs.size+1)=some { cls:=.type "list",data:=.seq (Z9 items lo hi none) }:=by
   rw[<- e1];exact WR _ rfl
  have F:=(F1.trans R1.hasL F2).trans R2.hasL F3
  show P (.ref (h3.push { cls:=.type "slice",data:=.fields #[vl,vu,.none] }).objs.size) _
  rw[e1]
  refine k (.ref (h3.objs.size+1)) _ m3 _ _ tk3 (R3.new tk3 g hn (o:=.list (pick xs lo hi none)) (O.list_mk (n:=0) hN ?_)) (F.trans R3.hasL (.new g hn)) rfl (q _)
  have e2:(Z9 items lo hi none).toList=pick items.toList lo hi none:=by rw[GJ]
  rw[e2]
  exact(R3.liftL (.grow (H:=H3) g) hr).pick lo hi none
 .rw[<- V9,hlen];have:WS=16777216:=rfl;exact AL 2 (.l Y0 (.n 1000000)) (.e Y1 (.n 16777216)) (.l Y0 Y1) [_,_] hz this
end
section
variable{c:Ctx}{m:Lo}{H:Hp}{pos p1 p2:Pos}{k1:Nat}
theorem DX.post{b:Stmt}{Q:Fl->Lo->Hp->Prop}(h:DX c b m H fun f m' H'=>∃ m2 H2,AI m' H' m2 H2/\Q f m2 H2):DX c b m H Q:=
 fun s R P k=>h s R P fun b v m' H' h tk R' F r t8=>t8.elim fun m2 t9=>t9.elim fun H2 t9=>t9.elim fun l q=>k b v m2 H2 h tk (R'.weaken l.1 l.2.1 (l.2.2 R'.nd)) ⟨F.keep,fun b hb=>F.dom b (by obtain⟨p,hp,e⟩:=Vm.mp hb;exact e▸Vm.mpr ⟨p,l.2.1 p hp,rfl⟩),F.alive⟩ r q
noncomputable def Ir(c:Ctx)(t elt iter:Expr)(ifs:List Expr)(scope:XG)(cl:List (Str×Addr))(m:Lo)(H:Hp)(Q:List V->Lo->Hp->Prop):Prop:=
 Af c iter m H fun u m1 H1=>∃ l xs,∃ f:V->Option V,u=.ref l/\(l,O.list xs)∈H1/\xs.length<=1000/\(∀ c2,Inner c scope cl c2->∀ v∈xs,Fs c2 t v [] H1 fun m3 H3=>O8 c2 elt ifs m3 H3 fun o H5=>o=f v/\AI [] H5 [] H1)/\Q (xs.filterMap f) m1 H1
theorem Ir.it{t elt iter:Expr}{ifs:List Expr}{scope:XG}{cl:List (Str×Addr)}{Q:List V->Lo->Hp->Prop}(hk:scope.kind=.function)(ht:Ae t=true)(h:Ir c t elt iter ifs scope cl m H Q) :
  DU c t iter m H fun n x Ok m1 H1=>n<=WS/\CX c scope cl hk t elt ifs n x Ok H1 fun ys H2=>∃ H3,AI [] H2 [] H3/\Q ys m1 H3:=by
 refine Ff ht (Af.mono h ?_)
 rintro u m1 H1 ⟨l,xs,f,rfl,hx,hz,hstep,q⟩
 refine⟨l,xs,rfl,.mem hx,by have:WS=16777216:=rfl;exact AL 2 (.l Y0 (.n 1000)) (.e Y1 (.n 16777216)) (.l Y0 Y1) [_,_] hz this,Jy (f:=fun i=>f (xs.getD i .none)) (H':=H1) (fun _=>⟨fun _ _ e=>(nomatch e),fun _ h=>h,id⟩) (fun c2 hc i hi=>?_) (fun H2 hl=>AK.less hl hx) (fun H2 hl=>?_)⟩
 .have:xs.getD i .none∈xs:=by simp[WN,hi]
  exact hstep c2 hc _ this
 .rw[FS]
  exact⟨H1,hl,q⟩
theorem DU.mono{t e:Expr}{Q Q':Nat->(Nat->V)->(Hp->Prop)->Lo->Hp->Prop}(h:DU c t e m H Q)(hQ:∀ n x Ok m H,Q n x Ok m H->Q' n x Ok m H):DU c t e m H Q':=
 fun s R P k=>h s R P fun it fp n x Ok J J' m1 H1 h1 tk1 W R1 F1 A1 fr1 j1 q=>k it fp n x Ok J J' m1 H1 h1 tk1 W R1 F1 A1 fr1 j1 (hQ _ _ _ _ _ q)
theorem CX.mono{scope:XG}{cl:List (Str×Addr)}{hk:scope.kind=.function}{t elt:Expr}{ifs:List Expr}{n:Nat}{x:Nat->V}{Ok:Hp->Prop}{Qf Qf':List V->Hp->Prop}(h:CX c scope cl hk t elt ifs n x Ok H Qf)(hQ:∀ ys H2,Qf ys H2->Qf' ys H2):CX c scope cl hk t elt ifs n x Ok H Qf':=
 fun C=>(h C).elim fun I t9=>t9.elim fun h1 t9=>t9.elim fun h2 h3=>⟨I,h1,h2,fun ys H2 hi=>⟨(h3 ys H2 hi).1,hQ _ _ (h3 ys H2 hi).2⟩⟩
theorem NX{y:Str}{py spos:Pos}{Q:Fl->Lo->Hp->Prop}{t elt iter:Expr}{ifs:List Expr}{scope:XG}{cl:List (Str×Addr)}(hclos:Xb scope c.env=pure cl)(hk:scope.kind=.function)(hy:c.env.kindOf y=some .local)(h:Ir c t elt iter ifs scope cl m H fun ys m1 H1=>∀ D,Q .next ((y,.ref D)::m1) ((D,.list ys)::H1))(hsw:WD (.ListComp elt [⟨t,iter,ifs,0⟩] scope pos) (some (.Name y py)) spos.line c.env=pure true)(ht:autoParam (Ae t=true) AV)(hcell:autoParam (∀ y∈scope.names,y.2≠.cell) BX)(hnames:autoParam (∀ y∈scope.names,y.2=.local->scope.names.lookup y.1=some .local) BX)(hs:autoParam (∀ x,WH iter c.env x=pure x) C4):DX c (.Assign [.Name y py] (.ListComp elt [⟨t,iter,ifs,0⟩] scope pos) spos) m H Q:=
 DX.post (Pe hclos hk hy (DU.mono (h.it hk ht) fun n x Ok m1 H1 q=>⟨q.1,CX.mono q.2 fun ys H2 t8 D=>t8.elim fun H3 t9=>t9.elim fun l q=>⟨(y,.ref D)::m1,(D,.list ys)::H3,AI.lift l,q D⟩⟩) hsw hcell hnames hs)
end
section
variable{prog:VY}{w:VZ}{A:Va}{E:VX->Vb->Prop}{s:Vb}
noncomputable def SU(p:bZ):Prop:=∃ n t,p.1=.int n t
theorem N7:Bt prog w A E s oneType' SU (fun p=>numOf p.1):=fun p q st Q hp hq hk h=>by
 obtain⟨p1,p2⟩:=p
 obtain⟨q1,q2⟩:=q
 obtain⟨a,t,hp⟩:=hp
 obtain⟨b,u,hq⟩:=hq
 dsimp only at hp hq
 subst hp hq
 rw[lt'_eq]
 refine bo (bp ?_)
 rw[hk,keyLt'_oneType]
 exact bo (cB (Zo (oneLt_int ⟨rfl,bq h⟩)))
theorem I9{xs:Array bZ}{n:Nat}(h:CF (fun p=>numOf p.1) xs 0 n):SortedTo xs n:=fun i j hij hj=>by
 have:=h i j hij hj
 rw[cE,cE]at this
 exact this
theorem MB{a:Addr}{vs:List VX}{ns:List Int}{n:Nat}{P:Fin->Vb->Prop}(ho:s.heap.get? a=some (seqObj "list" vs.toArray n))(hI:dy vs ns)(hz:vs.length<=1000000)(h:∀ (out:Array VX) (ns':List Int),dy out.toList ns'->ns'.Perm ns->ns'.Pairwise (·<=·)->P (.done (.ret .none)) { s with heap:=cH s.heap a vs out }) :
  Vc (model prog w) A (Wm.«list.sort» ⟨[.ref a],[]⟩) P E s:=by
 refine HW ho hz (fun h2 Q hq=>?_) N7 (fun p hp=>hI.intKeys p hp) fun xs hp hs=>?_
 .obtain⟨v₁,v₂,rest,rfl⟩:∃ v₁ v₂ rest,vs=v₁::v₂::rest:=by
   match vs,h2 with
   | [],h2=>simp at h2
   | [_],h2=>simp at h2
   | v₁::v₂::rest,_=>exact⟨v₁,v₂,rest,rfl⟩
  rw[keyKind_ints hI]
  exact WM hq
 .have hs':SortedTo xs (cM vs).size:=by
   rcases Yp vs.length 2 with g|g
   .intro i j hij hj
    have:i=j:=by rw[cP]at hj;exact Be 3 (.l Y0 Y1) (.t Y1 Y2) (.t Y2 (.n 2)) (.e Y0 Y1) [_,_,_] hij hj g
    rw[this];exact bn _
   .rw[<- hp.size_eq];exact I9 (hs g)
  obtain⟨ns',h1,h2,h3⟩:=sorted_out hI hp hs'
  exact h _ ns' h1 h2 h3
theorem KM{l:Addr}{vs:List VX}{ns:List Int}{Q:VX->Vb->Prop}(hl:s.heap.IsList l vs.toArray)(hI:dy vs ns)(hz:vs.length<=1000000)(h:∀ (out:Array VX) (ns':List Int),dy out.toList ns'->ns'.Perm ns->ns'.Pairwise (·<=·)->Q (.ref (s.heap.objs.size+1)) { s with heap:=sortedAll s.heap vs out }) :
  Vc (model prog w) A (call (.builtin "sorted") [.ref l]) Q E s:=by
 have hsl:WS=16777216:=rfl
 refine call_function_entry kind_sorted plain_sorted entry_sorted (args_sorted1 _) ?_
 unfold Wm.«sorted»
 refine Ve (m:=checkCount "sorted" 1 1 _) (WM (Ve (collect_list hl (Ve (wpAny_newList ?_)) (by exact AL 2 (.l Y0 (.n 1000000)) (.e Y1 (.n 16777216)) (.l Y0 Y1) [_,_] hz hsl))))
 have hsz:((s.heap.push (seqObj "list" #[] 0)).update s.heap.objs.size (Wg (·++vs.toArray))).objs.size=s.heap.objs.size+1:=by
  rw[Heap.size_update,size_push']
 have hoL:(((s.heap.push (seqObj "list" #[] 0)).update s.heap.objs.size (Wg (·++vs.toArray))).push (seqObj "list" vs.toArray 0)).get? (s.heap.objs.size+1)=some (seqObj "list" vs.toArray 0):=by
  rw[<- hsz];exact WR _ rfl
 show Vc _ _ _ _ _ { s with heap:=((s.heap.push (seqObj "list" #[] 0)).update s.heap.objs.size (Wg (·++vs.toArray))).push (seqObj "list" vs.toArray 0) }
 rw[hsz]
 refine Ve (Vd (YX slot_list_sort ⟨_,hoL,rfl⟩ entry_list_sort (MB hoL hI hz fun out ns' a1 a2 a3=>⟨_,rfl,?_⟩) (args_list_sort _)))
 exact WM ⟨_,rfl,h out ns' a1 a2 a3⟩
end
theorem ES{h:Heap}:∀ {ns:List Int} {vs:List VX},AS h (ns.map V.int) vs->dy vs ns
 | [],vs,e=>by cases (e:vs=[]);exact .nil
 | n::ns,vs,⟨v,r,e,⟨t,hv⟩,hr⟩=>by subst e hv;exact .cons n t (ES hr)
theorem DJ{h:Heap}:∀ {ns:List Int} {vs:List VX},dy vs ns->AS h (ns.map V.int) vs
 | _,_,.nil=>rfl
 | _,_,.cons n t r=>⟨_,_,rfl,⟨t,rfl⟩,DJ r⟩
section
variable{c:Ctx}{m:Lo}{H:Hp}{Q:V->Lo->Hp->Prop}
theorem EW{a:Addr}{ns:List Int}(ha:AK c H a (.list (ns.map .int)))(hz:ns.length<=1000000)(h:∀ x ns',ZA ns' ns->ns'.Pairwise (·<=·)->Q (.ref x) m ((x,.list (ns'.map .int))::H)):Ck c (.bi "sorted") [.ref a] m H Q:=fun s vf vvs R rf rv P k=>by
 cases (rf:vf=_)
 obtain⟨va,rfl,ra⟩:=rv.sole
 cases (ra:va=_)
 obtain⟨items,n,hl,hr⟩:=O.list_get (ha m s R)
 have hI:=ES hr
 have hlen:=hI.length
 refine KM (vs:=items.toList) (by simpa using IsL.isList hl) hI (by exact AL 2 (.l Y0 (.n 1000000)) (.e Y1 Y0) (.l Y1 (.n 1000000)) [_,_] hz hlen) fun out ns' a1 a2 a3=>?_
 obtain⟨e,he⟩:=sortedAll_at s.heap items.toList out
 have hg:∀ b o,s.heap.get? b=some o->(sortedAll s.heap items.toList out).get? b=some o:=fun _ _=>sortedAll_old
 exact k (.ref (s.heap.objs.size+1)) _ m ((s.heap.objs.size+1,.list (ns'.map .int))::H) _ (Bq s s.toks) (R.new (Bq s s.toks) hg (Bk (Vo _)) (O.list_mk he (DJ a1))) (.new hg (Bk (Vo _))) rfl (h _ ns' a2 a3)
end
noncomputable abbrev IH(elt t iter:Expr)(ifs:List Expr)(t2 iter2:Expr)(ifs2:List Expr)(scope:XG)(pos:Pos):Expr:=.ListComp elt [⟨t,iter,ifs,0⟩,⟨t2,iter2,ifs2,0⟩] scope pos
theorem Gs(elt t iter:Expr)(ifs:List Expr)(t2 iter2:Expr)(ifs2:List Expr)(scope:XG)(pos:Pos)(it acc:VX)(env:Env) :
  compTurn (IH elt t iter ifs t2 iter2 ifs2 scope pos) 0 it acc env=(do
   V1 iter.pos
   match <- pyNext it with
   | none=>pure (.done .next)
   | some v=>
    WG t it v
    assign t env v
    let mut ok:=true
    for c in ifs do
     if ok then ok <- isTrue c env (eval c env)
    if ok then
     let x <- eval iter2 env
     V1 iter2.pos
     let x <- WH iter2 env x
     let _ <- runOwn (.compStart (IH elt t iter ifs t2 iter2 ifs2 scope pos) 1 (<- V2 [x] (pyIter x)) acc env) env
    again (.compLoop (IH elt t iter ifs t2 iter2 ifs2 scope pos) 0 it acc env)):=by rfl
theorem Gu(elt t iter:Expr)(ifs:List Expr)(t2 iter2:Expr)(ifs2:List Expr)(scope:XG)(pos:Pos)(it acc:VX)(env:Env) :
  compTurn (IH elt t iter ifs t2 iter2 ifs2 scope pos) 1 it acc env=(do
   V1 iter2.pos
   match <- pyNext it with
   | none=>pure (.done .next)
   | some v=>
    WG t2 it v
    assign t2 env v
    let mut ok:=true
    for c in ifs2 do
     if ok then ok <- isTrue c env (eval c env)
    if ok then
     (do let _ <- call (.builtin "list.append") [acc,<- eval elt env])
    again (.compLoop (IH elt t iter ifs t2 iter2 ifs2 scope pos) 1 it acc env)):=by rfl
section
variable{prog:VY}{w:VZ}{A:Va}{R:XF->Vb->Prop}{s:Vb}{elt t iter:Expr}{ifs:List Expr}{t2 iter2:Expr}{ifs2:List Expr}{scope:XG}{pos:Pos}{it acc:VX}{env:Env}
theorem Gw(I:Nat->Vb->Prop)(turn:∀ n s,I n s->Vc (model prog w) A (pyNext it) (fun r s₁=>match r with
   | .none=>R (.ok .next) s₁
   | some v=>Vc (model prog w) A (WG t2 it v) (fun _ s₁'=>Vc (model prog w) A (assign t2 env v) (fun _ s₂=>
     Vc (model prog w) A (forIn ifs2 true fun c r=>if r=true then do let ok <- isTrue c env (eval c env);pure (XH ok) else pure (XH r)) (fun ok s₃=>
      if ok=true then Vc (model prog w) A (eval elt env) (fun x s₄=>
       Vc (model prog w) A (call (.builtin "list.append") [acc,x]) (fun _ s₅=>∃ m,m<n/\I m s₅) (fun _ _=>False) s₄) (fun _ _=>False) s₃
      else ∃ m,m<n/\I m s₃) (fun _ _=>False) s₂) (fun _ _=>False) s₁') (fun _ _=>False) s₁) (fun _ _=>False) s)(n:Nat)(h:I n s):Wq (model prog w) A (.compLoop (IH elt t iter ifs t2 iter2 ifs2 scope pos) 1 it acc env) R s:=by
 refine codeAny_loop rfl I (fun n s hI=>?_) n h
 show Vc _ A ((compTurn (IH elt t iter ifs t2 iter2 ifs2 scope pos) 1 it acc env).onRaise (fun x=>do noteFrame x env;XI x)) _ _ s
 refine wpAny_noted ?_
 rw[Gu]
 refine Ve (XJ (Ve (Vv (turn n s hI) (fun r s₁ h₁=>?_) fun _ _ h'=>h'.elim)))
 cases r with
 | none=>exact WM h₁
 | some v=>
  refine Ve (Vv h₁ (fun _ s₁' h₁'=>?_) fun _ _ h'=>h'.elim)
  refine Ve (Vv h₁' (fun _ s₂ h₂=>Ve (Vv h₂ (fun ok s₃ h₃=>?_) fun _ _ h'=>h'.elim)) fun _ _ h'=>h'.elim)
  cases ok with
  | false=>exact WM ⟨rfl,h₃⟩
  | true=>exact Ve (Ve (Vv h₃ (fun x s₄ h₄=>Ve (Vv h₄ (fun _ s₅ h₅=>WM (WM ⟨rfl,h₅⟩)) fun _ _ h'=>h'.elim)) fun _ _ h'=>h'.elim))
theorem Gv(I:Nat->Vb->Prop)(turn:∀ n s,I n s->Vc (model prog w) A (pyNext it) (fun r s₁=>match r with
   | .none=>R (.ok .next) s₁
   | some v=>Vc (model prog w) A (WG t it v) (fun _ s₁'=>Vc (model prog w) A (assign t env v) (fun _ s₂=>
     Vc (model prog w) A (forIn ifs true fun c r=>if r=true then do let ok <- isTrue c env (eval c env);pure (XH ok) else pure (XH r)) (fun ok s₃=>
      if ok=true then Vc (model prog w) A (eval iter2 env) (fun x s₄=>
       Vc (model prog w) A (pyIter x) (fun it2 s₅=>Wq (model prog w) A (.compStart (IH elt t iter ifs t2 iter2 ifs2 scope pos) 1 it2 acc env) (fun r s₆=>match r with | .ok _=>∃ m,m<n/\I m s₆ | .error _=>False) s₅) (fun _ _=>False) s₄) (fun _ _=>False) s₃
      else ∃ m,m<n/\I m s₃) (fun _ _=>False) s₂) (fun _ _=>False) s₁') (fun _ _=>False) s₁) (fun _ _=>False) s)(hs:∀ x,WH iter2 env x=pure x)(n:Nat)(h:I n s):Wq (model prog w) A (.compLoop (IH elt t iter ifs t2 iter2 ifs2 scope pos) 0 it acc env) R s:=by
 refine codeAny_loop rfl I (fun n s hI=>?_) n h
 show Vc _ A ((compTurn (IH elt t iter ifs t2 iter2 ifs2 scope pos) 0 it acc env).onRaise (fun x=>do noteFrame x env;XI x)) _ _ s
 refine wpAny_noted ?_
 rw[Gs]
 refine Ve (XJ (Ve (Vv (turn n s hI) (fun r s₁ h₁=>?_) fun _ _ h'=>h'.elim)))
 cases r with
 | none=>exact WM h₁
 | some v=>
  refine Ve (Vv h₁ (fun _ s₁' h₁'=>?_) fun _ _ h'=>h'.elim)
  refine Ve (Vv h₁' (fun _ s₂ h₂=>Ve (Vv h₂ (fun ok s₃ h₃=>?_) fun _ _ h'=>h'.elim)) fun _ _ h'=>h'.elim)
  cases ok with
  | false=>exact WM ⟨rfl,h₃⟩
  | true=>
   refine Ve (Vv h₃ (fun x s₄ h₄=>Ve (XJ (Ve (ZM (hs x) (Ve (Vd (Vv h₄ (fun it2 s₅ h₅=>?_) fun _ _ h'=>h'.elim))))))) fun _ _ h'=>h'.elim)
   refine Ve (wpAny_runOwn (YB h₅ fun r s₆ h₆=>?_))
   cases r with
   | ok f=>exact WM ⟨rfl,h₆⟩
   | error e=>exact h₆.elim
theorem DC(h0:Wq (model prog w) A (.compLoop (IH elt t iter ifs t2 iter2 ifs2 scope pos) 1 it acc env) R s)(h:Vc (model prog w) A (pyIter it) (fun it' s'=>Wq (model prog w) A (.compLoop (IH elt t iter ifs t2 iter2 ifs2 scope pos) 1 it' acc env) R s')
   (notedBy (model prog w) A env fun x s'=>R (.error x) s') s) :
  Wq (model prog w) A (.compStart (IH elt t iter ifs t2 iter2 ifs2 scope pos) 1 it acc env) R s:=by
 refine ZL ?_
 show Vc _ _ ((compStart (IH elt t iter ifs t2 iter2 ifs2 scope pos) 1 it acc env).onRaise (fun x=>do noteFrame x env;V1 theWindowsPlace)) _ _ s
 refine wpAny_notedAt ?_
 unfold compStart
 show Vc _ _ (ask >>= _) _ _ s
 refine Ve (ZR (wpAny_ite ?_))
 split
 .first
   | exact Ve (WM (WM (ax rfl h0)))
   | exact WM (ax rfl h0)
 .first
   | exact Ve (ZH (Ve (XJ (Ve (Vv h (fun it' s' h'=>WM (ax rfl h')) fun _ _ x=>x)))))
   | (refine Ve (ZH ?_);show Vc _ _ (V1 iter2.pos >>= _) _ _ s;exact Ve (XJ (Ve (Vv h (fun it' s' h'=>WM (ax rfl h')) fun _ _ x=>x))))
end
noncomputable def PE(c:Ctx)(t2 elt:Expr)(ifs2:List Expr)(D:Addr)(n:Nat)(x:Nat->V)(Ok:Hp->Prop)(m:Lo)(H:Hp)(Fin:Hp->Prop):Prop:=
 ∃ I2:Nat->Lo->Hp->Prop,I2 0 m H/\(∀ i m2 H2,i<n->I2 i m2 H2->Ok H2/\Fs c t2 (x i) m2 H2 fun m3 H3=>DQ c ifs2 m3 H3 fun b m4 H4=>
  if b then Af c elt m4 H4 fun v m5 H5=>Ck c (.bi "list.append") [.ref D,v] m5 H5 fun _ m6 H6=>I2 (i+1) m6 H6 else I2 (i+1) m4 H4)/\∀ m2 H2,I2 n m2 H2->Ok H2/\Fin H2
theorem MZ{c:Ctx}{t elt iter:Expr}{ifs:List Expr}{t2 iter2:Expr}{ifs2:List Expr}{scope:XG}{pos:Pos}{it:VX}{fp:List Addr}{n:Nat}{x:Nat->V}{Ok:Hp->Prop}{J:Nat->Heap->Prop}{J':Nat->VX->Heap->Prop}{D:Addr}{RR:XF->Vb->Prop}{s:Vb}{m:Lo}{H H0:Hp}{base:Heap}{Fin:Hp->Prop}(W:Iter c t2 it fp n x Ok J J')(R1:Rel c ⟨m,H⟩ s)(F1:Fp c.env.locals H0 H base s.heap)(A1:Aj c H s.heap fp)(hfr:∀ b∈fp,base.get? b=.none)(j1:J 0 s.heap)(hI:PE c t2 elt ifs2 D n x Ok m H Fin)(post:∀ m' H' h tk,Rel c ⟨m',H'⟩ (sw s h tk)->Fp c.env.locals H0 H' base h->Fin H'->RR (.ok .next) (sw s h tk)) :
  Wq (model c.prog c.w) c.A (.compLoop (IH elt t iter ifs t2 iter2 ifs2 scope pos) 1 it (.ref D) c.env) RR s:=by
 obtain⟨I,i0,step,fin⟩:=hI
 refine Gw (Ek c s H0 base fp J I n) ?_ (n+1)
  (Ek.mk (i:=0) (h':=s.heap) (tk':=(Bq s s.toks)) R1 F1 A1 j1 i0 (WJ _) rfl)
 intro k' s' hJ
 refine Ek.use (G:=fun s'=>Vc _ _ (pyNext it) _ _ s') hJ fun i m2 H2 h2 tk2 R2 F2 A2 j2 hI hle hkk=>?_
 refine Jx fun G hG=>?_
 by_cases hlt:i<n
 .obtain⟨ok,body⟩:=step i m2 H2 hlt hI
  refine hG (W.item i m2 H2 _ hlt R2 A2 ok j2 _ fun v h3 tk3 R3 k3 A3 j3 r3=>?_)
  have F3:=F2.off hfr k3
  refine W.go i v m2 H2 _ R3 A3 j3 r3 _ fun h4 tk4 R4 k4 A4 j4 r4=>?_
  have F4:=F3.off hfr k4
  refine body _ v R4 r4 _ fun _ _ m5 H5 h5 tk5 R5 F5 _ q5=>?_
  refine q5.run _ R5 _ fun b vb m6 H6 h6 tk6 R6 F6 r6 q6=>?_
  refine Jx fun G hG=>?_
  cases r6
  have A5:=A4.step F5
  have A6:=A5.step F6
  have kp6:∀ b∈fp,∀ o,h4.get? b=some o->h6.get? b=some o:=fun b hb o e=>
   F6.keep b o (A5 b hb).1 (A5 b hb).2.1 (F5.keep b o (A4 b hb).1 (A4 b hb).2.1 e)
  have F6':=(F4.trans R4.hasL F5).trans R5.hasL F6
  cases b with
  | false=>exact hG ⟨n+1-(i+1),by rw[hkk];exact AJ 2 (.t Y0 Y1) (.t (.s (.a Y1 N1) (.a Y0 N1)) (.s (.a Y1 N1) Y0)) [_,_] hlt,Ek.mk (i:=i+1) (h':=h6) (tk':=tk6) R6 F6' A6 (W.keep _ _ _ j4 kp6) q6 hlt rfl⟩
  | true=>
   refine hG (q6 _ R6 _ fun u vu m7 H7 h7 tk7 R7 F7 r7 q7=>?_)
   have A7:=A6.step F7
   refine q7 _ _ _ R7 rfl ⟨_,_,rfl,rfl,⟨_,_,rfl,r7,rfl⟩⟩ _ fun _ _ m8 H8 h8 tk8 R8 F8 _ q8=>?_
   have A8:=A7.step F8
   have kp8:∀ b∈fp,∀ o,h4.get? b=some o->h8.get? b=some o:=fun b hb o e=>
    F8.keep b o (A7 b hb).1 (A7 b hb).2.1 (F7.keep b o (A6 b hb).1 (A6 b hb).2.1 (kp6 b hb o e))
   exact⟨n+1-(i+1),by rw[hkk];exact AJ 2 (.t Y0 Y1) (.t (.s (.a Y1 N1) (.a Y0 N1)) (.s (.a Y1 N1) Y0)) [_,_] hlt,Ek.mk (i:=i+1) (h':=h8) (tk':=tk8) R8 ((F6'.trans R6.hasL F7).trans R7.hasL F8) A8 (W.keep _ _ _ j4 kp8) q8 hlt rfl⟩
 .have hin:i=n:=by exact AL 2 (.l Y0 Y1) (.no (.t Y0 Y1)) (.e Y0 Y1) [_,_] hle hlt
  subst hin
  obtain⟨ok,q⟩:=fin m2 H2 hI
  refine hG (W.done m2 H2 _ R2 A2 ok j2 _ fun h3 tk3 R3 k3=>?_)
  exact post m2 H2 h3 tk3 R3 (F2.off hfr k3) q
section
variable{c:Ctx}{m:Lo}{H:Hp}{pos:Pos}{Q:V->Lo->Hp->Prop}
noncomputable def LA(c c2:Ctx)(t elt:Expr)(ifs:List Expr)(t2 iter2:Expr)(ifs2:List Expr)(D:Addr)(n:Nat)(x:Nat->V)(Ok:Hp->Prop)(H1:Hp)(Fin:Hp->Prop):Prop:=
 ∃ I:Nat->Hp->Prop,I 0 ((D,.list [])::H1)/\(∀ i H2,i<n->I i H2->Ok H2/\Fs c2 t (x i) [] H2 fun m3 H3=>DQ c2 ifs m3 H3 fun b m4 H4=>
  if b then DU c2 t2 iter2 m4 H4 fun n2 x2 Ok2 m5 H5=>PE c2 t2 elt ifs2 D n2 x2 Ok2 m5 H5 (I (i+1)) else I (i+1) H4)/\∀ H2,I n H2->Ok H2/\Fin H2
noncomputable def DN(c:Ctx)(s:Vb)(m1:Lo)(H:Hp)(base:Heap)(fp:List Addr)(C:Addr)(J:Nat->Heap->Prop)(I:Nat->Hp->Prop)(n k:Nat)(s':Vb):Prop:=∀ G:Vb->Prop,
 (∀ i m2 H' h' tk',Rel c ⟨m1,H'⟩ (sw s h' tk')->Fp c.env.locals H H' base h'->Aj c H' h' fp->(C∉dom H'/\C≠c.env.locals/\c.G C=.none)->h'.Ns C m2->J i h'->I i H'->i<=n->k=n+1-i->G (sw s h' tk'))->G s'
theorem DN.use{s:Vb}{m1:Lo}{base:Heap}{fp:List Addr}{C:Addr}{J:Nat->Heap->Prop}{I:Nat->Hp->Prop}{n k:Nat}{s':Vb}{G:Vb->Prop}(h:DN c s m1 H base fp C J I n k s')(f:∀ i m2 H' h' tk',Rel c ⟨m1,H'⟩ (sw s h' tk')->Fp c.env.locals H H' base h'->Aj c H' h' fp->(C∉dom H'/\C≠c.env.locals/\c.G C=.none)->h'.Ns C m2->J i h'->I i H'->i<=n->k=n+1-i->G (sw s h' tk')):G s':=h G f
theorem DN.mk{s:Vb}{m1:Lo}{base:Heap}{fp:List Addr}{C:Addr}{J:Nat->Heap->Prop}{I:Nat->Hp->Prop}{n k:Nat}{i:Nat}{m2:Str->Option VX}{H':Hp}{h':Heap}{tk':Tk}(a1:Rel c ⟨m1,H'⟩ (sw s h' tk'))(a2:Fp c.env.locals H H' base h')(a3:Aj c H' h' fp)(a4:(C∉dom H'/\C≠c.env.locals/\c.G C=.none))(a5:h'.Ns C m2)(a6:J i h')(a7:I i H')(a8:i<=n)(a9:k=n+1-i):DN c s m1 H base fp C J I n k (sw s h' tk'):=
 fun _ f=>f i m2 H' h' tk' a1 a2 a3 a4 a5 a6 a7 a8 a9
theorem Ku{RR:XF->Vb->Prop}{scope:XG}{cl:List (Str×Addr)}{hk:scope.kind=.function}{t elt iter:Expr}{ifs:List Expr}{t2 iter2:Expr}{ifs2:List Expr}{it:VX}{fp:List Addr}{n:Nat}{x:Nat->V}{Ok:Hp->Prop}{J:Nat->Heap->Prop}{J':Nat->VX->Heap->Prop}{H1:Hp}{m1:Lo}{s:Vb}{base:Heap}{D C:Addr}{Fin:Hp->Prop}{m0:Str->Option VX}(hs:∀ x,WH iter2 (XM scope cl C c.env) x=pure x)(W:Iter c t it fp n x Ok J J')(hw:LA c (c.comp scope cl C hk) t elt ifs t2 iter2 ifs2 D n x Ok H1 Fin)(R1:Rel c ⟨m1,(D,.list [])::H1⟩ s)(F1:Fp c.env.locals H ((D,.list [])::H1) base s.heap)(A1:Aj c ((D,.list [])::H1) s.heap fp)(hfr:∀ b∈fp,base.get? b=.none)(hC:base.get? C=.none)(hCo:C∉dom ((D,.list [])::H1)/\C≠c.env.locals/\c.G C=.none)(hCf:C∉fp)(hn:s.heap.Ns C m0)(j:J 0 s.heap)(post:∀ H2 h2 tk2 m2,Rel c ⟨m1,H2⟩ (sw s h2 tk2)->Fp c.env.locals H H2 base h2->h2.Ns C m2->(C∉dom H2/\C≠c.env.locals/\c.G C=.none)->Fin H2->RR (.ok .next) (sw s h2 tk2)) :
  Wq (model c.prog c.w) c.A (.compLoop (IH elt t iter ifs t2 iter2 ifs2 scope pos) 0 it (.ref D) (XM scope cl C c.env)) RR s:=by
 obtain⟨I,i0,step,fin⟩:=hw
 refine Gv (DN c s m1 H base fp C J I n) ?_ hs (n+1) (DN.mk (i:=0) (h':=s.heap) (tk':=(Bq s s.toks)) R1 F1 A1 hCo hn j i0 (WJ _) rfl)
 intro k s' hJ
 refine DN.use (G:=fun s'=>Vc _ _ (pyNext it) _ _ s') hJ fun i m2 H2 h2 tk2 R2 F2 A2 hC2 hn2 j2 hI hle hkk=>?_
 refine Jx fun G hG=>?_
 by_cases hlt:i<n
 .obtain⟨ok,body⟩:=step i H2 hlt hI
  refine hG (W.item i m1 H2 _ hlt R2 A2 ok j2 _ fun v h3 tk3 R3 k3 A3 j3 r3=>?_)
  have F3:=F2.off hfr k3
  have hn3:h3.Ns C m2:=hn2.at' fun o e=>k3 C o hCf e
  refine W.go i v m1 H2 _ R3 A3 j3 r3 _ fun h4 tk4 R4 k4 A4 j4 r4=>?_
  have F4:=F3.off hfr k4
  have hn4:h4.Ns C m2:=hn3.at' fun o e=>k4 C o hCf e
  have R4':Rel (c.comp scope cl C hk) ⟨[],H2⟩ _:=R4.inner hn4 hC2.1 hC2.2.2
  have A4':Aj (c.comp scope cl C hk) H2 h4 fp:=fun b q=>by
   obtain⟨a1,a2,a3,a4⟩:=A4 b q
   exact⟨a1,fun e=>(by have e':b=C:=e;subst e';exact hCf q),a3,a4⟩
  refine body _ v R4' r4 _ fun _ _ m5 H5 h5 tk5 R5 F5 _ q5=>?_
  refine q5.run _ R5 _ fun b vb m6 H6 h6 tk6 R6 F6 r6 q6=>?_
  refine Jx fun G hG=>?_
  cases r6
  have F56:=F5.trans R5.hasL F6
  -- a run of the inside that ends at H',h'
  have close:∀ m' H' h' tk',Rel (c.comp scope cl C hk) ⟨m',H'⟩ (sw s h' tk')->Fp C H2 H' h4 h'->I (i+1) H'->∃ k1,k1<k/\DN c s m1 H base fp C J I n k1 (sw s h' tk'):=fun m' H' h' tk' R' F' hI'=>by
   have A':=A4'.step F'
   have kp:∀ b∈fp,∀ o,h4.get? b=some o->h'.get? b=some o:=fun b hb o e=>F'.keep b o (A4' b hb).1 (A4' b hb).2.1 e
   obtain⟨m6',hn6,_⟩:=R'.loc
   refine⟨n+1-(i+1),by rw[hkk];exact AJ 2 (.t Y0 Y1) (.t (.s (.a Y1 N1) (.a Y0 N1)) (.s (.a Y1 N1) Y0)) [_,_] hlt,DN.mk (i:=i+1) (h':=h') (tk':=tk') (R4.outer R4' (Wf hC2.2.1) F' R') (F4.via hC F') (fun b hb=>?_) ⟨fun q=>(R'.apart C q).1 rfl,hC2.2⟩ hn6 (W.keep _ _ _ j4 kp) hI' hlt rfl⟩
   obtain⟨a1,a2,a3,a4⟩:=A' b hb
   exact⟨a1,(A2 b hb).2.1,a3,a4⟩
  cases b with
  | false=>exact hG (close m6 H6 h6 tk6 R6 F56 q6)
  | true=>
   refine hG (q6 _ R6 _ fun it2 fp2 n2 x2 Ok2 J2 J2' m7 H7 h7 tk7 W2 R7 F7 A7 fr7 j7 q7=>?_)
   have F57:=F56.trans R6.hasL F7
   have fr7':∀ b∈fp2,h4.get? b=.none:=fun b hb=>by
    cases q:h4.get? b with
    | none=>rfl
    | some o=>obtain⟨o',e⟩:=F56.alive b o q;rw[show h6.get? b=.none from fr7 b hb]at e;cases e
   have main:∀ RR':XF->Vb->Prop,(∀ m' H' h' tk',Rel (c.comp scope cl C hk) ⟨m',H'⟩ (sw s h' tk')->Fp C H2 H' h4 h'->I (i+1) H'->RR' (.ok .next) (sw s h' tk')) ->
     Wq (model c.prog c.w) c.A (.compLoop (IH elt t iter ifs t2 iter2 ifs2 scope pos) 1 it2 (.ref D) (XM scope cl C c.env)) RR' (sw s h7 tk7):=fun RR' p=>
    MZ (c:=c.comp scope cl C hk) W2 R7 F57 A7 fr7' j7 q7 fun m8 H8 h8 tk8 R8 F8 q8=>p m8 H8 h8 tk8 R8 F8 q8
   exact DC (main _ fun m8 H8 h8 tk8 R8 F8 q8=>close m8 H8 h8 tk8 R8 F8 q8) (Vv (W2.self _ _ j7 (main _ fun m8 H8 h8 tk8 R8 F8 q8=>close m8 H8 h8 tk8 R8 F8 q8)) (fun _ _ q=>q) fun _ _ q=>q.elim)
 .have hin:i=n:=by exact AL 2 (.l Y0 Y1) (.no (.t Y0 Y1)) (.e Y0 Y1) [_,_] hle hlt
  subst hin
  obtain⟨ok,q⟩:=fin H2 hI
  refine hG (W.done m1 H2 _ R2 A2 ok j2 _ fun h3 tk3 R3 k3=>?_)
  exact post H2 h3 tk3 m2 R3 (F2.off hfr k3) (hn2.at' fun o e=>k3 C o hCf e) hC2 q
theorem QP{t elt iter:Expr}{ifs:List Expr}{t2 iter2:Expr}{ifs2:List Expr}{scope:XG}{cl:List (Str×Addr)}(hclos:Xb scope c.env=pure cl)(hk:scope.kind=.function)(h:DU c t iter m H fun n x Ok m1 H1=>∀ C D,LA c (c.comp scope cl C hk) t elt ifs t2 iter2 ifs2 D n x Ok H1 fun H2=>Q (.ref D) m1 H2)(hcell:autoParam (∀ y∈scope.names,y.2≠.cell) BX)(hnames:autoParam (∀ y∈scope.names,y.2=.local->scope.names.lookup y.1=some .local) BX)(hs:autoParam (∀ x,WH iter c.env x=pure x) C4)(hs2:autoParam (∀ C x,WH iter2 (XM scope cl C c.env) x=pure x) G0):Af c (IH elt t iter ifs t2 iter2 ifs2 scope pos) m H Q:=fun s R P k=>by
 rw[eval_ListComp]
 refine Xc (use:=.none) rfl hs hclos hk hnames (h s R _ fun it fp n x Ok J J' m1 H1 h1 tk1 W R1 F1 A1 hfr j1 q=>?_)
 refine XX ?_
 refine XY hcell (fun y hy=>by cases hy) (fun h' hn hs'=>?_) hk
 have e1:(h1.push { cls:=.type "list",data:=.seq #[] }).objs.size=h1.objs.size+1:=by simp
 have g1:∀ b o,h1.get? b=some o->(h1.push { cls:=.type "list",data:=.seq #[] }).get? b=some o:=AH
 have g2:∀ b o,(h1.push { cls:=.type "list",data:=.seq #[] }).get? b=some o->h'.get? b=some o:=fun b o e=>
  (hs'.2 b (WA (WB e))).trans (AH b o e)
 have g:∀ b o,h1.get? b=some o->h'.get? b=some o:=fun b o e=>g2 b o (g1 b o e)
 have hl:IsL h' h1.objs.size #[] 0:=g2 _ _ (WR _ rfl)
 have fD:=R1.fresh (AR h1)
 have cN:h1.get? (h1.objs.size+1)=.none:=Bk (Vo _)
 have fC:=R1.fresh cN
 have back:∀ b,h1.get? b=.none->s.heap.get? b=.none:=fun b hb=>by
  cases q:s.heap.get? b with
  | none=>rfl
  | some o=>obtain⟨o',e⟩:=F1.alive _ _ q;rw[hb]at e;cases e
 have live:∀ b∈fp,b<h1.objs.size:=fun b hb=>by obtain⟨_,_,_,o,ho,_⟩:=A1 b hb;exact WB ho
 have hnt:∀ b∈fp,b≠h1.objs.size:=fun b hb=>WA (live b hb)
 have RN:∀ n0:Nat,tk1.toks<=n0->Rel c ⟨m1,(h1.objs.size,.list [])::H1⟩ (sw s h' ⟨n0,tk1.drawn,tk1.gens⟩):=fun n0 ht=>R1.new (h':=h') ⟨n0,tk1.drawn,tk1.gens⟩ g (AR h1) (O.list_mk hl rfl)
 have FN:Fp c.env.locals H ((h1.objs.size,.list [])::H1) s.heap h':=F1.trans R1.hasL (.new g (AR h1))
 have eC:({ newEnv scope (h1.push { cls:=.type "list",data:=.seq #[] }).objs.size c.env.globals cl c.env.qual .none .none (some c.env) 0 with scope:=XW scope c.env }:Env)=XM scope cl (h1.objs.size+1) c.env:=by rw[e1];rfl
 have e2:(newEnv scope (h1.push { cls:=.type "list",data:=.seq #[] }).objs.size c.env.globals cl c.env.qual .none .none (some c.env) 0).locals=h1.objs.size+1:=e1
 show Wq _ _ (.compStart _ 0 it (.ref h1.objs.size) { newEnv scope (h1.push { cls:=.type "list",data:=.seq #[] }).objs.size c.env.globals cl c.env.qual .none .none (some c.env) 0 with scope:=XW scope c.env }) (XV _ _ _ .none P (.ref h1.objs.size) (newEnv scope (h1.push { cls:=.type "list",data:=.seq #[] }).objs.size c.env.globals cl c.env.qual .none .none (some c.env) 0).locals) _
 rw[eC,e2]
 have main:=fun (n0:Nat) (ht:tk1.toks<=n0)=>Ku (c:=c) (H:=H) (pos:=pos) (RR:=XV (model c.prog c.w) c.A (fun _ _=>False) .none P (.ref h1.objs.size) (h1.objs.size+1)) (iter:=iter) (hk:=hk) (s:=(sw s h' ⟨n0,tk1.drawn,tk1.gens⟩)) (base:=s.heap) (D:=h1.objs.size) (C:=h1.objs.size+1)
  (hs2 _) W (q (h1.objs.size+1) h1.objs.size) (RN n0 ht) FN (fun b hb=>by
   obtain⟨a1,a2,a3,o,ho,nt⟩:=A1 b hb
   exact⟨fun q=>(Vq.mp q).elim (hnt b hb) a1,a2,a3,o,g b o ho,nt⟩) hfr (back _ cN) ⟨fun q=>by
   rcases Vq.mp q with e|e
   .exact absurd (e:h1.objs.size+1=h1.objs.size) (XZ _)
   .exact fC.1 e,fC.2⟩ (fun q=>absurd (live _ q) (WL.mpr (Vo _)))
  (m0:=fun x=>([]:List (Str×VX)).reverse.lookup x) (by rw[<- e1];exact hn) (W.keep _ _ _ j1 fun b _ o e=>g b o e) (fun H2 h2 tk2 m2 R2 F2 N o q=>by
   refine⟨m2,N,fun h'' hs''=>?_⟩
   obtain⟨oC,es,ep,hoC,hdC,_⟩:=N
   have R3:=R2.off (h':=h'') tk2 hoC (fun _ _ _ q=>by rw[hdC]at q;cases q.2) o.1 o.2.1 o.2.2 (Heap.SameBut.kp hs'')
   exact k (.ref h1.objs.size) _ m1 _ h'' tk2 R3 (F2.off (fp:=[h1.objs.size+1]) (fun b hb=>by simp at hb;subst hb;exact back _ cN) (BH (Heap.SameBut.kp hs''))) rfl q)
 exact Xa (main _ (by first|exact Vn _|exact Vo _|exact W5 _ _)) (Vv (W.self _ _ (W.keep _ _ _ j1 fun b _ o e=>g b o e) (main _ (by first|exact Vn _|exact Vo _|exact W5 _ _))) (fun _ _ q=>q) fun _ _ q=>q.elim)
end
section
variable{c:Ctx}{m:Lo}{H:Hp}{pos:Pos}{Q:V->Lo->Hp->Prop}
theorem T1{t elt iter:Expr}{ifs:List Expr}{t2 iter2:Expr}{ifs2:List Expr}{scope:XG}{cl:List (Str×Addr)}(hclos:Xb scope c.env=pure cl)(hk:scope.kind=.function)(h:DU c t iter m H fun n x Ok m1 H1=>∀ c2 D,Inner c scope cl c2->LA c c2 t elt ifs t2 iter2 ifs2 D n x Ok H1 fun H2=>Q (.ref D) m1 H2)(hcell:autoParam (∀ y∈scope.names,y.2≠.cell) BX)(hnames:autoParam (∀ y∈scope.names,y.2=.local->scope.names.lookup y.1=some .local) BX)(hs:autoParam (∀ x,WH iter c.env x=pure x) C4)(hs2:autoParam (∀ C x,WH iter2 (XM scope cl C c.env) x=pure x) G0):Af c (IH elt t iter ifs t2 iter2 ifs2 scope pos) m H Q:=
 QP hclos hk (fun s R P k=>h s R P fun it fp n x Ok J J' m1 H1 h1 tk W R1 F1 A1 fr j q=>k it fp n x Ok J J' m1 H1 h1 tk W R1 F1 A1 fr j fun C D=>q _ D (c.inner scope cl C hk)) hcell hnames hs hs2
end
section
set_option genSizeOfSpec false
set_option genInjectivity false
set_option genSizeOf false
structure M4 where
 x:Addr
 d:Addr
 D:Addr
 S:Addr
 S2:Addr
 rb:Addr
 J:At
 on:Bool
noncomputable abbrev fM(M:M4)(fc mb:At)(ra:Addr):List (Str×V):=[("bpopular",.ref M.S2),("bjunk",.ref M.S),("b2j",.ref M.D),("fullbcount",.at fc),("opcodes",.none),("matching_blocks",.at mb),("b",.ref M.rb),("a",.ref ra),("autojunk",.bool M.on),("isjunk",.at M.J)]
noncomputable def Jb:List Str:=["bpopular","bjunk","b2j","fullbcount","opcodes","matching_blocks","b","a","autojunk","isjunk"]
noncomputable abbrev hM(M:M4)(fc mb:At)(ra:Addr)(H:Hp):Hp:=(M.x,.inst 242 M.d)::(M.d,.ns (fM M fc mb ra))::H
structure A4 where
 m1:M4
 m2:M4
 m3:M4
 cfi:Addr
 cse:Addr
 its:Addr
 items:List Int
 sec:List Int
 B:List Int
 cut:Nat
 jk:IS->Bool
 W:Hp
structure Z4 where
 a1:Addr
 a2:Addr
 a3:Addr
 fc:At
 mb2:At
 mb3:At
 fi:Option V
 ps:Array VX
noncomputable abbrev H4(a:A4)(s:Z4)(R:Hp):Hp:=hM a.m1 s.fc .none s.a1 (hM a.m2 .none s.mb2 s.a2 (hM a.m3 .none s.mb3 s.a3 ((220,.obj (tabObj s.ps))::(a.cfi,.cell s.fi)::R)))
noncomputable abbrev HA(n:Nat):List Int:=Xd n 0
noncomputable def RM(R:Hp)(M:M4)(B:List Int):Prop:=∃ ep es z ks,(M.D,O.dict ep es)∈R/\(M.S,O.set z ks)∈R/\DR R es (iO B)
structure Bs4(c:Ctx)(a:A4)(R:Hp):Prop where
 bi:(V.at a.m1.J).notBi=true
 jk:∀ k,BY c (k+1) (.at a.m1.J) a.jk a.W
 jw:∀ q∈a.W,q∈R
 hcs:(a.cse,O.cell (some (.ref a.m1.rb)))∈R
 hsec:(a.m1.rb,O.list (a.sec.map .int))∈R
 hits:(a.its,O.list (a.items.map .int))∈R
 hB:(a.m2.rb,O.list (a.B.map .int))∈R
 hz:(a.m3.rb,O.list ((HA a.sec.length).map .int))∈R
 c2:RM R a.m2 a.B
 c3:RM R a.m3 (HA a.sec.length)
 tab:∃ ps,(248,O.obj (tabObj ps))∈R
structure Pl4(a:A4):Prop where
 pB:a.B.Perm a.sec
 sB:a.B.Pairwise (·<=·)
 zi:a.items.length<=66
 zc:a.cut<=a.items.length
 hs:∃ n,n<=200/\a.sec=a.items.drop a.cut++Xd n 0
noncomputable def UG(R:Hp)(sec:List Int)(fc:At):Prop:=fc=.none∨∃ D ep es,fc=.ref D/\(D,O.dict ep es)∈R/\DS es sec
structure Fl4(s:Z4)(R:Hp):Prop where
 l1:∃ l:List V,(s.a1,O.list l)∈R
 l2:∃ l:List V,(s.a2,O.list l)∈R
 l3:∃ l:List V,(s.a3,O.list l)∈R
structure Ok4(c:Ctx)(a:A4)(s:Z4)(R:Hp):Prop where
 bs:Bs4 c a R
 pl:Pl4 a
 fl:Fl4 s R
 fc:UG R a.sec s.fc
 tri:aQ s.ps.toList
section
variable{c:Ctx}{a:A4}{s:Z4}{R R':Hp}
theorem RM.mono{M:M4}{B:List Int}(h:RM R M B)(u:∀ q∈R,q∈R'):RM R' M B:=by
 obtain⟨ep,es,z,ks,h1,h2,h3⟩:=h
 exact⟨ep,es,z,ks,u _ h1,u _ h2,h3.mono u⟩
theorem Bs4.mono(h:Bs4 c a R)(u:∀ q∈R,q∈R'):Bs4 c a R':=⟨h.bi,h.jk,fun q hq=>u q (h.jw q hq),u _ h.hcs,u _ h.hsec,u _ h.hits,u _ h.hB,u _ h.hz,h.c2.mono u,h.c3.mono u,h.tab.imp fun ps q=>u _ q⟩
theorem UG.mono{l:List Int}{fc:At}(h:UG R l fc)(u:∀ q∈R,q∈R'):UG R' l fc:=h.imp id fun t8=>t8.elim fun D t9=>t9.elim fun ep t9=>t9.elim fun es t9=>t9.elim fun h1 t9=>t9.elim fun h2 h3=>⟨D,ep,es,h1,u _ h2,h3⟩
theorem Fl4.mono(h:Fl4 s R)(u:∀ q∈R,q∈R'):Fl4 s R':=⟨h.l1.imp fun _ q=>u _ q,h.l2.imp fun _ q=>u _ q,h.l3.imp fun _ q=>u _ q⟩
theorem Ok4.mono(h:Ok4 c a s R)(u:∀ q∈R,q∈R'):Ok4 c a s R':=⟨h.bs.mono u,h.pl,h.fl.mono u,h.fc.mono u,h.tri⟩
theorem Ok4.push(h:Ok4 c a s R)(q:Addr×O):Ok4 c a s (q::R):=h.mono fun _ hq=>mT hq
theorem Pl4.zs(h:Pl4 a):a.sec.length<=266:=by
 obtain⟨n,h1,h2⟩:=h.hs
 have:=h.zi
 rw[h2,XS,dr,eM]
 exact AL 3 (.l Y0 (.n 200)) (.l Y1 (.n 66)) (.l (.a (.s Y1 Y2) Y0) (.n 266)) [_,_,_] h1 this
theorem FO{q:Addr×O}(h:q∈R):q∈H4 a s R:=.tail _ (.tail _ (.tail _ (.tail _ (.tail _ (.tail _ (.tail _ (.tail _ h)))))))
theorem AI.m2{m:Lo}{x1 d1 x2 d2:Addr×O}:AI m (x1::d1::x2::d2::R) m (x2::d2::x1::d1::R):=
 AI.perm (eN [x2,d2] [x1,d1] R)
theorem AI.m3{m:Lo}{x1 d1 x2 d2 x3 d3:Addr×O}:AI m (x1::d1::x2::d2::x3::d3::R) m (x3::d3::x1::d1::x2::d2::R):=
 AI.perm (eN [x3,d3] [x1,d1,x2,d2] R)
theorem AI.m3b{m:Lo}{x1 d1 x2 d2 x3 d3:Addr×O}:AI m (x3::d3::x1::d1::x2::d2::R) m (x1::d1::x2::d2::x3::d3::R):=
 AI.perm (eN [x1,d1,x2,d2] [x3,d3] R)
theorem AI.sink8{m:Lo}{s1 s2 s3 s4 s5 s6 s7 s8 n:Addr×O}:AI m (n::s1::s2::s3::s4::s5::s6::s7::s8::R) m (s1::s2::s3::s4::s5::s6::s7::s8::n::R):=
 AI.perm (bW (l₁:=[s1,s2,s3,s4,s5,s6,s7,s8]))
theorem GS{s1 s2 s3 s4 s5 s6 s7 s8:Addr×O}{x y:Addr}{o o':O}(nd:(dom (s1::s2::s3::s4::s5::s6::s7::s8::(x,o)::R)).Nodup)(h:(y,o')∈R):x≠y:=
 TO (nd.sublist (((eO [s1,s2,s3,s4,s5,s6,s7,s8] ((x,o)::R))).map (·.1))) h
end
theorem F9(p:cy){c:Ctx}{k:Nat}(hf:c.fuel=k+1)(B:Base c (AQ p)){M:M4}{fc mb:At}{ra ra':Addr}{m:Lo}{Q:V->Lo->Hp->Prop}{H:Hp}{xs ys:List V}(h1:(ra',O.list xs)∈H)(h2:(ra,O.list ys)∈H)(hne:ra'≠ra)(h:Q .none m (hM M fc .none ra' H)):Ao c (.ref 174) [.ref M.x,.ref ra'] m (hM M fc mb ra H) (fun v m' H'=>∃ m2 H2,To c m' H' m2 H2/\Q v m2 H2):=
 GA p hf B (fs:=fM M fc mb ra) (ua:=.ref ra) rfl rfl (.lists h1 h2 hne) (by simp) ⟨_,_,To.ns (LC.eq (ks:=Jb) (fs':=fM M fc .none ra') ⟨by kernel_rfl,by kernel_rfl,by kernel_rfl⟩),h⟩
noncomputable def TH(s:Stmt):List Stmt:=@Stmt.casesOn (fun _=>List Stmt) s (fun _ _ _ _ _ _ _ _ _ _=>[]) (fun _ _ _ _ _ _ _ _ _ _=>[]) (fun _ _ _ _ _ _ _ _ _ _ _=>[]) (fun _ _=>[]) (fun _ _=>[]) (fun _ _ _=>[]) (fun _ _ _ _ _ _ _=>[]) (fun _ _ _ _=>[]) (fun _ _ _ _ _=>[]) (fun _ _ b _ _=>b) (fun _ _ _ _ _=>[]) (fun _ _ _ _=>[]) (fun _ b _ _=>b) (fun _ _ _=>[]) (fun _ _ _=>[]) (fun _ _ _=>[]) (fun _ _ _=>[]) (fun _ _ _ _ _=>[]) (fun _ _ _ _ _=>[]) (fun _ _ _=>[]) (fun _ _=>[]) (fun _ _ _ _=>[]) (fun _ _=>[]) (fun _ _=>[]) (fun _ _=>[]) (fun _=>[]) (fun _=>[]) (fun _=>[])
noncomputable def Tv:List Stmt->List Stmt
 | s::_=>TH s
 | []=>[]
noncomputable def Iu(p:cy):List Stmt:=Tv ((AU (AM (AQ p) 251)).drop 9)
section
variable{c:Ctx}{m:Lo}{H:Hp}{pos p1 p2 p3:Pos}{k1:Nat}
theorem Pu.div{l r:Expr}{a b:Int}(h1:Pu c l m H (.int a))(h2:Pu c r m H (.int b))(h0:autoParam (b≠0) BX)(hb:autoParam (b.natAbs<1073741824) BX):Pu c (.BinOp l .FloorDiv r pos) m H (.int (a.fdiv b)):=fun _ h=>BP (h1 _ (h2 _ (Qj h h0 hb)))
theorem Pu.mod{l r:Expr}{a b:Int}(h1:Pu c l m H (.int a))(h2:Pu c r m H (.int b))(h0:autoParam (b≠0) BX):Pu c (.BinOp l .Mod r pos) m H (.int (a.fmod b)):=fun _ h=>BP (h1 _ (h2 _ (Qi h h0)))
theorem C5.neI{l r:Expr}{a b:Int}(h1:Pu c l m H (.int a))(h2:Pu c r m H (.int b))(hm:autoParam (V0 .NotEq r=false) CZ):C5 c (.Compare l [.NotEq] [r] pos) m H (a != b):=fun _ h=>CG (h1 _ (h2 _ (T6 (Ak h)))) hm
theorem Ln(x:Int)(n:Nat):∃ k:Nat,x.fmod ((n+1:Nat):Int)=(k:Int)/\k<=n:=by
 have h1:=eQ x (b:=((n+1:Nat):Int)) (Int.natCast_pos.mpr (bM n))
 have h2:=Int.fmod_lt_of_pos x (b:=((n+1:Nat):Int)) (Int.natCast_pos.mpr (bM n))
 exact⟨(x.fmod ((n+1:Nat):Int)).toNat,(Int.toNat_of_nonneg h1).symm,b7 ((Int.toNat_lt h1).mpr h2)⟩
theorem IR{α:Type}(l:List α)(g:α->Bool)(h:α->Int):(l.filterMap fun i=>if g i then some (V.int (h i)) else none)=((l.filter g).map h).map V.int:=by
 induction l with
 | nil=>rfl
 | cons a l ih=>
  rw[aA,Wu]
  cases g a with
  | false=>exact ih
  | true=>rw[if_pos rfl,if_pos rfl,Vu,Vu,ih]
end
noncomputable abbrev PK(a:A4)(cst che:Addr):List (Str×Addr):=[(("step":Str),cst),("first",a.cfi),("second",a.cse),("head",che)]
noncomputable abbrev N5(a:A4):Lo:=[("asked",.ref a.m1.x),("ordered",.ref a.m2.x),("alike",.ref a.m3.x),("items",.ref a.its),("cut",.int (a.cut:Nat))]
noncomputable abbrev Kc(a:A4)(k:Nat):Lo:=("size",.int (k:Nat))::N5 a
noncomputable abbrev Z4.in(s:Z4)(fa:Addr):Z4:={ s with fi:=some (.ref fa) }
end
theorem GH(k:Nat):(Xd ((k:Nat):Int).toNat [V.int 0]).flatten=(HA k).map V.int:=by
 rw[VQ]
 induction k with
 | zero=>rfl
 | succ k ih=>rw[Xe,Xf,ih];rfl
section
variable(p:cy)(c:Ctx)(hfu:c.fuel=70)(B:Base c (AQ p))(hs:c.env.scope=(AM (AQ p) 251).scope){a:A4}{cst che:Addr}(hcs:c.env.cells=PK a cst che){s:Z4}{R:Hp}{k:Nat}{Q:Fl->Lo->Hp->Prop}
theorem SG(hcs:c.env.cells=PK a cst che)(hs:c.env.scope=(AM (AQ p) 251).scope)(B:Base c (AQ p))(hi:(a.its,O.list (a.items.map .int))∈R)(hz:a.items.length<=66)(hQ:∀ fa,AW c ((Iu p).drop 1) (Kc a k) (H4 a (s.in fa) ((fa,.list ((a.items.take k).map .int))::R)) Q):AW c (Iu p) (Kc a k) (H4 a s R) Q:=by
 have hn:=congrArg c0 hs
 conv at hn=>rhs;whnf
 have lIt:Lc c "items":=AG hn (by kernel_rfl)
 have lSi:Lc c "size":=AG hn (by kernel_rfl)
 have kFi:c.env.kindOf "first" = some .cell:=BO hn (by decide +kernel)
 have lFi:Ce c "first" a.cfi:=B8 hn hcs (by kernel_rfl) (by kernel_rfl)
 refine AB (Ac (IW (n:=k) (f:=V.int) (.n lIt) (.n lSi) (.mem (FO hi)) (Yi hz (by decide)) fun fa=>Fy kFi lFi (.tail (.tail (.tail (.tail (.tail (.tail (.tail (.tail (.head _))))))))) (AW.less AI.sink8 (hQ fa))))
theorem SF(hfu:c.fuel=70)(hcs:c.env.cells=PK a cst che)(hs:c.env.scope=(AM (AQ p) 251).scope)(B:Base c (AQ p)){fa:Addr}{xs:List V}(fl:Fl4 s R)(hQ:AW c ((Iu p).drop 2) (Kc a k) (H4 a { s.in fa with a1:=fa } ((fa,.list xs)::R)) Q):AW c ((Iu p).drop 1) (Kc a k) (H4 a (s.in fa) ((fa,.list xs)::R)) Q:=by
 have hn:=congrArg c0 hs
 conv at hn=>rhs;whnf
 have hC:=BM p
 have lAs:Lc c "asked":=AG hn (by kernel_rfl)
 have lFi:Ce c "first" a.cfi:=B8 hn hcs (by kernel_rfl) (by kernel_rfl)
 obtain⟨l,hl⟩:=fl.l1
 refine AB (Ad (Af.postT (AO ((Pu.n lAs) _ ⟨_,_,A9 (K:=AQ p) (C:=242) (f:=174) B hC (by kernel_rfl) (by kernel_rfl) (.mem (.head _)) (.mem (.tail _ (.head _))) rfl,AA ((Pu.cel lFi (.mem (.tail _ (.tail _ (.tail _ (.tail _ (.tail _ (.tail _ (.tail _ (.head _))))))))))
  _ (AC ⟨Aq B (by kernel_rfl),Ck.nodup fun nd=>Ao.cal (F9 p (k:=69) hfu B (.tail _ (.tail _ (.tail _ (.tail _ (.tail _ (.tail _ (.head _))))))) (.tail _ (.tail _ (.tail _ (.tail _ (.tail _ (.tail _ (.tail _ hl))))))) (GS nd hl) hQ)⟩))⟩))))
theorem SE(hfu:c.fuel=70)(hcs:c.env.cells=PK a cst che)(hs:c.env.scope=(AM (AQ p) 251).scope)(B:Base c (AQ p)){fa:Addr}{xs:List Int}(hi:s.fi=some (.ref fa))(hfa:(fa,O.list (xs.map .int))∈R)(hz:xs.length<=66)(fl:∃ l:List V,(s.a2,O.list l)∈R)(hQ:∀ oa A,ZA A xs->A.Pairwise (·<=·)->AW c ((Iu p).drop 3) (Kc a k) (H4 a { s with a2:=oa,mb2:=.none } ((oa,.list (A.map .int))::R)) Q):AW c ((Iu p).drop 2) (Kc a k) (H4 a s R) Q:=by
 have hn:=congrArg c0 hs
 conv at hn=>rhs;whnf
 have hC:=BM p
 have gs:An c "sorted" (.bi "sorted"):=B.sorted hn (by kernel_rfl)
 have lOr:Lc c "ordered":=AG hn (by kernel_rfl)
 have lFi:Ce c "first" a.cfi:=B8 hn hcs (by kernel_rfl) (by kernel_rfl)
 obtain⟨l,hl⟩:=fl
 refine AB (Ad (Af.postT (AO ((Pu.n lOr) _ ⟨_,_,A9 (K:=AQ p) (C:=242) (f:=174) B hC (by kernel_rfl) (by kernel_rfl) (.mem (.tail _ (.tail _ (.head _)))) (.mem (.tail _ (.tail _ (.tail _ (.head _))))) rfl,AA (Af.postT (AZ (BW gs (AA ((Pu.cel lFi (.mem (.tail _ (.tail _ (.tail _ (.tail _ (.tail _ (.tail _ (.tail _ (hi▸.head _)))))))))
  ) _ (AC ⟨Av,EW (.mem (FO hfa)) (Yi hz (by decide)) fun oa A hp hA=>⟨Kc a k,_,To.less (AI.sink8.trans AI.m2),AC ⟨Aq B (by kernel_rfl),Ck.nodup fun nd=>Ao.cal (F9 p (k:=69) (M:=a.m2) hfu B (.tail _ (.tail _ (.tail _ (.tail _ (.tail _ (.tail _ (.head _))))))) (.tail _ (.tail _ (.tail _ (.tail _ (.tail _ (.tail _ (.tail _ hl))))))) (GS nd hl) ?_)⟩⟩⟩))))))⟩))))
 exact AW.less AI.m2 (hQ oa A hp hA)
theorem SD(hfu:c.fuel=70)(hs:c.env.scope=(AM (AQ p) 251).scope)(B:Base c (AQ p))(hk:k<=66)(fl:∃ l:List V,(s.a3,O.list l)∈R)(hQ:∀ al,AW c ((Iu p).drop 4) (Kc a k) (H4 a { s with a3:=al,mb3:=.none } ((al,.list ((HA k).map .int))::R)) Q):AW c ((Iu p).drop 3) (Kc a k) (H4 a s R) Q:=by
 have hn:=congrArg c0 hs
 conv at hn=>rhs;whnf
 have hC:=BM p
 have lAl:Lc c "alike":=AG hn (by kernel_rfl)
 have lSi:Lc c "size":=AG hn (by kernel_rfl)
 obtain⟨l,hl⟩:=fl
 refine AB (Ad (Af.postT (AO ((Pu.n lAl) _ ⟨_,_,A9 (K:=AQ p) (C:=242) (f:=174) B hC (by kernel_rfl) (by kernel_rfl) (.mem (.tail _ (.tail _ (.tail _ (.tail _ (.head _)))))) (.mem (.tail _ (.tail _ (.tail _ (.tail _ (.tail _ (.head _))))))) rfl,AA (Af.postT (BP (Bn (AA (Pu.one _ (AC ⟨bB rfl,fun y=>(Pu.n lSi) _ (No (xs:=[V.int 0]) (.mem (.head _)) (fun al=>⟨Kc a k,_,To.less ((AI.heap (.cons_cons _ (.cons _ (.refl _)))).trans (AI.sink8.trans AI.m3)),AC ⟨Aq B (by kernel_rfl),?_⟩⟩) (Ey (Yi hk (by decide))) ?_)⟩))))))⟩))))
 .rw[GH]
  refine Ck.nodup fun nd=>Ao.cal (F9 p (k:=69) (M:=a.m3) hfu B (.tail _ (.tail _ (.tail _ (.tail _ (.tail _ (.tail _ (.head _))))))) (.tail _ (.tail _ (.tail _ (.tail _ (.tail _ (.tail _ (.tail _ hl))))))) (GS nd hl) ?_)
  exact AW.less AI.m3b (hQ al)
 .rw[VQ,dI,Nat.one_mul];exact Yi hk (by decide)
end
theorem Jz(k n:Nat):(dP (Bj k n) (Bj k n) != some .eq)=false:=by
 unfold Bj
 by_cases h:n=0
 .rw[if_pos h];decide +kernel
 .rw[if_neg h,J0 k n];rfl
section
variable(p:cy)(c:Ctx){a:A4}{cst che:Addr}{s:Z4}{R:Hp}{k:Nat}{m:Lo}{p1 p2 p3:Pos}{Q:V->Lo->Hp->Prop}
theorem Re(hfu:c.fuel=70)(B:Base c (AQ p))(lAs:Lc c "asked"){as:List Int}(h1:(s.a1,O.list (as.map .int))∈R)(h2:(a.m1.rb,O.list (a.sec.map .int))∈R)(hfc:UG R a.sec s.fc)(h5:as.length<300)(h6:a.sec.length<300)(h7:as.length+a.sec.length<512)(hq7:EU as a.sec as.length<128)(hm:m.lookup ("asked":Str)=some (.ref a.m1.x))(h:∀ D ep es R',(∀ q∈R,q∈R')->(D,O.dict ep es)∈R'->DS es a.sec->Q (.float (Bj (EU as a.sec as.length) (as.length+a.sec.length))) m (H4 a { s with fc:=.ref D } R'))(hE:LD c (.Name ("asked":Str) p1) ("quick_ratio":Str) p2 [] p3):Af c (.Call (.Attribute (.Name ("asked":Str) p1) ("quick_ratio":Str) p2) [] [] p3) m (H4 a s R) Q:=by
 have hC:=BM p
 rcases hfc with e1|⟨D,ep,es,e1,hD,hcn⟩
 .refine Af.postT (hE _ _ _ (Pu.nm lAs hm _ ⟨_,_,A9 (K:=AQ p) (C:=242) (f:=232) B hC (by kernel_rfl) (by kernel_rfl) (.mem (.head _)) (.mem (.tail _ (.head _))) rfl,AC ⟨Aq B (by kernel_rfl),Ao.cal (Rd p (k:=68) hfu B (as:=as) (bs:=a.sec) rfl rfl (congrArg (fun u=>some (V.at u)) e1) (.tail _ (.tail _ (.tail _ (.tail _ (.tail _ (.tail _ h1)))))) (.tail _ (.tail _ (.tail _ (.tail _ (.tail _ (.tail _ h2)))))) h5 h6 h7 hq7 (by simp) fun D ep es hcn=>?_)⟩⟩))
  exact⟨m,_,(To.less .sink8).trans (To.ns (LC.eq (ks:=Jb) (fs':=fM a.m1 (.ref D) .none s.a1) ⟨by kernel_rfl,by kernel_rfl,by kernel_rfl⟩)),h D ep es _ (fun q hq=>.tail _ hq) (.head _) hcn⟩
 .have h':=h D ep es R (fun q hq=>hq) hD hcn
  rw[show { s with fc:=.ref D }=s by rw[<- e1]]at h'
  exact hE _ _ _ (Pu.nm lAs hm _ ⟨_,_,A9 (K:=AQ p) (C:=242) (f:=232) B hC (by kernel_rfl) (by kernel_rfl) (.mem (.head _)) (.mem (.tail _ (.head _))) rfl,AC ⟨Aq B (by kernel_rfl),Ao.cal (Pi p (k:=68) hfu B (as:=as) (bs:=a.sec) (.head _) (.tail _ (.head _)) rfl rfl (congrArg (fun u=>some (V.at u)) e1) (FO h1) (FO h2) (FO hD) hcn h5 h6 h7 hq7 h')⟩⟩)
theorem Qe(hfu:c.fuel=70)(B:Base c (AQ p))(lAs:Lc c "asked"){as:List Int}(h1:(s.a1,O.list (as.map .int))∈R)(h2:(a.m1.rb,O.list (a.sec.map .int))∈R)(h5:as.length<128)(h6:a.sec.length<300)(hm:m.lookup ("asked":Str)=some (.ref a.m1.x))(h:Q (.float (Bj (min as.length a.sec.length) (as.length+a.sec.length))) m (H4 a s R))(hE:LD c (.Name ("asked":Str) p1) ("real_quick_ratio":Str) p2 [] p3):Af c (.Call (.Attribute (.Name ("asked":Str) p1) ("real_quick_ratio":Str) p2) [] [] p3) m (H4 a s R) Q:=by
 have hC:=BM p
 refine hE _ _ _ (Pu.nm lAs hm _ ⟨_,_,A9 (K:=AQ p) (C:=242) (f:=239) B hC (by kernel_rfl) (by kernel_rfl) (.mem (.head _)) (.mem (.tail _ (.head _))) rfl,AC ⟨Aq B (by kernel_rfl),Ao.cal (RZ p (k:=68) hfu B (as:=as.map .int) (bs:=a.sec.map .int) (.head _) (.tail _ (.head _)) rfl rfl (FO h1) (FO h2) (by rw[V8];exact h5) (by rw[V8];exact h6) ?_)⟩⟩)
 rw[V8,V8]
 exact h
theorem Qh(hfu:c.fuel=70)(B:Base c (AQ p)){mg:Str->Option VX}(G:RatB c mg){M:M4}{nm:Str}(lM:Lc c nm){s3 s4 s5 s6 s8:Addr×O}{ps:Array VX}{ra:Addr}{as cs A Bl:List Int}(hA:A.Perm as)(hB:Bl.Perm cs)(sA:A.Pairwise (·<=·))(sB:Bl.Pairwise (·<=·))(h1:(ra,O.list (A.map .int))∈R)(h2:(M.rb,O.list (Bl.map .int))∈R)(hch:RM R M Bl)(h5:as.length<128)(h6:cs.length<300)(hz:as.length<64∨∃ V:List Int,V.length<=3/\∀ x∈cs,x∈V)(hps:aQ ps.toList)(hm:m.lookup nm=some (.ref M.x))(h:∀ r L d ps',Blk (Bm A Bl) (C7 A (iO Bl)) d 0 A.length 0 Bl.length L->aQ ps'.toList->Q (.float (Bj (EU as cs as.length) (as.length+cs.length))) m (hM M .none (.ref r) ra (s3::s4::s5::s6::(220,.obj (tabObj ps'))::s8::(r,.list ((Bv A Bl L).map (BZ 135)))::R)))(hE:LD c (.Name nm p1) ("ratio":Str) p2 [] p3):Af c (.Call (.Attribute (.Name nm p1) ("ratio":Str) p2) [] [] p3) m (hM M .none .none ra (s3::s4::s5::s6::(220,.obj (tabObj ps))::s8::R)) Q:=by
 have hC:=BM p
 obtain⟨ep,es,z,ks,hD,hS,hidx⟩:=hch
 have up:∀ o,∀ q∈R,q∈s3::s4::s5::s6::(220,o)::s8::R:=fun o q hq=>.tail _ (.tail _ (.tail _ (.tail _ (.tail _ (.tail _ hq)))))
 have lA:=hA.length_eq
 have lB:=hB.length_eq
 refine Af.postT (hE _ _ _ (Pu.nm lM hm _ ⟨_,_,A9 (K:=AQ p) (C:=242) (f:=225) B hC (by kernel_rfl) (by kernel_rfl) (.mem (.head _)) (.mem (.tail _ (.head _))) rfl,AC ⟨Aq B (by kernel_rfl),Ao.cal (Nc p (k:=65) (F:=fun o=>s3::s4::s5::s6::(220,o)::s8::R) (as:=A) (bs:=Bl) (idx:=iO Bl) hfu B G (fun o=>.tail (.tail (.tail (.tail (.head _))))) rfl rfl rfl rfl rfl rfl rfl (fun o=>up o _ h1) (fun o=>up o _ h2) (fun o=>up o _ hD) (fun o=>up o _ hS) (fun o=>hidx.mono (up o)) (fun v=>P7 _ _ _ v) (fun v=>OP _ _ _ v (by rw[lB];exact Yi (W7 h6) (by decide))) (by rw[lA];exact h5) (by rw[lB];exact h6) (fun L hL=>Pl hA hB sA sB h5 hz hL) (by simp) hps fun r L ps' hL hps'=>?_)⟩⟩))
 rw[FY hA hB sA sB hL,lA,lB]
 exact⟨m,_,(To.less .sink8).trans (To.ns (LC.eq (ks:=Jb) (fs':=fM M .none (.ref r) ra) ⟨by kernel_rfl,by kernel_rfl,by kernel_rfl⟩)),h r L _ ps' hL hps'⟩
end
structure In4(a:A4)(s:Z4)(k:Nat)(A:List Int)(R:Hp):Prop where
 hk:k<=a.cut
 hfi:s.fi=some (.ref s.a1)
 h1:(s.a1,O.list ((a.items.take k).map .int))∈R
 h2:(s.a2,O.list (A.map .int))∈R
 h3:(s.a3,O.list ((HA k).map .int))∈R
 hA:A.Perm (a.items.take k)
 sA:A.Pairwise (·<=·)
 ne:s.a1≠a.m1.rb
theorem In4.mono{a:A4}{s:Z4}{k:Nat}{A:List Int}{R R':Hp}(h:In4 a s k A R)(u:∀ q∈R,q∈R'):In4 a s k A R':=⟨h.hk,h.hfi,u _ h.h1,u _ h.h2,u _ h.h3,h.hA,h.sA,h.ne⟩
theorem Pl4.fz{a:A4}(h:Pl4 a)(k:Nat):(a.items.take k).length<=66:=Yi (List.length_take_le' _ _) h.zi
theorem Pl4.fk{a:A4}(h:Pl4 a){k:Nat}(hk:k<=a.cut):(a.items.take k).length=k:=List.length_take_of_le (Yi hk h.zc)
theorem Pl4.few{a:A4}(h:Pl4 a){k:Nat}(hk:k<=a.cut):(a.items.take k).length<64∨∃ V:List Int,V.length<=3/\∀ x∈a.sec,x∈V:=by
 obtain⟨n,_,h2⟩:=h.hs
 exact Pd h.zi h2 hk
section
variable(p:cy)(c:Ctx){a:A4}{cst che:Addr}{s:Z4}{R:Hp}{k:Nat}{A:List Int}{Q:Fl->Lo->Hp->Prop}
theorem SC(hfu:c.fuel=70)(B:Base c (AQ p)){mg:Str->Option VX}(G:RatB c mg)(hs:c.env.scope=(AM (AQ p) 251).scope)(hm2:s.mb2=.none)(hm3:s.mb3=.none)(ok:Ok4 c a s R)(it:In4 a s k A R)(hQ:∀ s R' r L d,Ok4 c a s R'->In4 a s k A R'->s.mb2=.ref r->(r,O.list ((Bv A a.B L).map (BZ 135)))∈R'->Blk (Bm A a.B) (C7 A (iO a.B)) d 0 A.length 0 a.B.length L->AW c ((Iu p).drop 5) (Kc a k) (H4 a s R') Q):AW c ((Iu p).drop 4) (Kc a k) (H4 a s R) Q:=by
 have hn:=congrArg c0 hs
 conv at hn=>rhs;whnf
 have lAs:Lc c "asked":=AG hn (by kernel_rfl)
 have lOr:Lc c "ordered":=AG hn (by kernel_rfl)
 have lAl:Lc c "alike":=AG hn (by kernel_rfl)
 obtain⟨a1,a2,a3,fc,mb2,mb3,fi,ps⟩:=s
 cases hm2
 cases hm3
 have z1:(a.items.take k).length<=66:=ok.pl.fz k
 have z2:a.sec.length<=266:=ok.pl.zs
 have zk:k<=66:=by have:=ok.pl.fk it.hk;rw[this]at z1;exact z1
 refine AB (EP (KL (O3 (CG (Re p c hfu B lAs (as:=a.items.take k) it.h1 ok.bs.hsec ok.fc (W4 z1 (by decide)) (W4 z2 (by decide)) (W4 (eR z1 z2) (by decide)) (W4 (Yi (Es _ _ _) z1) (by decide)) rfl (fun D ep es R1 hu hD hcn=>?_) (fun _ _ _ h=>AO h)) (by with_unfolding_all rfl)))))
 have it1:=it.mono hu
 have bs1:=ok.bs.mono hu
 have few:=ok.pl.few it.hk
 refine Af.less AI.m2 (Qh p c hfu B G (M:=a.m2) lOr it.hA ok.pl.pB it.sA ok.pl.sB it1.h2 bs1.hB bs1.c2 (W4 z1 (by decide)) (W4 z2 (by decide)) few ok.tri rfl (fun r L d ps1 hL hps1=>RG (Ak ?_)) (fun _ _ _ h=>AO h))
 rw[Jz]
 refine EX (fun h=>nomatch h) fun _=>O3 (CG (Af.less AI.m2 ?_) (by with_unfolding_all rfl))
 have hu2:∀ q∈R1,q∈(r,O.list ((Bv A a.B L).map (BZ 135)))::R1:=fun q hq=>.tail _ hq
 have it2:=it1.mono hu2
 have bs2:=bs1.mono hu2
 refine Qe p c (s:=⟨a1,a2,a3,.ref D,.ref r,.none,fi,ps1⟩) hfu B lAs (as:=a.items.take k) it2.h1 bs2.hsec (W4 z1 (by decide)) (W4 z2 (by decide)) rfl ?_ (fun _ _ _ h=>AO h)
 refine Af.less AI.m3 (Qh p c hfu B G (M:=a.m3) lAl (as:=HA k) (cs:=HA a.sec.length) (.refl _) (.refl _) (JM k) (JM _) it2.h3 bs2.hz bs2.c3 (by rw[eM];exact W4 zk (by decide)) (by rw[eM];exact W4 z2 (by decide)) (.inr ⟨[0],by decide,fun x hx=>by rw[(dx.mp hx).2];exact mS⟩) hps1 rfl (fun r3 L3 d3 ps3 hL3 hps3=>RG (Ak ?_)) (fun _ _ _ h=>AO h))
 rw[Ra,eM,eM,ok.pl.fk it.hk,Jz]
 refine EX (fun h=>nomatch h) fun _=>K5 (AX (AW.less AI.m3b ?_))
 have hu3:∀ q∈(r,O.list ((Bv A a.B L).map (BZ 135)))::R1,q∈(r3,O.list ((Bv (HA k) (HA a.sec.length) L3).map (BZ 135)))::(r,O.list ((Bv A a.B L).map (BZ 135)))::R1:=fun q hq=>.tail _ hq
 have hu0:∀ q∈R,q∈(r3,O.list ((Bv (HA k) (HA a.sec.length) L3).map (BZ 135)))::(r,O.list ((Bv A a.B L).map (BZ 135)))::R1:=fun q hq=>.tail _ (.tail _ (hu q hq))
 exact hQ ⟨a1,a2,a3,.ref D,.ref r,.ref r3,fi,ps3⟩ _ r L d ⟨bs2.mono hu3,ok.pl,⟨ok.fl.l1.imp fun _ q=>hu0 _ q,ok.fl.l2.imp fun _ q=>hu0 _ q,ok.fl.l3.imp fun _ q=>hu0 _ q⟩,.inr ⟨D,ep,es,rfl,hu3 _ (hu2 _ hD),hcn⟩,hps3⟩ ⟨it.hk,it.hfi,hu0 _ it.h1,hu0 _ it.h2,hu0 _ it.h3,it.hA,it.sA,it.ne⟩ rfl (.tail _ (.head _)) hL
end
section
variable{c:Ctx}{m:Lo}{H:Hp}{pos p1 p2 tp:Pos}{k1:Nat}
theorem QO{ts:List Expr}{elt arg:Expr}{ifs:List Expr}{scope:XG}{cl:List (Str×Addr)}{Q:V->Lo->Hp->Prop}(hclos:Xb scope c.env=pure cl)(hk:scope.kind=.function)(hg:An c "enumerate" (.ty "enumerate"))(h:Af c arg m H fun u m1 H1=>∃ l,∃ xs:List At,∃ f:Nat->Option V,u=.ref l/\(l,O.list (xs.map V.at))∈H1/\xs.length<=1000/\(∀ c2,Inner c scope cl c2->∀ i,i<xs.length->Fs c2 (.Tuple ts k1 tp) (.tup .none [.int (i:Nat),xs.getD i .none]) [] H1 fun m3 H3=>O8 c2 elt ifs m3 H3 fun o H5=>o=f i/\AI [] H5 [] H1)/\∀ D,Q (.ref D) m1 ((D,.list ((Xn xs.length).filterMap f))::H1))(he:autoParam (V3 [arg] c.env=[(false,eval arg c.env)]) AV)(hcell:autoParam (∀ y∈scope.names,y.2≠.cell) BX)(hnames:autoParam (∀ y∈scope.names,y.2=.local->scope.names.lookup y.1=some .local) BX)(hs:autoParam (∀ x,WH (.Call (.Name "enumerate" p1) [arg] [] p2) c.env x=pure x) C4):Af c (.ListComp elt [⟨.Tuple ts k1 tp,.Call (.Name "enumerate" p1) [arg] [] p2,ifs,0⟩] scope pos) m H Q:=by
 refine Af.post (Sv hclos hk (DU.mono (LZ (Q:=fun n x Ok m1 H1=>n<=WS/\CX c scope cl hk (.Tuple ts k1 tp) elt ifs n x Ok H1 fun ys H2=>∃ H3,AI [] H2 [] H3/\∀ D,Q (.ref D) m1 ((D,.list ys)::H3)) hg (Af.mono h ?_) he) fun n x Ok m1 H1 q=>⟨q.1,CX.mono q.2 fun ys H2 t8 D=>t8.elim fun H3 t9=>t9.elim fun l q=>⟨m1,(D,.list ys)::H3,AI.lift l,q D⟩⟩) hcell hnames hs)
 rintro u m1 H1 ⟨l,xs,f,rfl,hx,hz,hstep,q⟩
 have hsl:WS=16777216:=rfl
 exact⟨l,xs,rfl,.mem hx,AL 2 (.l Y0 (.n 1000)) (.e Y1 (.n 16777216)) (.l Y0 Y1) [_,_] hz hsl,Jy (f:=f) (H':=H1) (fun _=>⟨fun _ _ e=>(nomatch e),fun _ h=>h,id⟩) (fun c2 hc i hi=>hstep c2 hc i hi) (fun H2 hl=>AK.less hl hx) fun H2 hl=>⟨H1,hl,q⟩⟩
end
noncomputable abbrev UW(a:A4)(k:Nat)(cm:Addr):Lo:=("common",.ref cm)::Kc a k
theorem S5(xs:List Int){i:Nat}(h:i<xs.length):(xs.map At.int).getD i .none=At.int (xs.getD i 0):=by
 rw[dc,dc,Zu,Z6 h];rfl
section
variable(p:cy)(c:Ctx){a:A4}{cst che:Addr}{s:Z4}{R:Hp}{k:Nat}{A:List Int}{Q:Fl->Lo->Hp->Prop}
theorem SA(B:Base c (AQ p))(hs:c.env.scope=(AM (AQ p) 251).scope)(hcs:c.env.cells=PK a cst che)(ok:Ok4 c a s R)(it:In4 a s k A R)(hQ:∀ cm C,ZA C (IZ (a.items.take k) a.sec (a.items.take k).length)->C.Pairwise (·<=·)->AW c ((Iu p).drop 6) (UW a k cm) (H4 a s ((cm,.list (C.map .int))::R)) Q):AW c ((Iu p).drop 5) (Kc a k) (H4 a s R) Q:=by
 have hn:=congrArg c0 hs
 conv at hn=>rhs;whnf
 have gs:An c "sorted" (.bi "sorted"):=B.sorted hn (by kernel_rfl)
 have ge:An c "enumerate" (.ty "enumerate"):=B.enumerate hn (by kernel_rfl)
 have lC:Lc c "common":=AG hn (by kernel_rfl)
 have lFi:Ce c "first" a.cfi:=B8 hn hcs (by kernel_rfl) (by kernel_rfl)
 have z1:(a.items.take k).length<=66:=ok.pl.fz k
 have hci:(a.cfi,O.cell (some (.ref s.a1)))∈H4 a s R:=.tail _ (.tail _ (.tail _ (.tail _ (.tail _ (.tail _ (.tail _ (it.hfi▸.head _)))))))
 generalize hfs:a.items.take k=fs at *
 have h1:(s.a1,O.list (fs.map .int))∈R:=hfs▸it.h1
 refine AB (Ac (AZ (BW gs (AA (QO (cl:=[("second",a.cse),("first",a.cfi)]) (Ia hcs ?hcl) rfl ge (Pu.cel lFi (.mem hci) _ ⟨s.a1,fs.map At.int,fun i=>if decide ((fs.take i).count (fs.getD i 0)<a.sec.count (fs.getD i 0)) then some (V.int (fs.getD i 0)) else none,rfl,by rw[XC];exact FO h1,by rw[V8];exact Yi z1 (by decide),fun c2 hc i hi=>?_,fun D=>AC ⟨Av,?_⟩⟩))))))
 case hcl=>exact EJ.skip (by decide) (EJ.skip (by decide) (EJ.skip (by decide) (EJ.take (Cu.tail (by decide) (Cu.head _)) (EJ.take (Cu.tail (by decide) (Cu.tail (by decide) (Cu.head _))) (EJ.nil _)))))
 .rw[V8]at hi
  have hn2:=hc.named hn
  have lX:Lc c2 "x":=AG hn2 (by kernel_rfl)
  have lK:Lc c2 "k":=AG hn2 (by kernel_rfl)
  have lF2:Ce c2 "first" a.cfi:=B8 hn2 hc.cells (by kernel_rfl) (by kernel_rfl)
  have lS2:Ce c2 "second" a.cse:=B8 hn2 hc.cells (by kernel_rfl) (by kernel_rfl)
  rw[S5 _ hi]
  refine Ch (xs:=[.int (i:Nat),.int (fs.getD i 0)]) (AP (AE lK.1 (AP (AE lX.1 ?_))))
  show FT c2 _ _ _ _
  refine CG (AO (IW (n:=i) (f:=V.int) (xs:=fs) (.cel lF2 (.mem hci)) (.n lK) (.mem (FO h1)) (Yi z1 (by decide)) (fun y2=>⟨_,_,EZ (.mem (.head _)) eS eT,AA ((Pu.n lX) _ (AC ⟨Av,Jg (.mem (.head _)) (AO (Pu.cel lS2 (.mem (.tail _ (FO ok.bs.hcs))) _ ⟨_,_,EZ (.mem (.tail _ (FO ok.bs.hsec))) eS eT,AA ((Pu.n lX) _ (AC ⟨Av,Jg (.mem (.tail _ (FO ok.bs.hsec))) (T7 (Ak (EX (fun g=>?_) fun g=>?_)))⟩))⟩))⟩))⟩))) (by with_unfolding_all rfl)
  .show Af c2 _ _ _ _
   exact(Pu.n lX) _ ⟨(if_pos (decide_eq_true (dC.mp (of_decide_eq_true g)))).symm,AI.heap (.cons _ (.refl _))⟩
  .exact⟨(if_neg fun q=>of_decide_eq_false g (dC.mpr (of_decide_eq_true q))).symm,AI.heap (.cons _ (.refl _))⟩
 .rw[V8,IR]
  refine EW (ns:=IZ fs a.sec fs.length) (.mem (.head _)) (Yi (Yi (Z5 (DB _ _ _)) (Yi (Es _ _ _) z1)) (by decide)) fun cm C hp hC=>AE lC.1 ?_
  exact AW.less ((AI.heap (.cons_cons _ (.cons _ (.refl _)))).trans AI.sink8) (hQ cm C hp hC)
end
section
open PySem.SeqAt
theorem QL{A:Va}{s:Vb}(f:UInt64)(t u:Tok):RcAt A s (.float f t) (.float f u) (dP f f==some Ordering.eq):=fun prog w E Q h=>
 richCompare_gives (eU s f t) (eU s f u) F.slot_float_eq F.entry_float_eq (F.args_float_eq_2 _ _) (AutoFloatG5.float___eq___float_float_0 f t f u) (fun x=>nomatch x) h
theorem QK{M:Wd}{A:Va}{E:VX->Vb->Prop}{s:Vb}{f g:UInt64}{t u:Tok}{Q:Bool->Vb->Prop}(ht:t≠0)(hu:u≠0)(hb:eW s.heap)(hq:∀ b,Q b s):Vc M A (isSame (.float f t) (.float g u)) Q E s:=by
 have h0:(t==0 || u==0)=false:=by rw[Bool.or_eq_false_iff];exact⟨beq_eq_false_iff_ne.mpr ht,beq_eq_false_iff_ne.mpr hu⟩
 show Vc M A (isSame.created (f==g&&!Float64.isNaN f) t u) Q E s
 unfold isSame.created
 refine eX (fun h=>absurd (h0.symm.trans h) ab) fun _=>?_
 refine eX (fun _=>WM (hq _)) fun _=>?_
 refine eX (fun _=>WM (hq _)) fun _=>?_
 refine Ve (eY hb ?_)
 refine eX (fun h=>absurd h ab) fun _=>?_
 refine Ve (eY hb ?_)
 refine eX (fun h=>absurd h ab) fun _=>?_
 exact Ve (ZH (Ve (ZR (WM (hq _)))))
theorem QM{A:Va}{s:Vb}{f:UInt64}(hf:dP f f=some .eq){t u:Tok}(ht:t≠0)(hu:u≠0)(hb:eW s.heap):EqAt A s (.float f t) (.float f u) true:=fun prog w E Q hq=>by
 unfold eqBool
 refine Vd ?_
 refine eX (fun _=>Ve (ZH (WM hq))) (fun _=>?_)
 show Vc _ _ (isSame (.float f t) (.float f u) >>= _) _ _ _
 refine Ve (QK ht hu hb fun b=>?_)
 refine eX (fun _=>WM hq) (fun _=>?_)
 exact Ve (QL f t u prog w E _ (by rw[hf];exact Vf hq))
end
section
open PySem.SeqAt
noncomputable def TM(K:Frag)(a:Addr)(x:Str):Bool:=match K.lookup a with
 | some o=>match o.data with
  | .dict es _=>es.all (fun e=>match e.key with | .str _ _=>true|_=>false)&&(nsFind es x).isNone
  | _=>false
 | none=>false
theorem MR{K:Frag}{a:Addr}{x:Str}(q:TM K a x=true){h:Heap}(hh:K.In h):∃ mc,h.Ns a mc/\mc x=none:=by
 unfold TM at q
 cases ho:K.lookup a with
 | none=>rw[ho]at q;cases q
 | some o=>
  rw[ho]at q
  have hg:=hh a o ho
  obtain⟨cls,d,data,sl⟩:=o
  cases data with
  | dict es ep=>
   have q':=Bool.and_eq_true_iff.mp q
   refine⟨_,.of_isNs ?_,?_⟩
   .unfold Heap.isNs;rw[hg];exact q'.1
   .unfold Heap.nsMap;rw[hg];exact Option.isNone_iff_eq_none.mp q'.2
  | _=>cases q
theorem UT{p:cy}{c:Ctx}(B:Base c (AQ p)):c.Knows eW:=fun h hh=>MR (K:=AQ p) (by kernel_rfl) (B.kin h hh)
section
variable{c:Ctx}{m:Lo}{H:Hp}{pos pos2 p1:Pos}{k1:Nat}{Q:V->Lo->Hp->Prop}
theorem Sz{a b:Addr}{fs:List UInt64}(hp:∀ f∈fs,dP f f=some .eq)(hnb:c.Knows eW)(ha:AK c H a (.list (fs.map V.float)))(hb:AK c H b (.list (fs.map V.float)))(h:Q (.bool false) m H):KG c .NotEq (.ref a) (.ref b) m H Q:=fun s va vb R ra rb=>by
 cases (ra:va=_);cases (rb:vb=_)
 obtain⟨i1,n1,l1,r1⟩:=O.list_get (ha m s R)
 obtain⟨i2,n2,l2,r2⟩:=O.list_get (hb m s R)
 have z1:i1.size=fs.length:=by rw[<- V9,r1.length,V8]
 have z2:i2.size=fs.length:=by rw[<- V9,r2.length,V8]
 refine .val R h fun P k=>cmp_ofNotEq ?_
 refine RcNeAt.lists (IsL.isList l1) (IsL.isList l2) (z1.trans z2.symm) c.hu0 (e:=fun _=>true) (fun j h1 h2=>?_) _ _ _ _ (k _ s.toks ?_)
 .have hj:j<fs.length:=z1▸h1
  obtain⟨t,e1,n1'⟩:=Do r1 hj h1
  obtain⟨u,e2,n2'⟩:=Do r2 hj h2
  rw[e1,e2]
  exact QM (hp _ (ZJ hj)) n1' n2' (hnb s.heap R.keep)
 .show _=_
  rw[G4];rfl
theorem Pu.ratio{l r:Expr}{a n:Nat}(h1:Pu c l m H (.int a))(h2:Pu c r m H (.int n))(ha:a<128)(h0:n≠0)(hn:n<512):Pu c (.BinOp (.BinOp (.Constant (.float 0x4000000000000000) k1 p1) .Mult l pos) .Div r pos2) m H (.float (Bj a n)):=fun Q h=>by
 unfold Bj at h
 rw[if_neg h0,<- Jt ha h0 hn]at h
 exact BP (BP (Pu.flo _ (h1 _ (Np (h2 _ (Nq h (IQ hn) (RD h0 hn))) (IQ (Yh ha (by decide)))))))
end
theorem Gx(k n:Nat):dP (Bj k n) (Bj k n)=some .eq:=by
 unfold Bj
 by_cases h:n=0
 .rw[if_pos h];decide +kernel
 .rw[if_neg h,J0 k n]
noncomputable abbrev U0(a:A4)(k:Nat)(cm:Addr):Lo:=("total",.int (k+a.sec.length:Nat))::UW a k cm
noncomputable abbrev TP(a:A4)(k:Nat)(cm du:Addr):Lo:=("due",.ref du)::U0 a k cm
section
variable(p:cy)(c:Ctx){a:A4}{cst che:Addr}{s:Z4}{R:Hp}{k:Nat}{A C:List Int}{cm:Addr}{Q:Fl->Lo->Hp->Prop}
theorem R9(B:Base c (AQ p))(hs:c.env.scope=(AM (AQ p) 251).scope)(hcs:c.env.cells=PK a cst che)(ok:Ok4 c a s R)(hk:k<=a.cut)(hC:C.length<128)(hcm:(cm,O.list (C.map .int))∈R)(hQ:∀ du,AW c ((Iu p).drop 8) (TP a k cm du) (H4 a s ((du,.list ([Bj C.length (k+a.sec.length),Bj (min k a.sec.length) (k+a.sec.length)].map V.float))::R)) Q):AW c ((Iu p).drop 6) (UW a k cm) (H4 a s R) Q:=by
 have hn:=congrArg c0 hs
 conv at hn=>rhs;whnf
 have gl:An c "len" (.bi "len"):=B.len hn (by kernel_rfl)
 have gm:An c "min" (.bi "min"):=B.min hn (by kernel_rfl)
 have lSi:Lc c "size":=AG hn (by kernel_rfl)
 have lT:Lc c "total":=AG hn (by kernel_rfl)
 have lD:Lc c "due":=AG hn (by kernel_rfl)
 have lCm:Lc c "common":=AG hn (by kernel_rfl)
 have lSe:Ce c "second" a.cse:=B8 hn hcs (by kernel_rfl) (by kernel_rfl)
 have z1:=ok.pl.fz k
 rw[ok.pl.fk hk]at z1
 have z2:a.sec.length<=266:=ok.pl.zs
 have z2':a.sec.length<=1000:=Yi z2 (by decide)
 have zn:k+a.sec.length<512:=W4 (eR z1 z2) (by decide)
 have zm:min k a.sec.length<128:=W4 (Yi (Nat.min_le_left _ _) z1) (by decide)
 refine AB (Al lT (.addN (.n lSi) (.lenM gl (.cel lSe (.mem (FO ok.bs.hcs))) (.mem (FO ok.bs.hsec)) z2' (hE:=fun _ h=>AZ h))) ?_)
 refine AB (Ac (Fn ((C5.gtN (b:=0) (.n lT) .one) _ (EX (fun g=>Bn (AA ((Pu.ratio (.lenM gl (.n lCm) (.mem (FO hcm)) (Yi (W7 hC) (by decide)) (hE:=fun _ h=>AZ h)) (.n lT) hC (XE (of_decide_eq_true g)) zn) _ (AA ((Pu.ratio (.min gm (.n lSi) (.lenM gl (.cel lSe (.mem (FO ok.bs.hcs))) (.mem (FO ok.bs.hsec)) z2' (hE:=fun _ h=>AZ h)) (hE:=fun _ h=>AZ h)) (.n lT) zm (XE (of_decide_eq_true g)) zn) _ (AC ⟨bB rfl,fun du=>AE lD.1 (AW.less AI.sink8 (hQ du))⟩)))))) fun g=>Bn (AA (Pu.flo _ (AA (Pu.flo _ (AC ⟨bB rfl,fun du=>AE lD.1 (AW.less AI.sink8 ?_)⟩)))))))))
 have g0:k+a.sec.length=0:=de (of_decide_eq_false g)
 have e:∀ q,Bj q (k+a.sec.length)=0x3ff0000000000000:=fun q=>by unfold Bj;rw[if_pos g0]
 have hQ':=hQ du
 rw[e,e]at hQ'
 exact hQ'
end
end
section
variable(p:cy)(c:Ctx){a:A4}{cst che:Addr}{s:Z4}{R:Hp}{k:Nat}{A C:List Int}{cm du:Addr}{Q:Fl->Lo->Hp->Prop}
theorem Rz(hfu:c.fuel=70)(B:Base c (AQ p))(hs:c.env.scope=(AM (AQ p) 251).scope)(ok:Ok4 c a s R)(it:In4 a s k A R)(hC:C.length=EU (a.items.take k) a.sec (a.items.take k).length)(hdu:(du,O.list ([Bj C.length (k+a.sec.length),Bj (min k a.sec.length) (k+a.sec.length)].map V.float))∈R)(hQ:∀ D R',(∀ q∈R,q∈R')->Ok4 c a { s with fc:=.ref D } R'->In4 a { s with fc:=.ref D } k A R'->AW c ((Iu p).drop 9) (TP a k cm du) (H4 a { s with fc:=.ref D } R') Q):AW c ((Iu p).drop 8) (TP a k cm du) (H4 a s R) Q:=by
 have hn:=congrArg c0 hs
 conv at hn=>rhs;whnf
 have lAs:Lc c "asked":=AG hn (by kernel_rfl)
 have lD:Lc c "due":=AG hn (by kernel_rfl)
 have z1:(a.items.take k).length<=66:=ok.pl.fz k
 have z2:a.sec.length<=266:=ok.pl.zs
 rw[hC]at hdu
 refine AB (EP (CG (Bn (AA (Re p c hfu B lAs (as:=a.items.take k) it.h1 ok.bs.hsec ok.fc (W4 z1 (by decide)) (W4 z2 (by decide)) (W4 (eR z1 z2) (by decide)) (W4 (Yi (Es _ _ _) z1) (by decide)) rfl (fun D ep es R1 hu hD hcn=>AA ?_) (fun _ _ _ h=>AO h)))) (by with_unfolding_all rfl)))
 have it1:=it.mono hu
 have ok1:Ok4 c a { s with fc:=.ref D } R1:=⟨ok.bs.mono hu,ok.pl,⟨ok.fl.l1.imp fun _ q=>hu _ q,ok.fl.l2.imp fun _ q=>hu _ q,ok.fl.l3.imp fun _ q=>hu _ q⟩,.inr ⟨D,ep,es,rfl,hD,hcn⟩,ok.tri⟩
 refine Qe p c (s:={ s with fc:=.ref D }) hfu B lAs (as:=a.items.take k) it1.h1 ok1.bs.hsec (W4 z1 (by decide)) (W4 z2 (by decide)) rfl (AC ⟨bB rfl,fun y=>(Pu.n lD) _ ?_⟩) (fun _ _ _ h=>AO h)
 have hd:=hu _ hdu
 rw[ok.pl.fk it.hk]at hd ⊢
 refine Sz (fs:=[Bj (EU (a.items.take k) a.sec k) (k+a.sec.length),Bj (min k a.sec.length) (k+a.sec.length)]) (fun f hf=>?_) (UT B) (.mem (.head _)) (.mem (.tail _ (FO hd))) (Ak (EX (fun h=>nomatch h) fun _=>AX (AW.drop1 (hQ D R1 hu ok1 ⟨it.hk,it.hfi,it1.h1,it1.h2,it1.h3,it.hA,it.sA,it.ne⟩))))
 rcases Vq.mp hf with rfl|hf
 .exact Gx _ _
 .rw[XQ.mp hf];exact Gx _ _
end
theorem KT(L:List Int):(L.map V.int).all V.plain=true:=by
 rw[List.all_map];exact X7.mpr fun _ _=>rfl
theorem Mc(A:List Int){L:List Tri}{i:Nat}(h:i<L.length):BV A (L.take (i+1))=BV A (L.take i)++(A.drop L[i].1).take L[i].2.2:=by
 rw[cf,Z6 h,Cc]
 show _++((A.drop L[i].1).take L[i].2.2++[])=_
 rw[W8]
theorem Mb(A:List Int)(L:List Tri)(i:Nat):(BV A (L.take i)).length<=(BV A L).length:=by
 have e:BV A L=BV A (L.take i)++BV A (L.drop i):=by rw[<- Cc,Ym]
 rw[e,XS]
 exact W5 _ _
section
variable(p:cy)(c:Ctx){a:A4}{cst che:Addr}{s:Z4}{R:Hp}{k:Nat}{A C:List Int}{cm du r:Addr}{L:List Tri}{Q:Fl->Lo->Hp->Prop}
theorem Ry(hfu:c.fuel=70)(B:Base c (AQ p))(hs:c.env.scope=(AM (AQ p) 251).scope)(hcs:c.env.cells=PK a cst che)(ok:Ok4 c a s R)(it:In4 a s k A R)(hmb:s.mb2=.ref r)(hr:(r,O.list (L.map (BZ 135)))∈R)(hL:L.length<=1000)(hCz:C.length<=66)(hC:BV A L=C)(hcm:(cm,O.list (C.map .int))∈R)(hQ:Q .next (TP a k cm du) (H4 a s R)):AW c ((Iu p).drop 9) (TP a k cm du) (H4 a s R) Q:=by
 have hn:=congrArg c0 hs
 conv at hn=>rhs;whnf
 have hK:=BM p
 have lOr:Lc c "ordered":=AG hn (by kernel_rfl)
 have lCm:Lc c "common":=AG hn (by kernel_rfl)
 have z1:(a.items.take k).length<=66:=ok.pl.fz k
 have hci:(a.cfi,O.cell (some (.ref s.a1)))∈H4 a s R:=.tail _ (.tail _ (.tail _ (.tail _ (.tail _ (.tail _ (.tail _ (it.hfi▸.head _)))))))
 have hsl:WS=16777216:=rfl
 refine AB (EP (CG (T1 (cl:=[("first",a.cfi)]) (Ia hcs ?hcl) rfl (Ff rfl (AO ((Pu.n lOr) _ ⟨_,_,A9 (K:=AQ p) (C:=242) (f:=203) B hK (by kernel_rfl) (by kernel_rfl) (.mem (.tail _ (.tail _ (.head _)))) (.mem (.tail _ (.tail _ (.tail _ (.head _))))) rfl,AC ⟨Aq B (by kernel_rfl),Ao.cal (Jo p (k:=69) (r:=r) hfu B (.tail _ (.tail _ (.head _))) (.tail _ (.tail _ (.tail _ (.head _)))) (congrArg (fun u=>some (V.at u)) hmb) ⟨r,L.map (BZ 135),rfl,.mem (FO hr),fun c2 DD hc=>?_⟩)⟩⟩)))) (by with_unfolding_all rfl)))
 case hcl=>exact EJ.skip (by decide) (EJ.skip (by decide) (EJ.skip (by decide) (EJ.skip (by decide) (EJ.skip (by decide) (EJ.skip (by decide) (EJ.take (Cu.tail (by decide) (Cu.head _)) (EJ.nil _)))))))
 refine⟨fun i H2=>AI [] H2 [] ((DD,.list ((BV A (L.take i)).map V.int))::H4 a s R),AI.refl _ _,fun i H2 hi hl=>?_,fun H2 hl=>?_⟩
 .rw[V8]at hi
  have hn2:=hc.named hn
  have B2:=hc.base _ B
  have gs2:An c2 "sorted" (.bi "sorted"):=B2.sorted hn2 (by kernel_rfl)
  have lI:Lc c2 "i":=AG hn2 (by kernel_rfl)
  have lJ:Lc c2 "j":=AG hn2 (by kernel_rfl)
  have lR:Lc c2 "run":=AG hn2 (by kernel_rfl)
  have lX:Lc c2 "x":=AG hn2 (by kernel_rfl)
  have lF2:Ce c2 "first" a.cfi:=B8 hn2 hc.cells (by kernel_rfl) (by kernel_rfl)
  have hsn:=Mc A hi
  have hti:=Mb A L (i+1)
  rw[hC]at hti
  have eg:(L.map (BZ 135)).getD i .none=BZ 135 L[i]:=by rw[dc,Zu,Z6 hi];rfl
  refine⟨AK.less hl (.tail _ (FO hr)),FU.less hl ?_⟩
  dsimp only
  rw[hsn,eg]
  rw[hsn,XS]at hti
  generalize L[i]=x at *
  obtain⟨x1,y1,z⟩:=x
  generalize BV A (L.take i)=qs at *
  refine G3 (Tu p _) B2 (xs:=[.int (x1:Nat),.int (y1:Nat),.int (z:Nat)]) (AP (AE lI.1 (AP (AE lJ.1 (AP (AE lR.1 ?_))))))
  show DU c2 _ _ _ _ _
  refine Ff rfl (Of (AZ (BW gs2 (AA ((Pu.cel lF2 (.mem (.tail _ hci))) _ (AC ⟨Av,EW (.mem (.tail _ (FO it.h1))) (Yi z1 (by decide)) fun A2 As hp hA2=>(Pu.n lI) _ ⟨_,rfl,?_⟩⟩))))))
  have eA:As=A:=dm (fun a b _ _ h1 h2=>b9 h1 h2) hA2 it.sA (hp.trans it.hA.symm)
  subst eA
  show Af c2 _ _ _ _
  refine(Pu.addN (.n lI) (.n lR)) _ ⟨_,rfl,A2,As.map V.int,rfl,.mem (.head _),by rw[V8,it.hA.length_eq];exact Yi z1 (by decide),fun y2=>?_⟩
  rw[IB,<- List.map_drop,<- cq,Nat.add_sub_cancel_left]
  have hps:((As.drop x1).take z).length=((As.drop x1).take z).length:=rfl
  generalize (As.drop x1).take z=ps at *
  refine⟨y2,ps.map V.int,rfl,.mem (.head _),fun j m2 H2=>AI m2 H2 [] ((y2,.list (ps.map V.int))::(DD,.list ((qs++ps.take j).map V.int))::H4 a s R),?_,fun j m2 H3 hj hl3=>?_,fun m2 H3 hl3=>?_⟩
  .dsimp only
   rw[dS,W8]
   exact⟨(fun _ _ e=>nomatch e),(AI.heap (m:=[]) (.cons_cons _ (.cons _ (.refl _)))).2⟩
  .rw[V8]at hj
   have ej:(ps.map V.int).getD j .none=.int (ps[j]):=by rw[dc,Zu,Z6 hj];rfl
   refine⟨AK.less hl3 (.head _),FU.less hl3 ?_⟩
   dsimp only
   rw[ej]
   refine AP (AE lX.1 ?_)
   show Af c2 _ _ _ _
   refine(Pu.n lX) _ (Jh (xs:=(qs++ps.take j).map V.int) (.tail (.head _)) ?_ ?_)
   .have hs1:(qs++ps.take (j+1)).map V.int=(qs++ps.take j).map V.int++[.int ps[j]]:=by
     rw[cf,Z6 hj,<- Wv,XA (l₁:=qs++ps.take j)];rfl
    rw[hs1]
    exact⟨(fun _ _ e=>nomatch e),(AI.refl [] _).2⟩
   .rw[V8,XS,cb]
    have:WS=16777216:=rfl
    exact Be 5 (.l Y0 (.n 66)) (.e Y1 (.n 16777216)) (.l (.a Y2 Y3) Y0) (.l (.a Y2 (.mn Y4 Y3)) Y1) [_,_,_,_,_] hCz hsl hti
  .rw[V8,aO]at hl3
   exact⟨AK.less hl3 (.head _),⟨(fun _ _ e=>nomatch e),(hl3.trans (AI.heap (.cons _ (.refl _)))).2⟩⟩
 .rw[V8,aO,hC]at hl
  refine⟨AK.less hl (.tail _ (FO hr)),?_⟩
  exact Af.less ⟨fun _ _ e=>e,hl.2⟩ ((Pu.n lCm) _ (Ow (xs:=C.map V.int) (KT _) (.mem (.head _)) (.mem (.tail _ (FO hcm))) (Ak (EX (fun h=>nomatch h) fun _=>AX (AW.drop1 (AX hQ))))))
end
noncomputable abbrev UP(a:A4)(s:Z4)(k:Nat)(R:Hp):Prop:=∃ A r L d,In4 a s k A R/\s.mb2=.ref r/\(r,O.list ((Bv A a.B L).map (BZ 135)))∈R/\Blk (Bm A a.B) (C7 A (iO a.B)) d 0 A.length 0 a.B.length L
section
variable(p:cy)(c:Ctx){a:A4}{cst che:Addr}{s:Z4}{R:Hp}{k:Nat}{Q:Fl->Lo->Hp->Prop}
theorem AW.nodup{b:List Stmt}{m:Lo}{H:Hp}(h:(dom H).Nodup->AW c b m H Q):AW c b m H Q:=fun s R=>h R.nd s R
theorem OD(hfu:c.fuel=70)(B:Base c (AQ p)){mg:Str->Option VX}(G:RatB c mg)(hs:c.env.scope=(AM (AQ p) 251).scope)(hcs:c.env.cells=PK a cst che)(ok:Ok4 c a s R)(hk:k<=a.cut)(hQ:∀ s R m,Ok4 c a s R->UP a s k R->Ab m (N5 a)->Q .next m (H4 a s R)):AW c (Iu p) (Kc a k) (H4 a s R) Q:=by
 have z1:=ok.pl.fz k
 have zk:k<=66:=by have:=ok.pl.fk hk;rw[this]at z1;exact z1
 refine SG p c hcs hs B ok.bs.hits ok.pl.zi fun fa=>?_
 refine AW.nodup c fun nd=>?_
 have ne:fa≠a.m1.rb:=GS nd ok.bs.hsec
 refine SF p c hfu hcs hs B ok.fl ?_
 refine SE p c hfu hcs hs B (fa:=fa) (xs:=a.items.take k) rfl (.head _) z1 (ok.fl.l2.imp fun _ q=>.tail _ q) fun oa A hA sA=>?_
 refine SD p c hfu hs B zk (ok.fl.l3.imp fun _ q=>.tail _ (.tail _ q)) fun al=>?_
 have up:∀ q∈R,q∈(al,O.list ((HA k).map V.int))::(oa,O.list (A.map V.int))::(fa,O.list ((a.items.take k).map V.int))::R:=fun q hq=>.tail _ (.tail _ (.tail _ hq))
 refine SC p c hfu B G hs (A:=A) rfl rfl ⟨ok.bs.mono up,ok.pl,⟨⟨_,.tail _ (.tail _ (.head _))⟩,⟨_,.tail _ (.head _)⟩,⟨_,.head _⟩⟩,ok.fc.mono up,ok.tri⟩ ⟨hk,rfl,.tail _ (.tail _ (.head _)),.tail _ (.head _),.head _,hA,sA,ne⟩ fun s2 R2 r L d ok2 it2 hmb hr hL=>?_
 refine SA p c B hs hcs ok2 it2 fun cm C hp hC=>?_
 have hCl:C.length=EU (a.items.take k) a.sec (a.items.take k).length:=by rw[hp.length_eq,DB]
 have hCz:C.length<=66:=by rw[hCl];exact Yi (Es _ _ _) z1
 refine R9 p c B hs hcs (ok2.push _) hk (W4 hCz (by decide)) (.head _) fun du=>?_
 have up2:∀ q∈R2,q∈(du,O.list ([Bj C.length (k+a.sec.length),Bj (min k a.sec.length) (k+a.sec.length)].map V.float))::(cm,O.list (C.map V.int))::R2:=fun q hq=>.tail _ (.tail _ hq)
 refine Rz p c hfu B hs (ok2.mono up2) (it2.mono up2) hCl (.head _) fun D R3 hu ok3 it3=>?_
 have few:=LV it2.hA ok2.pl.pB it2.sA ok2.pl.sB (ok2.pl.few hk) hL
 refine Ry p c hfu B hs hcs ok3 it3 (r:=r) (L:=Bv A a.B L) hmb (hu _ (up2 _ hr)) ?_ hCz (Nk it2.hA ok2.pl.pB it2.sA ok2.pl.sB hp hC hL) (hu _ (.tail _ (.head _))) ?_
 .rw[XS]
  exact Yi (da (Yi (Fb L (0,0,0)) (da (W7 few) 1)) _) (by rw[dI];decide)
 .exact hQ _ _ _ ok3 ⟨A,r,L,d,it3,hmb,hu _ (up2 _ hr),hL⟩ .k
noncomputable def VK(c:Ctx)(a:A4)(t:Nat)(m:Lo)(H:Hp):Prop:=∃ s R,Ok4 c a s R/\(0<t->UP a s (t-1) R)/\AI m H (N5 a) (H4 a s R)
theorem OC(hfu:c.fuel=70)(B:Base c (AQ p)){mg:Str->Option VX}(G:RatB c mg)(hs:c.env.scope=(AM (AQ p) 251).scope)(hcs:c.env.cells=PK a cst che)(ok:Ok4 c a s R)(hQ:∀ s R,Ok4 c a s R->UP a s a.cut R->AW c ((AU (AM (AQ p) 251)).drop 10) (N5 a) (H4 a s R) Q):AW c ((AU (AM (AQ p) 251)).drop 9) (N5 a) (H4 a s R) Q:=by
 have hn:=congrArg c0 hs
 conv at hn=>rhs;whnf
 have gr:An c "range" (.ty "range"):=B.range hn (by kernel_rfl)
 have lCu:Lc c "cut":=AG hn (by kernel_rfl)
 have lSi:Lc c "size":=AG hn (by kernel_rfl)
 have zc:a.cut<=66:=Yi ok.pl.zc ok.pl.zi
 refine FB (AZ (BW gr (AA ((Pu.addN (b:=1) (.n lCu) .one) _ (AC ⟨Fe,Pw fun r1=>?_⟩)))))
 refine⟨r1,0,((a.cut+1:Nat):Int),rfl,.mem (.head _),⟨by decide,by decide⟩,Ey (Yi (XT zc) (by decide)),VK c a,⟨s,R,ok,fun h=>absurd h (WK 0),AI.heap (.cons _ (.refl _))⟩,fun i m2 H2 hi hI=>?_,fun m2 H2 hI=>?_⟩
 .have hi':i<a.cut+1:=dC.mp (by rwa [Int.zero_add]at hi)
  rw[Int.zero_add]
  obtain⟨s,R,ok,_,hl⟩:=hI
  refine FU.less hl (AP (AE lSi.1 ?_))
  exact OD p c hfu B G hs hcs ok (b7 hi') fun s R m ok lt hm=>⟨s,R,ok,fun _=>lt,Aa hm⟩
 .rw[SX]at hI
  obtain⟨s,R,ok,lt,hl⟩:=hI
  exact AW.less hl (hQ s R ok (lt (bM _)))
end
theorem UL(l:List Int):(l.map IS.i).map IS.v=l.map V.int:=by rw[XC];rfl
theorem UA{c:Ctx}{m:Lo}{H:Hp}{Q:V->Lo->Hp->Prop}{f g:UInt64}(h:Q (.bool (dP f g==some .eq)) m H):KG c .Eq (.float f) (.float g) m H Q:=fun s va vb R ra rb=>by
 obtain⟨t,rfl,_⟩:=ra;obtain⟨u,rfl,_⟩:=rb
 exact .val R h fun P k=>AutoFloatOps.eq_0 (k _ _ rfl)
noncomputable abbrev aE(a:A4)(D S S2 rb:Addr):A4:={ a with m1:={ a.m1 with D:=D,S:=S,S2:=S2,rb:=rb },sec:=a.items.take a.cut }
section
variable(p:cy)(c:Ctx){a:A4}{cst che:Addr}{s:Z4}{R:Hp}{k:Nat}{Q:Fl->Lo->Hp->Prop}
theorem SI(hfu:c.fuel=70)(B:Base c (AQ p))(hs:c.env.scope=(AM (AQ p) 251).scope)(hcs:c.env.cells=PK a cst che)(ok:Ok4 c a s R)(ne:s.a1≠a.m1.rb)(hQ:∀ D S S2 y,AW c ((AU (AM (AQ p) 251)).drop 11) (N5 a) (H4 (aE a D S S2 y) { s with fc:=.none,a1:=a.m1.rb } ((y,.list ((a.items.take a.cut).map .int))::R)) Q):AW c ((AU (AM (AQ p) 251)).drop 10) (N5 a) (H4 a s R) Q:=by
 have hn:=congrArg c0 hs
 conv at hn=>rhs;whnf
 have hC:=BM p
 have lAs:Lc c "asked":=AG hn (by kernel_rfl)
 have lIt:Lc c "items":=AG hn (by kernel_rfl)
 have lCu:Lc c "cut":=AG hn (by kernel_rfl)
 have lSe:Ce c "second" a.cse:=B8 hn hcs (by kernel_rfl) (by kernel_rfl)
 obtain⟨l,hl⟩:=ok.fl.l1
 have hz:(a.items.take a.cut).length<=66:=ok.pl.fz _
 refine AB (Ad (Af.postT (AO ((Pu.n lAs) _ ⟨_,_,A9 (K:=AQ p) (C:=242) (f:=167) B hC (by kernel_rfl) (by kernel_rfl) (.mem (.head _)) (.mem (.tail _ (.head _))) rfl,AA ((Pu.cel lSe (.mem (FO ok.bs.hcs))) _ (AA (Af.postT (IW (n:=a.cut) (f:=V.int) (.n lIt) (.n lCu) (.mem (FO ok.bs.hits)) (Yi ok.pl.zi (by decide)) fun y=>⟨N5 a,_,To.less AI.sink8,AC ⟨Aq B (by kernel_rfl),Ck.nodup fun nd=>Ao.cal (ME p (k:=67) (fs:=fM a.m1 s.fc .none s.a1) (ua:=.ref s.a1) (ub:=.ref a.m1.rb) (bs:=(a.items.take a.cut).map IS.i) (J:=.at a.m1.J) (on:=a.m1.on) (jk:=a.jk) (W:=a.W) hfu B rfl rfl (.lists (xs:=a.sec.map V.int) (ys:=l) ?_ ?_ ne.symm) rfl rfl (.lists (xs:=(a.items.take a.cut).map V.int) (ys:=a.sec.map V.int) ?_ ?_ (GS nd ok.bs.hsec)) rfl rfl ok.bs.bi (ok.bs.jk 66) ?_ ?_ rfl rfl rfl (by simp) ?_ ?_ fun D S S2 z1 z2 ep G hG=>⟨N5 a,_,?_,hQ D S S2 y⟩)⟩⟩))))⟩))))
 .exact .tail _ (.tail _ (.tail _ (.tail _ (.tail _ (.tail _ (.tail _ ok.bs.hsec))))))
 .exact .tail _ (.tail _ (.tail _ (.tail _ (.tail _ (.tail _ (.tail _ hl))))))
 .exact .tail _ (.tail _ (.tail _ (.tail _ (.tail _ (.tail _ (.head _))))))
 .exact .tail _ (.tail _ (.tail _ (.tail _ (.tail _ (.tail _ (.tail _ ok.bs.hsec))))))
 .exact fun q hq=>.tail _ (.tail _ (.tail _ (.tail _ (.tail _ (.tail _ (.tail _ (ok.bs.jw q hq)))))))
 .rw[UL];exact .tail _ (.tail _ (.tail _ (.tail _ (.tail _ (.tail _ (.head _))))))
 .intro x hx
  obtain⟨n,_,rfl⟩:=Vm.mp hx
  exact⟨n,rfl⟩
 .rw[V8];exact Yi hz (by decide)
 .refine(To.less (AI.heap (.cons _ (.cons _ (.cons _ (.cons_cons _ (.cons_cons _ (eO (gL G) _)))))))).trans ?_
  exact To.ns (LC.eq (ks:=Jb) (fs':=fM (aE a D S S2 y).m1 .none .none a.m1.rb) ⟨by kernel_rfl,by kernel_rfl,by kernel_rfl⟩)
theorem SH(hfu:c.fuel=70)(B:Base c (AQ p)){mg:Str->Option VX}(G:RatB c mg)(hs:c.env.scope=(AM (AQ p) 251).scope){D S S2 y:Addr}(ok:Ok4 c a s R)(lt:UP a s a.cut R)(hQ:∀ m H,(∃ ps,(248,O.obj (tabObj ps))∈H)->(∃ ps,(220,O.obj (tabObj ps))∈H)->Q (.ret (.bool true)) m H):AW c ((AU (AM (AQ p) 251)).drop 11) (N5 a) (H4 (aE a D S S2 y) { s with fc:=.none,a1:=a.m1.rb } ((y,.list ((a.items.take a.cut).map .int))::R)) Q:=by
 have hn:=congrArg c0 hs
 conv at hn=>rhs;whnf
 have hC:=BM p
 have lAs:Lc c "asked":=AG hn (by kernel_rfl)
 have lOr:Lc c "ordered":=AG hn (by kernel_rfl)
 obtain⟨A,r,L,d,it,hmb,hr,hL⟩:=lt
 have z1:(a.items.take a.cut).length<=66:=ok.pl.fz _
 have z2:a.sec.length<=266:=ok.pl.zs
 have hsw:=Oq (a.items.take a.cut) a.sec
 have hq:EU (a.items.take a.cut) a.sec (a.items.take a.cut).length<=66:=Yi (Es _ _ _) z1
 have lA:=it.hA.length_eq
 have lB:=ok.pl.pB.length_eq
 refine AB (BG (Oj (Re p c (a:=aE a D S S2 y) (s:={ s with fc:=.none,a1:=a.m1.rb }) hfu B lAs (as:=a.sec) (.tail _ ok.bs.hsec) (.head _) (.inl rfl) (W4 z2 (by decide)) (W4 z1 (by decide)) (W4 (eR z2 z1) (by decide)) (by rw[<- hsw];exact W4 hq (by decide)) rfl (fun D2 ep es R1 hu hD hcn=>Af.less AI.m2 ?_) (fun _ _ _ h=>AO h))))
 have up:∀ q∈R,q∈R1:=fun q hq=>hu q (.tail _ hq)
 have upF:∀ (s1 s2 s3 s4 s5 s6 s8:Addr×O) o,∀ q∈R1,q∈s1::s2::s3::s4::s5::s6::(220,o)::s8::R1:=fun _ _ _ _ _ _ _ o q hq=>.tail _ (.tail _ (.tail _ (.tail _ (.tail _ (.tail _ (.tail _ (.tail _ hq)))))))
 refine AO ((Pu.n lOr) _ ⟨_,_,A9 (K:=AQ p) (C:=242) (f:=225) B hC (by kernel_rfl) (by kernel_rfl) (.mem (.head _)) (.mem (.tail _ (.head _))) rfl,AC ⟨Aq B (by kernel_rfl),Ao.cal (Ph p (k:=68) (L:=Bv A a.B L) (as:=A.map V.int) (bs:=a.B.map V.int) hfu B G (fun o=>.tail (.tail (.tail (.tail (.tail (.tail (.head _))))))) (fun o=>.head _) (fun o=>.tail _ (.head _)) rfl rfl (congrArg (fun u=>some (V.at u)) hmb) rfl (fun o=>upF _ _ _ _ _ _ _ o _ (up _ it.h2)) (fun o=>upF _ _ _ _ _ _ _ o _ (up _ ok.bs.hB)) (fun o=>upF _ _ _ _ _ _ _ o _ (up _ hr)) ok.tri (by rw[V8,lA];exact W4 z1 (by decide)) (by rw[V8,lB];exact W4 z2 (by decide)) (by rw[FY it.hA ok.pl.pB it.sA ok.pl.sB hL];exact W4 hq (by decide)) fun ps' hps'=>?_)⟩⟩)
 rw[FY it.hA ok.pl.pB it.sA ok.pl.sB hL,V8,V8,lA,lB,hsw,Nat.add_comm]
 refine UA ?_
 rw[Gx]
 obtain⟨pt,ht⟩:=ok.bs.tab
 exact hQ _ _ ⟨pt,upF _ _ _ _ _ _ _ _ _ (up _ ht)⟩ ⟨ps',.tail _ (.tail _ (.tail _ (.tail _ (.tail _ (.tail _ (.head _))))))⟩
end
noncomputable def Uq(st:Int):IS->Bool
 | .i n=>n.fmod st==0
 | _=>false
theorem Ps{c:Ctx}{k:Nat}{W:Hp}{f c' cst:Addr}{st:Int}{p1 p2 p3 p4 p5 p6:Pos}{scope:XG}{q:Str}{pm ctv:VX}{oc:Obj}{vs:Array VX}{t:Nat}(hlim:c.Knows Wz)(hst:st≠0)(hk:scope.kind=.function)(hco:scope.isCoroutine=false)(hgen:scope.isGenerator=false)(hnames:scope.names=[(("x":Str),NameKind.local),("step",aZ)])(hoc:oc.data=.fields vs)(hq:vs[1]?=some (.str q t))(h1:(f,O.obj (kla_obj "<lambda>" q ⟨[],[⟨"x",none,p1⟩],none,[],[],none,[]⟩ (.Compare (.BinOp (.Name "x" p2) .Mod (.Name "step" p3) p5) [.Eq] [.Constant (.int 0) 0 p6] p4) scope [("step",cst)] pm c' ctv))∈W)(h2:(c',O.obj oc)∈W)(h3:(cst,O.cell (some (.int st)))∈W) :
  BY c (k+1) (.ref f) (Uq st) W:=fun c2 hf hp hw hkn=>by
 refine .inr ⟨fun m H' Q hW hQ=>RP (AK.mem (hW _ h1)) rfl hQ,fun H' hW=>Pv (AK.mem (hW _ h1)) rfl,fun x m H' Q hx hW hQ=>?_⟩
 obtain⟨n,rfl⟩:=hx
 refine Ao.cal (QT (bs:=[(("x":Str),.int n)]) hf (AK.mem (hW _ h1)) rfl ?_ (hkn _ hlim) rfl hk hco hgen ?_ ?_ ?_ fun L=>?_)
 .intro m s R
  exact⟨c',oc,vs,t,rfl,(R.obj _ _ (hW _ h2)).1,hoc,hq⟩
 .intro y hy
  have hy:y∈scope.names:=hy
  rw[hnames]at hy
  rcases Vq.mp hy with rfl|hy
  .simp
  .rcases Vq.mp hy with rfl|hy
   .simp
   .cases hy
 .intro m H s vvs R r
  obtain⟨v,rfl,hv⟩:=r.sole
  exact⟨[(("x":Str),v)],.of_eq rfl,rfl,.one hv⟩
 .intro y hy
  show scope.names.lookup _=_
  rw[hnames]
  simp at hy
  subst hy
  rfl
 .have hn:(c2.lam (kla_fn "<lambda>" q ⟨[],[⟨"x",none,p1⟩],none,[],[],none,[]⟩ (.Compare (.BinOp (.Name "x" p2) .Mod (.Name "step" p3) p5) [.Eq] [.Constant (.int 0) 0 p6] p4) scope [("step",cst)] pm (.ref c') ctv) f L k hf hk).env.scope.names=[(("x":Str),NameKind.local),("step",aZ)]:=hnames
  have hcs:(c2.lam (kla_fn "<lambda>" q ⟨[],[⟨"x",none,p1⟩],none,[],[],none,[]⟩ (.Compare (.BinOp (.Name "x" p2) .Mod (.Name "step" p3) p5) [.Eq] [.Constant (.int 0) 0 p6] p4) scope [("step",cst)] pm (.ref c') ctv) f L k hf hk).env.cells=[(("step":Str),cst)]:=rfl
  refine Oj ?_
  refine BP ?_
  refine BA hn (by decide) (.head _) ?_
  refine Su hn hcs (by decide) (.head _) (AK.mem (hW _ h3)) ?_
  refine Qi ?_ hst
  refine Pu.one (i:=0) _ (QV ?_)
  exact hQ
noncomputable abbrev NV(cst cfi cse che:Addr)(hv:Option V)(T:Hp):Hp:=(cst,.cell none)::(cfi,.cell none)::(cse,.cell none)::(che,.cell hv)::T
theorem SQ(p:cy)(c:Ctx)(B:Base c (AQ p))(hs:c.env.scope=(AM (AQ p) 251).scope){cst cfi cse che:Addr}(hcs:c.env.cells=[(("step":Str),cst),("first",cfi),("second",cse),("head",che)]){script:List Int}{rs:Addr}(hlen:script.length<=63)(hS:∀ H,AK c H rs (.list (script.map .int))){T:Hp}{Q:Fl->Lo->Hp->Prop}(hQ:∀ sc,AW c ((AU (AM (AQ p) 251)).drop 2) [("script",.ref sc)] (NV cst cfi cse che (some (.int (script.getD 0 0))) ((sc,.list (script.map .int))::T)) Q) :
  AW c (AU (AM (AQ p) 251)) [("script",.ref rs)] (NV cst cfi cse che none T) Q:=by
 have hn:=congrArg c0 hs
 conv at hn=>rhs;whnf
 have lSc:Lc c "script":=AG hn (by kernel_rfl)
 have lHe:Ce c "head" che:=B8 hn hcs (by kernel_rfl) (by kernel_rfl)
 have kHe:c.env.kindOf "head" = some .cell:=BO hn (by decide +kernel)
 have hz:script.length<=1000:=Yi hlen (by decide)
 refine AB (Ac (IW (n:=63) (f:=V.int) (xs:=script) (Pu.n lSc) .one (hS _) hz fun sc=>AE lSc.1 ?_))
 rw[aH hlen]
 show AW c _ _ _ _
 refine AW.less (m':=[("script",.ref sc)]) (H':=NV cst cfi cse che none ((sc,.list (script.map .int))::T)) (AI.trans (Aa .k) (AI.perm (bW (l₁:=[(cst,O.cell none),(cfi,.cell none),(cse,.cell none),(che,.cell none)])))) ?_
 refine AB (Ac (Fn (CG ((Pu.n lSc) _ (Bn (AC ⟨bB rfl,fun y=>T5 (xs:=script) (ys:=[]) QN (.mem (.tail _ (.tail _ (.tail _ (.tail _ (.tail _ (.head _))))))) (.mem (.head _)) (Ak (EX (fun g=>?_) fun g=>?_))⟩))) (by with_unfolding_all rfl))))
 .have h0:0<script.length:=by
   cases script with
   | nil=>exact absurd g (by decide)
   | cons x l=>exact bM _
  show Af c _ _ _ _
  exact Pu.at (k:=0) (.n lSc) .one (.mem (.tail _ (.tail _ (.tail _ (.tail _ (.tail _ (.head _))))))) h0 hz (by intro _ _;with_unfolding_all rfl) _ (Fy kHe lHe (.tail (.tail (.tail (.tail (.head _))))) (AW.drop1 (hQ sc)))
 .have h0:script=[]:=by
   cases script with
   | nil=>rfl
   | cons x l=>exact absurd g (by simp)
  subst h0
  show Af c _ _ _ _
  exact Pu.one (i:=0) _ (Fy kHe lHe (.tail (.tail (.tail (.tail (.head _))))) (AW.drop1 (hQ sc)))
noncomputable def Ji(hd n:Int):Int:=if hd.fmod 8 != 0 then n.fmod (1+hd.fmod 8) else n
noncomputable def OJ(script:List Int):List Int:=script.drop 1++[((script.length:Nat):Int),0,1,0]
noncomputable def SS(script:List Int):List Int:=(OJ script).map (Ji (script.getD 0 0))
theorem La{script:List Int}(h:script.length<=63):(SS script).length<=66/\4<=(SS script).length:=by
 unfold SS OJ
 rw[V8,XS,dr]
 simp only[bT,dG]
 exact AJ 1 (.l Y0 (.n 63)) (.an (.l (.a (.s Y0 N1) (.a (.a (.a (.a (.n 0) N1) N1) N1) N1)) (.n 66)) (.l (.n 4) (.a (.s Y0 N1) (.a (.a (.a (.a (.n 0) N1) N1) N1) N1)))) [_] h
noncomputable def Th(hd:Int)(v:V):Option V:=@V.casesOn (fun _=>Option V) v (fun x=>@At.casesOn (fun _=>Option V) x .none (fun _=>.none) (fun n=>some (.int (Ji hd n))) (fun _=>.none) (fun _=>.none) (fun _=>.none) (fun _=>.none) fun _=>.none) fun _ _=>.none
theorem OK(hd:Int)(l:List Int):(l.map V.int).filterMap (Th hd)=(l.map (Ji hd)).map V.int:=by
 induction l with
 | nil=>rfl
 | cons x l ih=>rw[Vu,aA];show V.int _::_=_;rw[ih];rfl
theorem SP(p:cy)(c:Ctx)(B:Base c (AQ p))(hs:c.env.scope=(AM (AQ p) 251).scope){cst cfi cse che:Addr}(hcs:c.env.cells=[(("step":Str),cst),("first",cfi),("second",cse),("head",che)]){script:List Int}{sc:Addr}(hlen:script.length<=63){T:Hp}{Q:Fl->Lo->Hp->Prop}(hQ:∀ its,AW c ((AU (AM (AQ p) 251)).drop 3) [("items",.ref its)] (NV cst cfi cse che (some (.int (script.getD 0 0))) ((its,.list ((SS script).map .int))::T)) Q) :
  AW c ((AU (AM (AQ p) 251)).drop 2) [("script",.ref sc)] (NV cst cfi cse che (some (.int (script.getD 0 0))) ((sc,.list (script.map .int))::T)) Q:=by
 have hn:=congrArg c0 hs
 conv at hn=>rhs;whnf
 have gl:An c "len" (.bi "len"):=B.len hn (by kernel_rfl)
 have lSc:Lc c "script":=AG hn (by kernel_rfl)
 have lIt:Lc c "items":=AG hn (by kernel_rfl)
 have hz:script.length<=1000:=Yi hlen (by decide)
 have hsl:WS=16777216:=rfl
 generalize hhd:script.getD 0 0=hd at *
 have m0:=eQ hd (b:=8) (by decide)
 have hl:=(La hlen).1
 unfold SS at hl
 rw[V8]at hl
 unfold SS at hQ
 rw[hhd]at hQ
 refine AB (NX (cl:=[("head",che)]) (Ia hcs ?hcl) rfl lIt.1 (BP (Oi (n:=1) (f:=V.int) (xs:=script) (.n lSc) .one (.mem (.tail _ (.tail _ (.tail _ (.tail _ (.head _)))))) hz fun y1=>Bn (AA ((Pu.lenM gl (.n lSc) (.mem (.tail _ (.tail _ (.tail _ (.tail _ (.tail _ (.head _))))))) hz (hE:=fun _ h=>AZ h)) _ (AA (Pu.one (i:=0) _ (AA (Pu.one (i:=1) _ (AA (Pu.one (i:=0) _ (AC ⟨bB rfl,fun y2=>Qk (xs:=(script.drop 1).map V.int) (.mem (.tail _ (.head _))) (.mem (.head _)) (fun y3=>⟨y3,(OJ script).map V.int,Th hd,rfl,?_,?_,fun c2 hc v hv=>?_,fun its=>?_⟩) ?_⟩)))))))))) ) ?hsw)
 case hcl=>exact EJ.skip (by decide) (EJ.skip (by decide) (EJ.take (Cu.tail (by decide) (Cu.tail (by decide) (Cu.tail (by decide) (Cu.head _)))) (EJ.nil _)))
 case hsw=>exact L9 hn (by decide +kernel) (by decide) (by decide)
 .unfold OJ
  rw[XA]
  exact .head _
 .rw[V8];exact Yi hl (by decide)
 .obtain⟨w,_,rfl⟩:=Vm.mp hv
  have hn2:=hc.named hn
  have lX:Lc c2 "x":=AG hn2 (by kernel_rfl)
  have lH2:Ce c2 "head" che:=B8 hn2 hc.cells (by kernel_rfl) (by kernel_rfl)
  refine AP (AE lX.1 ?_)
  show Af c2 _ _ _ _
  refine Fn ((C5.neI (.mod (.cel lH2 (.mem (.tail _ (.tail _ (.tail _ (.tail _ (.tail _ (.tail _ (.head _))))))))) .one) .one) _ (EX (fun g=>?_) fun g=>?_))
  .exact(Pu.mod (.n lX) (.add .one (.mod (.cel lH2 (.mem (.tail _ (.tail _ (.tail _ (.tail _ (.tail _ (.tail _ (.head _))))))))) .one)) (by omega)) _ ⟨by show some _=some (V.int (Ji hd w));unfold Ji;rw[if_pos g],AI.refl _ _⟩
  .exact(Pu.n lX) _ ⟨by show some _=some (V.int (Ji hd w));unfold Ji;rw[g];rfl,AI.refl _ _⟩
 .rw[OK]
  exact AW.less (AI.trans (Aa .k) (AI.trans (AI.heap (H':=(its,O.list (((OJ script).map (Ji hd)).map V.int))::NV cst cfi cse che (some (.int hd)) T) (.cons_cons _ (.cons _ (.cons _ (.cons _ (.cons_cons _ (.cons_cons _ (.cons_cons _ (.cons_cons _ (.cons _ (.refl _))))))))))) (AI.perm (bW (l₁:=[(cst,O.cell none),(cfi,.cell none),(cse,.cell none),(che,.cell (some (.int hd)))]))))) (hQ its)
 .rw[V8,dr]
  simp only[bT,dG]
  exact AL 2 (.l Y0 (.n 63)) (.e Y1 (.n 16777216)) (.l (.a (.s Y0 N1) (.a (.a (.a (.a (.n 0) N1) N1) N1) N1)) Y1) [_,_] hlen hsl
theorem SO(p:cy)(c:Ctx)(B:Base c (AQ p))(hs:c.env.scope=(AM (AQ p) 251).scope){cst cfi cse che:Addr}(hcs:c.env.cells=[(("step":Str),cst),("first",cfi),("second",cse),("head",che)]){hd:Int}{items:List Int}{its:Addr}(hlen:items.length<=66){T:Hp}{Q:Fl->Lo->Hp->Prop}(hQ:∀ cut,cut<=items.length->AW c ((AU (AM (AQ p) 251)).drop 4) [("cut",.int (cut:Nat)),("items",.ref its)] (NV cst cfi cse che (some (.int hd)) ((its,.list (items.map .int))::T)) Q) :
  AW c ((AU (AM (AQ p) 251)).drop 3) [("items",.ref its)] (NV cst cfi cse che (some (.int hd)) ((its,.list (items.map .int))::T)) Q:=by
 have hn:=congrArg c0 hs
 conv at hn=>rhs;whnf
 have gl:An c "len" (.bi "len"):=B.len hn (by kernel_rfl)
 have lIt:Lc c "items":=AG hn (by kernel_rfl)
 have lCu:Lc c "cut":=AG hn (by kernel_rfl)
 have lHe:Ce c "head" che:=B8 hn hcs (by kernel_rfl) (by kernel_rfl)
 have hz:items.length<=1000:=Yi hlen (by decide)
 obtain⟨k,hk,hk2⟩:=Ln (((items.length:Nat):Int).fdiv 2+hd.fdiv 128) items.length
 exact AB (Al lCu ((Pu.mod (.add (.div (.lenM gl (.n lIt) (.mem (.tail _ (.tail _ (.tail _ (.tail _ (.head _)))))) hz (hE:=fun _ h=>AZ h)) .one) (.div (.cel lHe (.mem (.tail _ (.tail _ (.tail _ (.head _)))))) .one)) (.succ (.lenM gl (.n lIt) (.mem (.tail _ (.tail _ (.tail _ (.tail _ (.head _)))))) hz (hE:=fun _ h=>AZ h))) (fun e=>Nat.succ_ne_zero _ (VW.mp e))).as (congrArg V.int hk)) (hQ k hk2))
theorem SN(p:cy)(c:Ctx)(B:Base c (AQ p))(hs:c.env.scope=(AM (AQ p) 251).scope){cst cfi cse che:Addr}(hcs:c.env.cells=[(("step":Str),cst),("first",cfi),("second",cse),("head",che)]){hd:Int}{items:List Int}{its:Addr}{cut:Nat}(hlen:items.length<=66){T:Hp}{Q:Fl->Lo->Hp->Prop}(hQ:∀ rs z,z<=1->AW c ((AU (AM (AQ p) 251)).drop 5) [("cut",.int (cut:Nat)),("items",.ref its)] ((rs,.list ((items.drop cut++HA (200 * z)).map .int))::(cst,.cell none)::(cfi,.cell none)::(cse,.cell (some (.ref rs)))::(che,.cell (some (.int hd)))::(its,.list (items.map .int))::T) Q) :
  AW c ((AU (AM (AQ p) 251)).drop 4) [("cut",.int (cut:Nat)),("items",.ref its)] (NV cst cfi cse che (some (.int hd)) ((its,.list (items.map .int))::T)) Q:=by
 have hn:=congrArg c0 hs
 conv at hn=>rhs;whnf
 have lIt:Lc c "items":=AG hn (by kernel_rfl)
 have lCu:Lc c "cut":=AG hn (by kernel_rfl)
 have lHe:Ce c "head" che:=B8 hn hcs (by kernel_rfl) (by kernel_rfl)
 have lSe:Ce c "second" cse:=B8 hn hcs (by kernel_rfl) (by kernel_rfl)
 have kSe:c.env.kindOf "second" = some .cell:=BO hn (by decide +kernel)
 have hz:items.length<=1000:=Yi hlen (by decide)
 have hsl:WS=16777216:=rfl
 obtain⟨z,hz1,hz2⟩:=Ln (hd.fdiv 64) 1
 have ez:(200:Int) * (hd.fdiv 64).fmod 2=((200 * z:Nat):Int):=by rw[show(hd.fdiv 64).fmod 2=(z:Int) from hz1,Int.natCast_mul];rfl
 have zz:200 * z<=200:=by exact AJ 1 (.l Y0 N1) (.l (.m 200 Y0) (.n 200)) [_] hz2
 refine AB (Ac (BP (Oi (n:=cut) (f:=V.int) (xs:=items) (.n lIt) (.n lCu) (.mem (.tail _ (.tail _ (.tail _ (.tail _ (.head _)))))) hz fun y1=>BP (Bn (AA (Pu.one (i:=0) _ (AC ⟨bB rfl,fun y2=>BP (Pu.one (i:=200) _ ((Pu.mod (.div (.cel lHe (.mem (.tail _ (.tail _ (.tail _ (.tail _ (.tail _ (.head _)))))))) .one) .one) _ (TK ?_ (.of_left (by decide)))))⟩)))))))
 rw[ez]
 refine No (xs:=[V.int 0]) (.mem (.head _)) (fun y3=>?_) (Ey (Yi zz (by decide))) ?_
 .rw[GH]
  refine Qk (xs:=(items.drop cut).map V.int) (.mem (.tail _ (.tail _ (.head _)))) (.mem (.head _)) (fun rs=>Fy kSe lSe (.tail (.tail (.tail (.tail (.tail (.tail (.head _))))))) ?_) ?_
  .rw[<- XA]
   exact AW.less (AI.heap (.cons_cons _ (.cons _ (.cons _ (.cons _ (.refl _)))))) (hQ rs z hz2)
  .rw[V8,V8,dr,eM];exact Be 4 (.l Y0 (.n 66)) (.e Y1 (.n 16777216)) (.l Y2 N1) (.l (.a (.s Y0 Y3) (.m 200 Y2)) Y1) [_,_,_,_] hlen hsl hz2
 .rw[VQ,dI,Nat.one_mul];exact Yi zz (by decide)
theorem Pu.cmpEq{c:Ctx}{m:Lo}{H:Hp}{pos:Pos}{l r:Expr}{a b:Int}(h1:Pu c l m H (.int a))(h2:Pu c r m H (.int b))(hm:autoParam (V0 .Eq r=false) CZ):Pu c (.Compare l [.Eq] [r] pos) m H (.bool (a==b)):=fun _ h=>Oj (h1 _ (h2 _ (QV h))) hm
noncomputable abbrev st4(hd:Int):Int:=(hd.fdiv 8).fmod 4
noncomputable abbrev Mu(hd:Int):Bool:=(hd.fdiv 32).fmod 2==0
theorem SM(p:cy)(c:Ctx)(B:Base c (AQ p))(hs:c.env.scope=(AM (AQ p) 251).scope){cst cfi cse che:Addr}(hcs:c.env.cells=[(("step":Str),cst),("first",cfi),("second",cse),("head",che)]){hd:Int}{m0:Lo}{q0:Addr×O}{w:Option V}{T:Hp}{Q:Fl->Lo->Hp->Prop}(hQ:AW c ((AU (AM (AQ p) 251)).drop 6) (("auto",.bool (Mu hd))::m0) (q0::(cst,.cell (some (.int (st4 hd))))::(cfi,.cell none)::(cse,.cell w)::(che,.cell (some (.int hd)))::T) Q) :
  AW c ((AU (AM (AQ p) 251)).drop 5) m0 (q0::(cst,.cell none)::(cfi,.cell none)::(cse,.cell w)::(che,.cell (some (.int hd)))::T) Q:=by
 have hn:=congrArg c0 hs
 conv at hn=>rhs;whnf
 have lAu:Lc c "auto":=AG hn (by kernel_rfl)
 have lHe:Ce c "head" che:=B8 hn hcs (by kernel_rfl) (by kernel_rfl)
 have lSt:Ce c "step" cst:=B8 hn hcs (by kernel_rfl) (by kernel_rfl)
 have kSt:c.env.kindOf "step" = some .cell:=BO hn (by decide +kernel)
 refine AB (Er ((Pu.tup (xs:=[.int (st4 hd),.bool (Mu hd)]) (.cons (.mod (.div (.cel lHe (.mem (.tail _ (.tail _ (.tail _ (.tail _ (.head _))))))) .one) .one) (.cons (.cmpEq (.mod (.div (.cel lHe (.mem (.tail _ (.tail _ (.tail _ (.tail _ (.head _))))))) .one) .one) .one) .nil)) (by simp)) _ (Ch (AP (Fy kSt lSt (.tail (.head _)) (AP (AE lAu.1 ?_)))))) (hw:=LL hn (by kernel_rfl)))
 exact hQ
theorem MM{α:Type}(s t u v w:α):ZA [v,w,u,t,s] [s,t,u,v,w]:=by
 refine((d5 (l₁:=[v,w]) (l₂:=[u,t,s]))).trans ?_
 exact((d9 [s,t,u]).append_right [v,w])
theorem N4{c:Ctx}{m:Lo}{x d D S S2 ra rb:Addr}{z1 z2:C8}{ep:Nat}{G:GL}{bs:List IS}{J:At}{jk:IS->Bool}{on:Bool}{H:Hp} :
  ∃ ks1 ks2,To c m (Rh x d ra rb D S S2 z1 z2 ep G bs (.at J) jk on H) m (hM ⟨x,d,D,S,S2,rb,J,on⟩ .none .none ra (((D,.dict ep (gD ((G.filter fun e=>!jk e.1).filter fun e=>!BB bs.length on e)))::(S,.set z1 ks1)::(S2,.set z2 ks2)::gL G)++H)):=by
 refine⟨_,_,(To.less (AI.perm (H':=(x,O.inst 242 d)::(d,.ns (Ur (.at J) on ra rb D S S2))::(((D,.dict ep (gD ((G.filter fun e=>!jk e.1).filter fun e=>!BB bs.length on e)))::(S,.set z1 ((G.map (·.1)).filter jk))::(S2,.set z2 (((G.filter fun e=>!jk e.1).filter (BB bs.length on)).map (·.1)))::gL G)++H)) ?_)).trans (To.ns (LC.eq (ks:=Jb) (fs':=fM ⟨x,d,D,S,S2,rb,J,on⟩ .none .none ra) ⟨by kernel_rfl,by kernel_rfl,by kernel_rfl⟩))⟩
 exact(MM _ _ _ _ _).append_right (gL G++H)
theorem SK(p:cy)(c:Ctx)(hfu:c.fuel=70)(B:Base c (AQ p))(hs:c.env.scope=(AM (AQ p) 251).scope){cst cfi cse che rs:Addr}(hcs:c.env.cells=[(("step":Str),cst),("first",cfi),("second",cse),("head",che)]){sec:List Int}{m0:Lo}{H:Hp}{Q:Fl->Lo->Hp->Prop}(hc:(cse,O.cell (some (.ref rs)))∈H)(hsec:(rs,O.list (sec.map .int))∈H)(hz:sec.length<=266)(hQ:∀ (M:M4) Bl ra L',Bl.Perm sec->Bl.Pairwise (·<=·)->(M.rb,O.list (Bl.map .int))∈L'->(ra,O.list [])∈L'->RM L' M Bl->AW c ((AU (AM (AQ p) 251)).drop 8) (("ordered",.ref M.x)::m0) (hM M .none .none ra (L'++H)) Q) :
  AW c ((AU (AM (AQ p) 251)).drop 7) m0 H Q:=by
 have hn:=congrArg c0 hs
 conv at hn=>rhs;whnf
 have gs:An c "sorted" (.bi "sorted"):=B.sorted hn (by kernel_rfl)
 have gS:An c "SequenceMatcher" (.ref 242):=B.glob (BO hn (by decide +kernel)) (by kernel_rfl) rfl
 have lOr:Lc c "ordered":=AG hn (by kernel_rfl)
 have lSe:Ce c "second" cse:=B8 hn hcs (by kernel_rfl) (by kernel_rfl)
 refine AB (Ac (AZ (BW gS (AA (Pu.none _ (AA (Bn (AC ⟨bB rfl,fun ra=>AA (AZ (BW gs (AA ((Pu.cel lSe (.mem (.tail _ hc))) _ (AC ⟨Av,EW (.mem (.tail _ hsec)) (Yi hz (by decide)) fun rb Bl hp hB=>AA (Om (AC ⟨Aq B (by kernel_rfl),Ao.cal (Dv p (k:=65) hfu B (J:=.none) (on:=false) (more:=[.bool false]) (.inl rfl) rfl (bs:=Bl.map IS.i) (jk:=fun _=>false) (W:=[]) (fun c2 _ _ _ _=>.inl ⟨rfl,fun x=>rfl⟩) (fun q hq=>nomatch hq) (by rw[UL];exact .head _) (fun x hx=>(Vm.mp hx).elim fun n t9=>t9.elim fun _ e=>⟨n,e.symm⟩) (by rw[V8,hp.length_eq];exact Yi hz (by decide)) fun x d D S S2 z1 z2 ep G hG=>AE lOr.1 ?_)⟩))⟩)))))⟩))))))))
 obtain⟨ks1,ks2,hto⟩:=N4 (c:=c) (m:=("ordered",.ref x)::m0) (x:=x) (d:=d) (D:=D) (S:=S) (S2:=S2) (ra:=ra) (rb:=rb) (z1:=z1) (z2:=z2) (ep:=ep) (G:=G) (bs:=Bl.map IS.i) (J:=.none) (jk:=fun _=>false) (on:=false) (H:=(rb,O.list (Bl.map .int))::(ra,O.list [])::H)
 have e:∀ (X:Hp) (u v:Addr×O),X++u::v::H=(X++[u,v])++H:=fun X u v=>by rw[Wv];rfl
 refine AW.to hto ?_
 rw[e]
 refine hQ ⟨x,d,D,S,S2,rb,.none,false⟩ Bl ra _ hp hB ?_ ?_ ⟨ep,gD ((G.filter fun e=>!false).filter fun e=>!BB (Bl.map IS.i).length false e),z1,ks1,.head _,.tail _ (.head _),?_⟩
 .exact XN _ (.head _)
 .exact XN _ (.tail _ (.head _))
 .exact OO (jk':=fun _=>false) hG (fun _=>rfl) fun q hq=>XR _ (.tail _ (.tail _ (.tail _ hq)))
theorem SJ(p:cy)(c:Ctx)(hfu:c.fuel=70)(B:Base c (AQ p))(hs:c.env.scope=(AM (AQ p) 251).scope){cst cfi cse che rs:Addr}(hcs:c.env.cells=[(("step":Str),cst),("first",cfi),("second",cse),("head",che)]){sec:List Int}{m0:Lo}{H:Hp}{Q:Fl->Lo->Hp->Prop}(hc:(cse,O.cell (some (.ref rs)))∈H)(hsec:(rs,O.list (sec.map .int))∈H)(hz:sec.length<=266)(hQ:∀ (M:M4) ra L',(M.rb,O.list ((HA sec.length).map .int))∈L'->(ra,O.list [])∈L'->RM L' M (HA sec.length)->AW c ((AU (AM (AQ p) 251)).drop 9) (("alike",.ref M.x)::m0) (hM M .none .none ra (L'++H)) Q) :
  AW c ((AU (AM (AQ p) 251)).drop 8) m0 H Q:=by
 have hn:=congrArg c0 hs
 conv at hn=>rhs;whnf
 have gl:An c "len" (.bi "len"):=B.len hn (by kernel_rfl)
 have gS:An c "SequenceMatcher" (.ref 242):=B.glob (BO hn (by decide +kernel)) (by kernel_rfl) rfl
 have lAl:Lc c "alike":=AG hn (by kernel_rfl)
 have lSe:Ce c "second" cse:=B8 hn hcs (by kernel_rfl) (by kernel_rfl)
 refine AB (Ac (AZ (BW gS (AA (Pu.none _ (AA (Bn (AC ⟨bB rfl,fun ra=>AA (BP (Bn (AA (Pu.one (i:=0) _ (AC ⟨bB rfl,fun y=>(Pu.lenM gl (.cel lSe (.mem (.tail _ (.tail _ hc)))) (.mem (.tail _ (.tail _ hsec))) (Yi hz (by decide)) (hE:=fun _ h=>AZ h)) _ (No (xs:=[V.int 0]) (.mem (.head _)) (fun rb=>?_) (Ey (Yi hz (by decide))) ?_)⟩)))))⟩))))))))
 .rw[GH]
  refine AA (Om (AC ⟨Aq B (by kernel_rfl),Ao.cal (Dv p (k:=65) hfu B (J:=.none) (on:=false) (more:=[.bool false]) (.inl rfl) rfl (bs:=(HA sec.length).map IS.i) (jk:=fun _=>false) (W:=[]) (fun c2 _ _ _ _=>.inl ⟨rfl,fun x=>rfl⟩) (fun q hq=>nomatch hq) (by rw[UL];exact .head _) (fun x hx=>(Vm.mp hx).elim fun n t9=>t9.elim fun _ e=>⟨n,e.symm⟩) (by rw[V8,eM];exact Yi hz (by decide)) fun x d D S S2 z1 z2 ep G hG=>AE lAl.1 ?_)⟩))
  obtain⟨ks1,ks2,hto⟩:=N4 (c:=c) (m:=("alike",.ref x)::m0) (x:=x) (d:=d) (D:=D) (S:=S) (S2:=S2) (ra:=ra) (rb:=rb) (z1:=z1) (z2:=z2) (ep:=ep) (G:=G) (bs:=(HA sec.length).map IS.i) (J:=.none) (jk:=fun _=>false) (on:=false) (H:=(rb,O.list ((HA sec.length).map .int))::(y,O.list [V.int 0])::(ra,O.list [])::H)
  have e:∀ (X:Hp) (u v w:Addr×O),X++u::v::w::H=(X++[u,v,w])++H:=fun X u v w=>by rw[Wv];rfl
  refine AW.to hto ?_
  rw[e]
  refine hQ ⟨x,d,D,S,S2,rb,.none,false⟩ ra _ ?_ ?_ ⟨ep,gD ((G.filter fun e=>!false).filter fun e=>!BB ((HA sec.length).map IS.i).length false e),z1,ks1,.head _,.tail _ (.head _),?_⟩
  .exact XN _ (.head _)
  .exact XN _ (.tail _ (.tail _ (.head _)))
  .exact OO (jk':=fun _=>false) hG (fun _=>rfl) fun q hq=>XR _ (.tail _ (.tail _ (.tail _ hq)))
 .rw[VQ,dI,Nat.one_mul];exact Yi hz (by decide)
noncomputable abbrev Pt:XG:={ kind:=.function,names:=[("x",NameKind.local),("step",aZ)],isGenerator:=false,isCoroutine:=false }
noncomputable abbrev RA(cst cfi cse che rs its:Addr)(sec items:List Int)(hd:Int)(ps:Array VX):Hp:=[(rs,.list (sec.map .int)),(cst,.cell (some (.int (st4 hd)))),(cfi,.cell none),(cse,.cell (some (.ref rs))),(che,.cell (some (.int hd))),(its,.list (items.map .int)),(248,.obj (tabObj ps)),(220,.obj (tabObj #[]))]
theorem Ss{c:Ctx}{mg:Str->Option VX}(LB:LamBase c mg 250 248)(hlim:c.Knows Wz){cst cfi cse che rs its:Addr}(hcs:c.env.cells=[(("step":Str),cst),("first",cfi),("second",cse),("head",che)]){sec items:List Int}{hd:Int}(h0:st4 hd≠0){m:Lo}{Q:V->Lo->Hp->Prop}{q4 p1 p2 p3 p4 p5 p6:Pos}(h:∀ J W U ps,(V.at J).notBi=true->(∀ k,BY c (k+1) (.at J) (Uq (st4 hd)) W)->(∀ q∈W,q∈U++[(cst,O.cell (some (.int (st4 hd))))])->Q (.at J) m (U++RA cst cfi cse che rs its sec items hd ps)) :
  Af c (.Lambda ⟨[],[⟨"x",none,p1⟩],none,[],[],none,[]⟩ (.Compare (.BinOp (.Name "x" p2) .Mod (.Name "step" p3) p5) [.Eq] [.Constant (.int 0) 0 p6] p4) Pt q4) m (RA cst cfi cse che rs its sec items hd #[]) Q:=by
 refine Og (ps:=#[]) (clos:=[("step",cst)]) LB rfl (Ia hcs (EJ.skip (by decide) (EJ.take (Cu.head _) (EJ.nil _)))) (.tail (.tail (.tail (.tail (.tail (.tail (.head _))))))) trivial rfl ?_
 intro f c' oc ctv vs t ps' hoc hq
 refine h (.ref f) [(f,.obj (kla_obj "<lambda>" (c.env.qual ++ "<lambda>") ⟨[],[⟨"x",none,p1⟩],none,[],[],none,[]⟩ (.Compare (.BinOp (.Name "x" p2) .Mod (.Name "step" p3) p5) [.Eq] [.Constant (.int 0) 0 p6] p4) Pt [("step",cst)] ((mg "__name__").getD .none) c' ctv)),(c',.obj oc),(cst,.cell (some (.int (st4 hd))))] [(f,.obj (kla_obj "<lambda>" (c.env.qual ++ "<lambda>") ⟨[],[⟨"x",none,p1⟩],none,[],[],none,[]⟩ (.Compare (.BinOp (.Name "x" p2) .Mod (.Name "step" p3) p5) [.Eq] [.Constant (.int 0) 0 p6] p4) Pt [("step",cst)] ((mg "__name__").getD .none) c' ctv)),(c',.obj oc)] ps' rfl (fun k=>Ps (scope:=Pt) hlim h0 rfl rfl rfl rfl hoc hq (.head _) (.tail _ (.head _)) (.tail _ (.tail _ (.head _)))) (fun q hq=>hq)
theorem SL(p:cy)(c:Ctx)(hfu:c.fuel=70)(B:Base c (AQ p)){mg:Str->Option VX}(LB:LamBase c mg 250 248)(hs:c.env.scope=(AM (AQ p) 251).scope){cst cfi cse che rs its:Addr}(hcs:c.env.cells=[(("step":Str),cst),("first",cfi),("second",cse),("head",che)]){sec items:List Int}{hd:Int}{m0:Lo}{Q:Fl->Lo->Hp->Prop}(hz:sec.length<=266)(hQ:∀ (M:M4) ra L' ps jk W,M.rb=rs->(V.at M.J).notBi=true->(∀ k,BY c (k+1) (.at M.J) jk W)->(∀ q∈W,q∈L'++[(cst,O.cell (some (.int (st4 hd))))])->(ra,O.list [])∈L'->AW c ((AU (AM (AQ p) 251)).drop 7) (("asked",.ref M.x)::("auto",.bool (Mu hd))::m0) (hM M .none .none ra (L'++RA cst cfi cse che rs its sec items hd ps)) Q) :
  AW c ((AU (AM (AQ p) 251)).drop 6) (("auto",.bool (Mu hd))::m0) (RA cst cfi cse che rs its sec items hd #[]) Q:=by
 have hn:=congrArg c0 hs
 conv at hn=>rhs;whnf
 have gS:An c "SequenceMatcher" (.ref 242):=B.glob (BO hn (by decide +kernel)) (by kernel_rfl) rfl
 have lAs:Lc c "asked":=AG hn (by kernel_rfl)
 have lAu:Lc c "auto":=AG hn (by kernel_rfl)
 have lSe:Ce c "second" cse:=B8 hn hcs (by kernel_rfl) (by kernel_rfl)
 have lSt:Ce c "step" cst:=B8 hn hcs (by kernel_rfl) (by kernel_rfl)
 have made:∀ (J:At) (jk:IS->Bool) (W U:Hp) (ps:Array VX),(V.at J).notBi=true->(∀ k,BY c (k+1) (.at J) jk W)->(∀ q∈W,q∈U++[(cst,O.cell (some (.int (st4 hd))))])->∀ ra x d D S S2 z1 z2 ep G,gP G=Lg (sec.map IS.i) ->
   AW c ((AU (AM (AQ p) 251)).drop 7) (("asked",.ref x)::("auto",.bool (Mu hd))::m0) (Rh x d ra rs D S S2 z1 z2 ep G (sec.map IS.i) (.at J) jk (Mu hd) ((ra,.list [])::(U++RA cst cfi cse che rs its sec items hd ps))) Q:=by
  intro J jk W U ps h1 h2 h3 ra x d D S S2 z1 z2 ep G hG
  obtain⟨ks1,ks2,hto⟩:=N4 (c:=c) (m:=("asked",.ref x)::("auto",.bool (Mu hd))::m0) (x:=x) (d:=d) (D:=D) (S:=S) (S2:=S2) (ra:=ra) (rb:=rs) (z1:=z1) (z2:=z2) (ep:=ep) (G:=G) (bs:=sec.map IS.i) (J:=J) (jk:=jk) (on:=Mu hd) (H:=(ra,O.list [])::(U++RA cst cfi cse che rs its sec items hd ps))
  have e:∀ (X:Hp) (u:Addr×O) (Y:Hp),X++u::(U++Y)=(X++u::U)++Y:=fun X u Y=>by rw[Wv];rfl
  refine AW.to hto ?_
  rw[e]
  refine hQ ⟨x,d,D,S,S2,rs,J,Mu hd⟩ ra _ ps jk W rfl h1 h2 (fun q hq=>?_) (XN _ (.head _))
  rw[Wv]
  exact XN _ (.tail _ (h3 q hq))
 have hsec:∀ (U:Hp) (ra:Addr) ps,(rs,O.list ((sec.map IS.i).map IS.v))∈(ra,O.list [])::(U++RA cst cfi cse che rs its sec items hd ps):=fun U ra ps=>by rw[UL];exact .tail _ (XN U (.head _))
 have hcse:∀ (U:Hp) (ra:Addr) ps,(cse,O.cell (some (.ref rs)))∈(ra,O.list [])::(U++RA cst cfi cse che rs its sec items hd ps):=fun U ra ps=>.tail _ (XN U (.tail _ (.tail _ (.tail _ (.head _)))))
 have hbi:∀ x∈sec.map IS.i,∃ n,x=IS.i n:=fun x hx=>(Vm.mp hx).elim fun n t9=>t9.elim fun _ e=>⟨n,e.symm⟩
 have hbz:(sec.map IS.i).length<=1000:=by rw[V8];exact Yi hz (by decide)
 refine AB (Ac (AZ (BW gS (AA (Fn ((C5.neI (.cel lSt (.mem (.tail _ (.head _)))) .one) _ (EX (fun g=>?_) fun g=>?_)))))))
 .have h0:st4 hd≠0:=bne_iff_ne.mp g
  refine Ss LB B.lim hcs h0 fun J W U ps h1 h2 h3=>AA (Bn (AC ⟨bB rfl,fun ra=>AA ((Pu.cel lSe (.mem (hcse U ra ps))) _ (AA ((Pu.n lAu) _ (AC ⟨Aq B (by kernel_rfl),Ao.cal (Dv p (k:=65) hfu B (on:=Mu hd) (more:=[.bool (Mu hd)]) (.inl rfl) h1 (bs:=sec.map IS.i) (h2 64) (fun q hq=>?_) (hsec U ra ps) hbi hbz fun x d D S S2 z1 z2 ep G hG=>AE lAs.1 (made J _ W U ps h1 h2 h3 ra x d D S S2 z1 z2 ep G hG))⟩))))⟩))
  rcases W9.mp (h3 q hq) with h|h
  .exact .tail _ (XR _ h)
  .exact .tail _ (XN _ (.tail _ (by rw[XQ.mp h];exact .head _)))
 .refine Pu.none _ (AA (Bn (AC ⟨bB rfl,fun ra=>AA ((Pu.cel lSe (.mem (hcse [] ra #[]))) _ (AA ((Pu.n lAu) _ (AC ⟨Aq B (by kernel_rfl),Ao.cal (Dv p (k:=65) hfu B (J:=.none) (on:=Mu hd) (more:=[.bool (Mu hd)]) (.inl rfl) rfl (bs:=sec.map IS.i) (jk:=fun _=>false) (W:=[]) (fun c2 _ _ _ _=>.inl ⟨rfl,fun x=>rfl⟩) (fun q hq=>nomatch hq) (hsec [] ra #[]) hbi hbz fun x d D S S2 z1 z2 ep G hG=>AE lAs.1 (made .none _ [] [] #[] rfl (fun k c2 _ _ _ _=>.inl ⟨rfl,fun x=>rfl⟩) (fun q hq=>nomatch hq) ra x d D S S2 z1 z2 ep G hG))⟩))))⟩)))
theorem Ng{α:Type}(x3 d3 x2 d2 x1 d1 s1 s2 s3 s4 s5 s6 s7 s8:α)(L3 L2 L1:List α):ZA (x1::d1::x2::d2::x3::d3::s8::s3::(L3++(L2++(L1++[s1,s2,s4,s5,s6,s7])))) (x3::d3::(L3++x2::d2::(L2++x1::d1::(L1++[s1,s2,s3,s4,s5,s6,s7,s8])))):=by
 classical
 rw[dp]
 intro q
 simp only[dU,List.count_cons,List.count_nil,cE]
 ac_rfl
theorem TZ(p:cy)(c:Ctx)(hfu:c.fuel=70)(B:Base c (AQ p)){mg:Str->Option VX}(LB:LamBase c mg 250 248)(G:RatB c mg)(hs:c.env.scope=(AM (AQ p) 251).scope){cst cfi cse che:Addr}(hcs:c.env.cells=[(("step":Str),cst),("first",cfi),("second",cse),("head",che)]){script:List Int}{rs:Addr}(hlen:script.length<=63)(hS:∀ H,AK c H rs (.list (script.map .int))) :
  AW c (AU (AM (AQ p) 251)) [("script",.ref rs)] (NV cst cfi cse che none [(248,.obj (tabObj #[])),(220,.obj (tabObj #[]))]) fun f _ H'=>f=.ret (.bool true)/\(∃ ps,(248,O.obj (tabObj ps))∈H')/\∃ ps,(220,O.obj (tabObj ps))∈H':=by
 refine SQ p c B hs hcs hlen hS fun sc=>SP p c B hs hcs hlen fun its=>?_
 have hl:=(La hlen).1
 generalize script.getD 0 0=hd
 generalize SS script=items at hl ⊢
 refine SO p c B hs hcs hl fun cut hcut=>SN p c B hs hcs hl fun rs z hz=>?_
 have hz2:200 * z<=200:=Nat.mul_le_mul_left 200 hz
 have hsec:(items.drop cut++HA (200 * z)).length<=266:=by
  rw[XS,dr,eM]
  exact eR (Yi (Nat.sub_le _ _) hl) hz2
 have hse:∃ n,n<=200/\items.drop cut++HA (200 * z)=items.drop cut++Xd n 0:=⟨200 * z,hz2,rfl⟩
 generalize items.drop cut++HA (200 * z)=sec at hsec hse ⊢
 refine SM p c B hs hcs (SL p c hfu B LB hs hcs hsec fun M1 ra1 L1 ps jk W e1 h1 h2 h3 h4=>?_)
 refine SK p c hfu B hs hcs (sec:=sec) (rs:=rs) ?_ ?_ hsec fun M2 Bl ra2 L2 hp hB k1 k2 k3=>SJ p c hfu B hs hcs (sec:=sec) (rs:=rs) ?_ ?_ hsec fun M3 ra3 L3 k4 k5 k6=>?_
 .exact .tail _ (.tail _ (XN _ (.tail _ (.tail _ (.tail _ (.head _))))))
 .exact .tail _ (.tail _ (XN _ (.head _)))
 .exact .tail _ (.tail _ (XN _ (.tail _ (.tail _ (XN _ (.tail _ (.tail _ (.tail _ (.head _)))))))))
 .exact .tail _ (.tail _ (XN _ (.tail _ (.tail _ (XN _ (.head _))))))
 have u3:∀ q∈L3,q∈L3++(L2++(L1++[(rs,O.list (sec.map .int)),(cst,.cell (some (.int (st4 hd)))),(cse,.cell (some (.ref rs))),(che,.cell (some (.int hd))),(its,.list (items.map .int)),(248,.obj (tabObj ps))])):=fun q hq=>XR _ hq
 have u2:∀ q∈L2,q∈L3++(L2++(L1++[(rs,O.list (sec.map .int)),(cst,.cell (some (.int (st4 hd)))),(cse,.cell (some (.ref rs))),(che,.cell (some (.int hd))),(its,.list (items.map .int)),(248,.obj (tabObj ps))])):=fun q hq=>XN _ (XR _ hq)
 have u1:∀ q∈L1,q∈L3++(L2++(L1++[(rs,O.list (sec.map .int)),(cst,.cell (some (.int (st4 hd)))),(cse,.cell (some (.ref rs))),(che,.cell (some (.int hd))),(its,.list (items.map .int)),(248,.obj (tabObj ps))])):=fun q hq=>XN _ (XN _ (XR _ hq))
 have u0:∀ q∈[(rs,O.list (sec.map .int)),(cst,.cell (some (.int (st4 hd)))),(cse,.cell (some (.ref rs))),(che,.cell (some (.int hd))),(its,.list (items.map .int)),(248,.obj (tabObj ps))],q∈L3++(L2++(L1++[(rs,O.list (sec.map .int)),(cst,.cell (some (.int (st4 hd)))),(cse,.cell (some (.ref rs))),(che,.cell (some (.int hd))),(its,.list (items.map .int)),(248,.obj (tabObj ps))])):=fun q hq=>XN _ (XN _ (XN _ hq))
 refine AW.less (m':=N5 ⟨M1,M2,M3,cfi,cse,its,items,sec,Bl,cut,jk,W⟩) (H':=H4 ⟨M1,M2,M3,cfi,cse,its,items,sec,Bl,cut,jk,W⟩ ⟨ra1,ra2,ra3,.none,.none,.none,none,#[]⟩ _) (AI.trans (Aa .k) (AI.perm (Ng _ _ _ _ _ _ _ _ _ _ _ _ _ _ L3 L2 L1))) ?_
 refine OC p c (a:=⟨M1,M2,M3,cfi,cse,its,items,sec,Bl,cut,jk,W⟩) hfu B G hs hcs ⟨⟨h1,h2,fun q hq=>?_,?_,?_,u0 _ (.tail _ (.tail _ (.tail _ (.tail _ (.head _))))),u2 _ k1,u3 _ k4,k3.mono u2,k6.mono u3,⟨ps,u0 _ (.tail _ (.tail _ (.tail _ (.tail _ (.tail _ (.head _))))))⟩⟩,⟨hp,hB,hl,hcut,hse⟩,⟨⟨[],u1 _ h4⟩,⟨[],u2 _ k2⟩,⟨[],u3 _ k5⟩⟩,.inl rfl,trivial⟩ fun s R ok lt=>?_
 .rcases W9.mp (h3 q hq) with h|h
  .exact u1 _ h
  .exact u0 _ (.tail _ (by rw[XQ.mp h];exact .head _))
 .rw[show M1.rb=rs from e1];exact u0 _ (.tail _ (.tail _ (.head _)))
 .rw[show M1.rb=rs from e1];exact u0 _ (.head _)
 .obtain⟨A,r,L,d,it,_⟩:=id lt
  exact SI p c hfu B hs hcs ok it.ne fun D S S2 y=>SH p c hfu B G hs ok lt fun m H q1 q2=>⟨rfl,q1,q2⟩
section
set_option maxHeartbeats 4000000
theorem O1{α β:Type}{P:α->β->Prop}:∀ a o,(a,o)∈([]:List (α×β))->P a o:=fun _ _ h=>nomatch h
theorem Ci{α β:Type}{P:α->β->Prop}{x:α}{y:β}{l:List (α×β)}(h:P x y)(k:∀ a o,(a,o)∈l->P a o):∀ a o,(a,o)∈(x,y)::l->P a o:=fun a o m=>by
 rcases Vq.mp m with e|m
 .cases e;exact h
 .exact k a o m
theorem O2{α β:Type}{P:α->Prop}:∀ a,a∈([]:List (α×β)).map (·.1)->P a:=fun _ h=>nomatch h
theorem Cj{α β:Type}{P:α->Prop}{x:α}{y:β}{l:List (α×β)}(h:P x)(k:∀ a,a∈l.map (·.1)->P a):∀ a,a∈((x,y)::l).map (·.1)->P a:=fun a m=>by
 rcases Vq.mp m with e|m
 .cases e;exact h
 .exact k a m
theorem kn_postB{M:Wd}{A:Va}{cd:Code}{s s₁:Vb}{cw:ClaimW}{cl:Str->Option Addr}{mean:ExcName->Option VX}{args:List WData}{tabs:List (Addr×Addr)}(hT:TabsAt tabs s₁.heap)(hr:∀ cls,cw.raises args cls=false)(hp:cw.post args (.bool true) args=true)(h:Wq M A cd (fun r s'=>r=.ok (.ret (.bool true))/\(∀ b o,(eZ s₁.heap tabs).get? b=some o->s'.heap.get? b=some o)/\s'.os=s₁.os/\Vl s'.gens/\GrownAll tabs s'.heap) s):Wq M A cd (GoodWG cw cl mean args s₁) s:=
 YB h fun r s' t8=>t8.elim fun e t9=>t9.elim fun hk t9=>t9.elim fun hos t9=>t9.elim fun hg hgr=>by
  subst e
  have main:∀ b o,s₁.heap.get? b=some o->s'.heap.get? b=some o∨(isCodeTable s₁.heap b/\o=tabObj #[]/\GrownAt b s'.heap):=fun b o e=>by
   by_cases hb:b∈tabs.map (·.2)
   .obtain⟨q,hq,rfl⟩:=Vm.mp hb
    have hd:=hT q hq
    exact .inr ⟨(hd.1.tab hd.2).isCodeTable,Option.some.inj (e.symm.trans hd.2),hgr.get q hq⟩
   .exact .inl (hk b o (ghost_ne e hb))
  refine⟨.inl ⟨.bool true,.bool true,[],rfl,hr,.bool _,hp,fun _=>⟨.nil,nofun⟩⟩,⟨fun b o e=>?_,fun b o e=>?_⟩,hos,hg⟩
  .rcases main b o e with q|⟨q1,rfl,ps,q3⟩
   .exact .inl q
   .exact .inr (.inl ⟨q1,rfl,#[],ps,rfl,by rw[Array.empty_append];exact q3⟩)
  .rcases main b o e with q|⟨_,_,ps,q3⟩
   .exact⟨_,q⟩
   .exact⟨_,q3⟩
theorem call_cellsT{prog:VY}{w:VZ}{A:Va}{R:XF->Vb->Prop}{s:Vb}{name:Str}{params:Arguments}{body:List Stmt}{scope:XG}{pm cd doc:VX}{a:Addr}{o:Obj}{args:List VX}{binds:List (Str×VX)}(hroom:A.depth<Vk)(ho:s.heap.get? a=some o)(hdata:o.data=.func (docDef name params body scope pm cd doc))(hlim:s.heap.NoLimit)(hcd:s.heap.CodeRec cd name)(hbind:X8 (docDef name params body scope pm cd doc) ⟨args,[]⟩=pure binds)(hkind:∀ x∈binds,scope.names.lookup x.1=some .local∨(scope.names.lookup x.1=some .cell/\((Wy (s.heap.objs.size+1) scope.names []).lookup x.1).isSome=true))(hnd:((Wy 0 scope.names []).map (·.1)).Nodup)(h:∀ h₁ tk cells,s.toks<=tk->Fr s.heap s.heap.objs.size h₁ (bindL (envOfC name scope s.heap.objs.size a cd).kindOf binds fun _=>none)->News s.heap s.heap.objs.size h₁ cells->CellsAre (bindC (envOfC name scope s.heap.objs.size a cd).kindOf binds fun _=>none) (Wy (s.heap.objs.size+1) scope.names []) cells ->
   Vc (model prog w) (A.deeper (envOfC name scope s.heap.objs.size a cd)) (execs body (envOfC name scope s.heap.objs.size a cd)) (fun f s'=>R (.ok (.ret (match f with | .ret v=>v|_=>.none))) s')
    (fun e s'=>Vc (model prog w) (A.deeper (envOfC name scope s.heap.objs.size a cd)) («leaving» (envOfC name scope s.heap.objs.size a cd) e) (fun _ s''=>R (.error e) s'') (fun e' s''=>R (.error e') s'') s') { s with heap:=h₁,toks:=tk })(hco:autoParam (scope.isCoroutine=false) AV)(hgen:autoParam (scope.isGenerator=false) AV)(hk:autoParam (scope.kind=.function) AV):Wq (model prog w) A (.call (.ref a) ⟨args,[]⟩) R s:=by
 refine W3 (fd:=docDef name params body scope pm cd doc) hroom ho hdata hco hgen rfl hcd ?_
 rw[hbind]
 refine WM (wpAny_with_toks (Vn _) (W6 hk hkind fun env he s' X ht=>?_))
 subst he
 refine⟨hlim.keeps X.toInCall.keep,codeAny_func ?_⟩
 obtain⟨h₁,tk,rfl,_⟩:=X.done
 obtain⟨cells,N,Y⟩:=Cl.news (h₀:=s.heap) (Vn _) fun n c hm=>⟨X.cell n c (lookup_of_mem_nodup (cellsFrom_names scope.names 0 (s.heap.objs.size+1) [] [] rfl▸hnd) hm),X.above n c hm⟩
 exact h h₁ tk cells ht ⟨X.toInCall.ns,X.toInCall.keep,X.toInCall.fresh⟩ N Y
theorem finish04{prog:VY}{w:VZ}{s₁ s:Vb}{env:Env}{b:List Stmt}{tp:VY}{loose:List Str}{mean:ExcName->Option VX}{mg mb:Str->Option VX}{script:List Int}{vs:List VX}{rs L:Addr}{mm:Str->Option VX}{o1 o2 o3 o4:Obj}{E:VX->Vb->Prop}(N:News (eZ s₁.heap [(224,220),(250,248)]) L s.heap [(L+1+1+1+1,o4),(L+1+1+1,o3),(L+1+1,o2),(L+1,o1),(220,tabObj #[]),(248,tabObj #[])])(F:Fr (eZ s₁.heap [(224,220),(250,248)]) L s.heap mm)(T:Top tp loose mean mg mb (eZ s₁.heap [(224,220),(250,248)]))(X:(AQ w.params).In (eZ s₁.heap [(224,220),(250,248)]))(hC1:CodeHd (eZ s₁.heap [(224,220),(250,248)]) 224 220)(hC2:CodeHd (eZ s₁.heap [(224,220),(250,248)]) 250 248)(hT9:TabsAt [(224,220),(250,248)] s₁.heap)(w1:Well w.params s₁.heap (.ref rs) (ofPy (.list (script.map PyData.int))))(hL:s₁.heap.IsList rs vs.toArray)(hI:dy vs script)(hlen:script.length<=63)(hg:s₁.gens=#[])(hlt:220<L/\248<L)(d1:o1.data=.cell .none)(d2:o2.data=.cell .none)(d3:o3.data=.cell .none)(d4:o4.data=.cell .none)(hm:mm "script" = some (.ref rs))(he:env={ scope:=(AM (AQ w.params) 251).scope,locals:=L,globals:=Xg,cells:=[(("step":Str),L+1+1+1+1),("first",L+1+1+1),("second",L+1+1),("head",L+1)],qual:=env.qual,func:=env.func,code:=.ref 250,frame:=env.frame,builtins:=Xh })(hb:b=AU (AM (AQ w.params) 251))(htk:0<s.toks)(hos:s.os=s₁.os)(hgs:s.gens=s₁.gens) :
  Vc (model prog w) (callerA.deeper env) (execs b env) (fun f s'=>(Except.ok (.ret (match f with | .ret v=>v|x=>.none)):XF)=.ok (.ret (.bool true))/\(∀ b o,(eZ s₁.heap [(224,220),(250,248)]).get? b=some o->s'.heap.get? b=some o)/\s'.os=s₁.os/\Vl s'.gens/\GrownAll [(224,220),(250,248)] s'.heap) E s:=by
 subst hb
 obtain⟨qual,func,frame,he⟩:∃ q f r,env={ scope:=(AM (AQ w.params) 251).scope,locals:=L,globals:=Xg,cells:=[(("step":Str),L+1+1+1+1),("first",L+1+1+1),("second",L+1+1),("head",L+1)],qual:=q,func:=f,code:=.ref 250,frame:=r,builtins:=Xh }:=⟨_,_,_,he⟩
 subst he
 have hk:(AM (AQ w.params) 251).scope.kind=.function:=by kernel_rfl
 let env:Env:={ scope:=(AM (AQ w.params) 251).scope,locals:=L,globals:=Xg,cells:=[(("step":Str),L+1+1+1+1),("first",L+1+1+1),("second",L+1+1),("head",L+1)],qual:=qual,func:=func,code:=.ref 250,frame:=frame,builtins:=Xh }
 let c:Ctx:=⟨prog,w,callerA.deeper env,env,(eZ s₁.heap [(224,220),(250,248)]).get?,70,rfl,by show callerA.depth+1+70<Vk;decide +kernel,by show callerA.units+3+40 * 70+400<cLine;decide +kernel,hk⟩
 have hscr:∃ ws:List VX,(eZ s₁.heap [(224,220),(250,248)]).get? rs=some { cls:=.type "list",data:=.seq ws.toArray }/\dy ws script:=by
  cases w1 with
  | list hget _=>
   refine⟨_,ghost_get hT9 hget (fun q=>by cases q),?_⟩
   obtain⟨o,ho,_,n,hd⟩:=hL
   rw[hget]at ho
   cases ho
   cases hd
   exact hI
 obtain⟨ws,hws,hwI⟩:=hscr
 have B:Base c (AQ w.params):=⟨fun h hh=>X.keeps hh,⟨mg,fun h hh=>T.g.keeps hh⟩,⟨mb,fun h hh=>T.b.keeps hh,T.builtins⟩,fun h hh=>T.nolimit.keeps hh,rfl,rfl⟩
 have LB:LamBase c mg 250 248:=⟨fun h hh=>T.g.keeps hh,fun h hh=>T.bmain.elim fun bm t9=>t9.elim fun ob t9=>t9.elim fun q1 t9=>t9.elim fun q2 t9=>t9.elim fun q3 r=>⟨bm,ob,q1,q2,hh _ _ q3,r⟩,fun h hh=>hC2.keeps hh,rfl,rfl⟩
 have G:RatB c mg:=⟨LB.glo,LB.bm,fun h hh=>hC1.keeps hh⟩
 have hS:∀ H,AK c H rs (.list (script.map .int)):=fun H=>AK.known fun h hh=>by
  have:=hh _ _ hws
  exact⟨ws.toArray,⟨_,this,rfl,_,rfl⟩,⟨_,this,rfl,rfl⟩,by simpa using DJ hwI⟩
 have cellR:∀ (a:Addr) (o:Obj),s.heap.get? a=some o->o.data=.cell .none->(O.cell .none).rep prog w s.heap a:=fun a o h1 h2=>⟨o,h1,.none,h2,rfl⟩
 have n4:=N (_,o4) (.head _)
 have n3:=N (_,o3) (.tail _ (.head _))
 have n2:=N (_,o2) (.tail _ (.tail _ (.head _)))
 have n1:=N (_,o1) (.tail _ (.tail _ (.tail _ (.head _))))
 have na:=N (220,tabObj #[]) (.tail _ (.tail _ (.tail _ (.tail _ (.head _)))))
 have nb:=N (248,tabObj #[]) (.tail _ (.tail _ (.tail _ (.tail _ (.tail _ (.head _))))))
 have R:Rel c ⟨[("script",.ref rs)],NV (L+1+1+1+1) (L+1+1+1) (L+1+1) (L+1) none [(248,.obj (tabObj #[])),(220,.obj (tabObj #[]))]⟩ s:=by
  refine⟨⟨mm,F.ns,fun x u e=>?_⟩,?_,?_,?_,fun b o e=>F.keep b o e,Bk F.above,.of_eq (hgs.trans hg),htk⟩
  .rw[Vt]at e
   cases q:x==("script":Str) with
   | true=>rw[q]at e;cases e;rw[beq_iff_eq.mp q];exact⟨_,hm,rfl⟩
   | false=>rw[q]at e;cases e
  .exact Ci (cellR _ _ n4.1 d4) (Ci (cellR _ _ n3.1 d3) (Ci (cellR _ _ n2.1 d2) (Ci (cellR _ _ n1.1 d1) (Ci ⟨nb.1,trivial⟩ (Ci ⟨na.1,trivial⟩ O1)))))
  .show List.Nodup [_,_,_,_,_,_]
   have h1:(220:Nat)<L:=hlt.1
   have h2:(248:Nat)<L:=hlt.2
   simp only[Vr,Vq,List.not_mem_nil,or_false,not_or,X4,not_false_eq_true,and_true]
   have key:∀ i j:Nat,i≠j->L+i≠L+j:=fun i j h q=>h (Nat.add_left_cancel q)
   have ka:∀ i:Nat,L+i≠220:=fun i q=>absurd h1 (WL.mpr (q▸W5 L i))
   have kb:∀ i:Nat,L+i≠248:=fun i q=>absurd h2 (WL.mpr (q▸W5 L i))
   exact⟨⟨key 4 3 (by decide),key 4 2 (by decide),key 4 1 (by decide),kb 4,ka 4⟩,⟨key 3 2 (by decide),key 3 1 (by decide),kb 3,ka 3⟩,⟨key 2 1 (by decide),kb 2,ka 2⟩,⟨kb 1,ka 1⟩,by decide⟩
  .exact Cj n4.2 (Cj n3.2 (Cj n2.2 (Cj n1.2 (Cj nb.2 (Cj na.2 O2)))))
 have main:=TZ w.params c rfl B LB G rfl rfl hlen hS _ R
 refine Vv (main _ fun f v m' H' h tk R' F' r q=>?_) (fun _ _ q=>q) fun _ _ q=>q.elim
 have hf:f=.ret (.bool true):=q.1
 have hgr:GrownAll [(224,220),(250,248)] h:=⟨q.2.2.elim fun ps hps=>⟨ps,(R'.obj _ _ hps).1⟩,q.2.1.elim fun ps hps=>⟨ps,(R'.obj _ _ hps).1⟩,trivial⟩
 subst hf
 have r':∃ v',v=.ret v'/\V.rep h (.bool true) v':=r
 obtain⟨v',rfl,hv⟩:=r'
 have hv':v'=.bool true:=hv
 subst hv'
 exact⟨rfl,fun b o e=>R'.keep b o e,hos,R'.bare,hgr⟩
end
end Mine.Internal
end
open PySem PySem.W PyProof.Rows PySem.Calls
set_option maxRecDepth 100000 in
set_option maxHeartbeats 8000000 in
theorem PySem.Challenge.cw_dm0051_04_holds : PySem.Challenge.rw_dm0051_04.Holds := by
  exact Mine.hdL (by
    w_on
    k_fill
    intro w s₀ s₁ mg mb G Y htk fa o pm cd doc dV kV ho hd hcd hD hmg hg args vals as hpre hlay hrd hwl hlo
    have KX := km_in_of Y
    km_tabs Y
    have X := (Ground.X G).1
    have V := (Ground.X G).2
    refine Ground.open G ?_
    intro T B D TE TW
    try (refine guard_noD D (by decide +kernel) ?_; clear D)
    have hT9 : TabsAt ([(224, 220), (250, 248)] : List (Addr × Addr)) s₁.heap := List.forall_mem_cons.mpr ⟨⟨codeHd_of_K (c := 224) (P := 220) KX (by kernel_rfl), hT8 220 (by k_mem)⟩, List.forall_mem_cons.mpr ⟨⟨codeHd_of_K (c := 250) (P := 248) KX (by kernel_rfl), hT8 248 (by k_mem)⟩, fun _ h => nomatch h⟩⟩
    have he9 : cd = PySem.Value.ref 250 := law_code (x := PySem.Str.ofString "law") (c := 250) (P := 248) KX (Top.g T) (by kernel_rfl) hmg ho hd
    subst he9
    clear hmg
    wrow_args hpre hlay hrd hwl hlo
    all_goals (
      first | refine callC_kw (enter_call ?_) | refine enter_call ?_
      w_top on
      refine Mine.Internal.kn_postB hT9 ?h1 ?h2 ?_
      rotate_left 2
      have he := Dflts.none hD rfl
      subst he
      have he := Dflts.noKw hD
      subst he
      refine Mine.Internal.call_cellsT (by decide) ho (fd_plain hd) (Top.nolimit T) hcd rfl (kinds_of (by kinds_ok)) (by decide) fun h₁ tk₁ cells ht₁ F N0 X0 => ?_
      have htk₁ := Nat.lt_of_lt_of_le htk ht₁
      clear ht₁
      cells_open X0
      clear hd
      kn_ghosts F T
      k_drop
      skip)
    refine Mine.Internal.finish04 (by assumption) (by assumption) (by assumption) (by assumption) (by assumption) (by assumption) (by assumption) (by assumption) (by assumption) (by assumption) (by omega) (by assumption) (by assumption) (by assumption) (by assumption) (by assumption) (by assumption) ?g1 ?g2 ?g3 htk₁ rfl rfl
    case g1 => kernel_rfl
    case g2 => kernel_rfl
    case g3 => kernel_rfl
    case h1 => (intro _; rfl)
    case h2 => exact postW_of (X := true) rfl (by show WTm.value _ (.eq .res (.lit (.bool true))) _ = _; simp [WTm.value, PySem.W.same]) rfl)
